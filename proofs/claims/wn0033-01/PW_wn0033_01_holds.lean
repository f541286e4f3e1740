import PyProof.Rows.All
import PyProof.SliceMore
import Wide.All
import OpenK.AllK
import Wide.FinOn
import Lean
import PySem.Challenge.RW_wn0033_01
set_option genSizeOf false
set_option genSizeOfSpec false
set_option genInjectivity false
set_option bootstrap.genMatcherCode false
set_option compiler.extract_closed false

section
set_option Elab.async false
set_option maxRecDepth 100000
set_option linter.unusedVariables false
namespace Mine
open PySem PySem.W PyProof.Rows PySem.Calls

noncomputable def Called (Γ : Ctx) : Prop := ((Γ.code :: Γ.below.map (·.1)).any Code.isCaller) = true
noncomputable def CalledB (Γ : Ctx) : Prop := ((Γ.below.map (·.1)).any Code.isCaller) = true
theorem CalledB.called {Γ : Ctx} (h : CalledB Γ) : Called Γ := by
  unfold Called; rw [List.any_cons, (show _ = true from h), Bool.or_true]
theorem Called.enter {Γ : Ctx} (h : Called Γ) (c : Code) (hd : Option Value) (p : Pos) : CalledB (Γ.enter c hd p) := h
theorem ltA {i m N : Nat} (h : i + (m + 1) = N) : i < N := h ▸ Nat.lt_add_of_pos_right (Nat.succ_pos m)
theorem nxA {i m N : Nat} (h : i + (m + 1) = N) : i + 1 + m = N := (Nat.add_right_comm i 1 m).trans h
theorem zLe {a b c : Nat} (h : a ≤ b) (k : Nat.ble b c = true) : a ≤ c := Nat.le_trans h (Nat.le_of_ble_eq_true k)
theorem zLt {a b c : Nat} (h : a ≤ b) (k : Nat.ble (b + 1) c = true) : a < c := Nat.lt_of_le_of_lt h (Nat.le_of_ble_eq_true k)
theorem zNe {a b c : Nat} (h : b ≤ a) (k : Nat.ble (c + 1) b = true) : a ≠ c := fun e => Nat.lt_irrefl c (Nat.lt_of_lt_of_le (Nat.le_of_ble_eq_true k) (Nat.le_trans h (Nat.le_of_eq e)))
theorem z20 {a b : Nat} (h : a ≤ b) (k : Nat.ble (b + 1) (2 ^ 20) = true) : (a : Int) < 2 ^ 20 := Int.ofNat_lt.mpr (zLt h k)
theorem z62 {a b : Nat} (h : a ≤ b) (k : Nat.ble (b + 1) (2 ^ 62) = true) : (a : Int) < 2 ^ 62 := Int.ofNat_lt.mpr (zLt h k)
theorem z63 {a b : Nat} (h : a ≤ b) (k : Nat.ble (b + 1) (2 ^ 63) = true) : (a : Int) < 2 ^ 63 := Int.ofNat_lt.mpr (zLt h k)
theorem z27 {a : Nat} (h : a ≤ 100) : (2 : Int) * (a : Int) ≤ 2 ^ 27 := by omega
theorem zSub {a b : Nat} (h : a < b) : b - a = b - (a + 1) + 1 := (Nat.succ_pred_eq_of_pos (Nat.sub_pos_of_lt h)).symm
theorem zAs {a b : Nat} : a + 1 + b = a + (b + 1) := Nat.succ_add_eq_add_succ a b
theorem zEq {a b c : Nat} (h : a = b) (k : b ≤ c) : a ≤ c := h ▸ k
theorem z28 {a b : Nat} (h1 : a < b) : (a + b) / 2 < b := Nat.div_lt_of_lt_mul (Nat.two_mul b ▸ Nat.add_lt_add_right h1 b)
theorem z40 {a b : Nat} (h1 : a < b) : a ≤ (a + b) / 2 := (Nat.le_div_iff_mul_le (Nat.succ_pos 1)).mpr (Nat.mul_two a ▸ Nat.add_le_add_left (Nat.le_of_lt h1) a)
theorem z18 {a b c : Nat} (h : a + (b + 1) ≤ c) : a + 1 + b ≤ c := zEq zAs h
theorem zLo {a : Int} (h : 0 ≤ a) : -9223372036854775808 ≤ a := Int.le_trans (by decide) h
theorem om4 {a b c : Nat} (h1 : (a < b)) (h2 : (c < b)) : ((a - c) < (b - c)) := Nat.lt_sub_of_add_lt (Nat.lt_of_le_of_lt (Nat.le_of_eq (Nat.sub_add_eq_max _ _)) (Nat.max_lt.mpr ⟨h1, h2⟩))
theorem om6 {a b c d e : Nat} (h1 : ((a - b) < (c + 1))) (h2 : (b ≤ d)) (h3 : (d < e)) (h4 : (e ≤ a)) : ((a - e) < c) := Nat.lt_of_lt_of_le (Nat.sub_lt_sub_left (Nat.lt_of_lt_of_le (Nat.lt_of_le_of_lt h2 h3) h4) (Nat.lt_of_le_of_lt h2 h3)) (Nat.le_of_lt_succ h1)
theorem om19 {a b c d : Nat} (h1 : ((a < b) ∧ (b ≤ c))) (h2 : (d ≤ b)) (h3 : (¬ ((a < d) ∧ (d ≤ c)))) : (d ≤ (b - 1)) := Nat.le_sub_one_of_lt (Nat.lt_of_le_of_ne h2 fun e => h3 (e ▸ h1))
theorem om38 {a b c d : Nat} (h1 : ((a + (b + 1)) < c)) (h2 : (d ≤ b)) : (((a + 1) + d) < c) := Nat.lt_of_le_of_lt (zEq zAs (Nat.add_le_add_left (Nat.succ_le_succ h2) _)) h1
theorem om48 {a b c : Nat} (h1 : ((a ≤ b) ∧ (b < c))) : ((((a + c) - 1) - b) < c) := Nat.sub_lt_left_of_lt_add (Nat.le_sub_one_of_lt (Nat.lt_of_lt_of_le h1.2 (Nat.le_add_left _ _))) (Nat.lt_of_lt_of_le (Nat.sub_one_lt_of_lt (Nat.lt_of_lt_of_le h1.2 (Nat.le_add_left _ _))) (Nat.add_le_add_right h1.1 _))
theorem om50 {a b c : Nat} (h1 : ((a ≤ b) ∧ (b < c))) : (a ≤ (((a + c) - 1) - b)) := Nat.le_sub_of_add_le (Nat.le_sub_one_of_lt (Nat.add_lt_add_left h1.2 _))
theorem om77 {a b : Nat}  : (((a = b) ∨ (a < b)) ↔ (a < (b + 1))) := ⟨fun h => h.elim (fun e => e ▸ Nat.lt_succ_self _) Nat.lt_succ_of_lt, fun h => (Nat.lt_succ_iff_lt_or_eq.mp h).symm⟩
theorem om81 {a b c : Nat} (h1 : ((1 + a) ≤ (b + 1))) (h2 : (c < a)) : (c ≤ b) := Nat.le_of_lt (Nat.lt_of_lt_of_le h2 (Nat.le_of_succ_le_succ (zEq (Nat.add_comm _ 1) h1)))
theorem om120 {a b c d : Nat} (h1 : ((a + 60) < b)) (h2 : (c ≤ 40)) (h3 : (d ≤ c)) : (((a + 1) + d) < b) := Nat.lt_of_le_of_lt (Nat.le_trans (Nat.add_le_add_left (Nat.le_trans h3 h2) _) (zEq (Nat.add_assoc _ 1 40) (Nat.add_le_add_left (Nat.le_of_ble_eq_true rfl) _))) h1
theorem om134 {a b c d : Nat} (h1 : (((a + b) + 1) < c)) (h2 : (d ≤ b)) : (((a + 1) + d) < c) := Nat.lt_of_le_of_lt (zEq (Nat.add_right_comm _ 1 _) (Nat.succ_le_succ (Nat.add_le_add_left h2 _))) h1
theorem om150 {a b c d e : Nat} (h1 : ((a + b) ≤ c)) (h2 : (d = a)) (h3 : (e = b)) : ((d + e) ≤ (c + 1)) := Nat.le_succ_of_le (Nat.le_trans (Nat.add_le_add (Nat.le_of_eq h2) (Nat.le_of_eq h3)) h1)
theorem s63 {n : Nat} (h : n ≤ 100000) : ((n : Nat) : Int) < 2 ^ 63 := by (first | exact z63 h rfl | omega)
theorem s62 {n : Nat} (h : n ≤ 100000) : n < 2 ^ 62 := by (first | exact zLt h rfl | omega)
theorem sLn {n : Nat} (h : n ≤ 100000) : n ≤ sizeLine := by rw [sizeLine_eq]; (first | exact zLe h rfl | omega)
structure wpC {α : Type} (M : Model) (A : Around) (t : Sem α) (Q : α → Shared → Prop) (E : Value → Shared → Prop) (s : Shared) : Prop where
  run : ∀ Γ p, Γ.In A → Called Γ → Sem.wp M Γ t (fun a _ s' => Q a s') (fun e _ s' => E e s') p s
noncomputable def codeC (M : Model) (A : Around) (c : Code) (R : Result → Shared → Prop) (s : Shared) : Prop :=
  ∀ Γ p, Γ.code = c → Γ.Below A → CalledB Γ → wpCode M Γ R p s

section
variable {α β : Type} {M : Model} {A : Around} {E : Value → Shared → Prop} {s : Shared}

theorem wpC.of {t : Sem α} {Q : α → Shared → Prop} (h : wpAny M A t Q E s) : wpC M A t Q E s := ⟨fun Γ p hΓ _ => h Γ p hΓ⟩
theorem wpC_pure {a : α} {Q : α → Shared → Prop} (h : Q a s) : wpC M A (pure a) Q E s := ⟨fun _ _ _ _ => h⟩
theorem wpC_mono {t : Sem α} {Q Q' : α → Shared → Prop} {E' : Value → Shared → Prop} (h : wpC M A t Q E s)
    (hQ : ∀ a s, Q a s → Q' a s) (hE : ∀ e s, E e s → E' e s) : wpC M A t Q' E' s :=
  ⟨fun Γ p hΓ hC => Sem.wp_mono M Γ t (fun a _ s => hQ a s) (fun e _ s => hE e s) p s (h.run Γ p hΓ hC)⟩
theorem wpC_bind {m : Sem α} {f : α → Sem β} {Q : β → Shared → Prop} (h : wpC M A m (fun a s' => wpC M A (f a) Q E s') E s) :
    wpC M A (m >>= f) Q E s := .mk fun Γ p hΓ hC => by
  rw [Sem.wp_bind']
  exact Sem.wp_mono M Γ m (fun a p' s' h' => h'.run Γ p' hΓ hC) (fun _ _ _ h' => h') p s (h.run Γ p hΓ hC)
theorem wpC_onRaise {m : Sem α} {k : Value → Sem Unit} {Q : α → Shared → Prop}
    (h : wpC M A m Q (fun e s' => wpC M A (k e) (fun _ s'' => E e s'') E s') s) : wpC M A (m.onRaise k) Q E s := .mk fun Γ p hΓ hC => by
  rw [Sem.wp_onRaise]
  exact Sem.wp_mono M Γ m (fun _ _ _ h' => h') (fun e p' s' h' => h'.run Γ p' hΓ hC) p s (h.run Γ p hΓ hC)
theorem wpC_attempt {m : Sem α} {Q : Except Value α → Shared → Prop} (h : wpC M A m (fun a => Q (.ok a)) (fun e => Q (.error e)) s) :
    wpC M A m.attempt Q E s := .mk fun Γ p hΓ hC => by rw [Sem.wp_attempt]; exact h.run Γ p hΓ hC
theorem wpC_holding {vs : List Value} {m : Sem α} {Q : α → Shared → Prop} (h : wpC M A m Q E s) : wpC M A (holding vs m) Q E s :=
  .mk fun Γ p hΓ hC => by rw [Sem.wp_holding]; exact h.run Γ p hΓ hC
theorem wpC_standAt {pos : Pos} {Q : Unit → Shared → Prop} (h : Q () s) : wpC M A (standAt pos) Q E s := ⟨fun _ _ _ _ => h⟩
theorem wpC_point {Q : Unit → Shared → Prop} (h : Q () s) : wpC M A point Q E s := ⟨fun _ _ _ _ => h⟩
theorem wpC_operate {vs : List Value} {m : Sem Value} {Q : Value → Shared → Prop} (h : wpC M A m Q E s) : wpC M A (operate vs m) Q E s :=
  .mk fun Γ p hΓ hC => by rw [Sem.wp_operate]; exact h.run Γ p hΓ hC
theorem wpC_of_eq {t : Sem α} {a : α} {Q : α → Shared → Prop} (e : t = pure a) (h : Q a s) : wpC M A t Q E s := by rw [e]; exact wpC_pure h

theorem codeC_mono {c : Code} {R R' : Result → Shared → Prop} (h : codeC M A c R s) (hR : ∀ r s, R r s → R' r s) : codeC M A c R' s :=
  fun Γ p hc hΓ hC => wpCode_mono hR (h Γ p hc hΓ hC)
theorem wpC_run {c : Code} {h : Option Value} {Q : Flow → Shared → Prop}
    (hc : codeC M (A.mark h) c (fun r s' => match r with | .ok f => Q f s' | .error e => E e s') s) (hnb : h ≠ some byPass) :
    wpC M A (run c h) Q E s :=
  .mk fun Γ p hΓ hC => by rw [Sem.wp_run]; exact hc _ p rfl (hΓ.enter c h p hnb) (hC.enter c h p)
theorem wpC_runValue {c : Code} {Q : Value → Shared → Prop}
    (hc : codeC M A c (fun r s' => match r with | .ok (.ret v) => Q v s' | .ok _ => False | .error e => E e s') s) :
    wpC M A (runValue c) Q E s := .mk fun Γ p hΓ hC => by rw [Sem.wp_runValue]; exact hc _ p rfl (hΓ.enter c none p (by intro x; cases x)) (hC.enter c none p)
theorem wpC_call {f : Value} {pos : List Value} {kw : List (Str × Value)} {Q : Value → Shared → Prop}
    (hc : codeC M A (.call f ⟨pos, kw⟩) (fun r s' => match r with | .ok (.ret v) => Q v s' | .ok _ => False | .error e => E e s') s) :
    wpC M A (call f pos kw) Q E s := wpC_runValue hc
theorem codeC_of_tree {c : Code} {R : Result → Shared → Prop}
    (h : wpC M (A.under c) (M.den c) (fun fin s' => match fin with | .done f => R (.ok f) s' | .again c' => c'.quiet = true ∧ codeC M A c' R s')
      (fun e s' => R (.error e) s') s) : codeC M A c R s := fun Γ p hc hΓ hC => by
  rw [wpCode_iff_wp, hc]
  refine Sem.wp_mono M Γ _ (fun fin p' s' h' => ?_) (fun _ _ _ h' => h') p s (h.run Γ p (hc ▸ hΓ.in) hC.called)
  cases fin with
  | done f => exact h'
  | again c' => exact ⟨h'.1, h'.2 (Γ.goto c') p' rfl (hΓ.goto c') hC⟩
theorem codeC_loop {c : Code} {R : Result → Shared → Prop} (hq : c.quiet = true) (I : Nat → Shared → Prop)
    (turn : ∀ n s, I n s → wpC M (A.under c) (M.den c)
      (fun fin s' => match fin with
        | .done f => R (.ok f) s'
        | .again c' => (c' = c ∧ ∃ m, m < n ∧ I m s') ∨ (c'.quiet = true ∧ codeC M A c' R s')) (fun e s' => R (.error e) s') s)
    (n : Nat) (h : I n s) : codeC M A c R s := by
  induction n using Nat.strongRecOn generalizing s with
  | ind n ih =>
    refine codeC_of_tree (wpC_mono (turn n s h) (fun fin s' hf => ?_) fun _ _ h' => h')
    cases fin with
    | done f => exact hf
    | again c' =>
      rcases hf with ⟨rfl, m, hm, hI⟩ | hf
      · exact ⟨hq, ih m hm hI⟩
      · exact hf
end

section
variable {α : Type} {M : Model} {A : Around} {E : Value → Shared → Prop} {s : Shared} {env : Env}

theorem wpC_noted {m : Sem α} {Q : α → Shared → Prop} (h : wpC M A m Q (notedBy M A env E) s) : wpC M A (m.onRaise fun x => do noteFrame x env; theTreesLotGoes x) Q E s :=
  wpC_onRaise (wpC_mono h (fun _ _ q => q) fun _ _ hx => .of (wpAny_bind (wpAny_mono hx (fun _ _ e => wpAny_theTreesLotGoes e) fun _ _ e => e)))
theorem wpC_runOwn {c : Code} {h : Option Value} {Q : Flow → Shared → Prop}
    (hc : codeC M (A.mark h) c (fun r s' => match r with | .ok f => Q f s' | .error e => cameBackBy M A env E e s') s) (hnb : h ≠ some byPass) :
    wpC M A (runOwn c env h) Q E s := by
  unfold runOwn
  exact wpC_onRaise (wpC_mono (wpC_run (E := fun e s' => cameBackBy M A env E e s') hc hnb) (fun _ _ q => q) fun _ _ h' => .of h')

theorem wpC_BinOp {l op r pos} {Q : Value → Shared → Prop}
    (h : wpC M A (eval l env) (fun a s₁ => wpC M A (eval r env) (fun b s₂ => wpAny M A (binaryOp op a b) Q E s₂) E s₁) E s) :
    wpC M A (eval (.BinOp l op r pos) env) Q E s := by
  rw [eval_BinOp]
  exact wpC_bind (wpC_mono h (fun a s₁ h₁ => wpC_bind (wpC_holding (wpC_mono h₁ (fun b s₂ h₂ => wpC_bind (wpC_standAt (wpC_operate (.of h₂)))) fun _ _ x => x))) fun _ _ x => x)
theorem wpC_UnaryOp {op : UnaryOp} {x : Expr} {pos : Pos} {Q : Value → Shared → Prop} (h : wpC M A (eval x env) (fun v s₁ => wpAny M A (unaryOp op v) Q E s₁) E s) :
    wpC M A (eval (.UnaryOp op x pos) env) Q E s := by
  rw [arm_eval_UnaryOp]
  exact wpC_bind (wpC_mono h (fun v s₁ h₁ => wpC_bind (wpC_standAt (wpC_holding (.of h₁)))) fun _ _ x => x)
theorem wpC_Compare1 {l op r pos} {Q : Value → Shared → Prop}
    (h : wpC M A (eval l env) (fun a s₁ => wpC M A (eval r env) (fun b s₂ => wpAny M A (compareOp op a b) Q E s₂) E s₁) E s)
    (hm : behindInMarks op r = false) : wpC M A (eval (.Compare l [op] [r] pos) env) Q E s := by
  rw [eval_Compare1, markedBehindIn_of_false hm]
  exact wpC_bind (wpC_mono h (fun a s₁ h₁ => wpC_bind (wpC_holding (wpC_mono h₁ (fun b s₂ h₂ => wpC_bind (wpC_standAt (wpC_operate (.of h₂)))) fun _ _ x => x))) fun _ _ x => x)
theorem wpC_isTrue_Compare1 {l op r pos whole} {Q : Bool → Shared → Prop}
    (h : wpC M A (eval l env) (fun a s₁ => wpC M A (eval r env) (fun b s₂ => wpAny M A (compareOp op a b) (fun c s₃ => wpAny M A (truthy c) Q E s₃) E s₂) E s₁) E s)
    (hm : behindInMarks op r = false) : wpC M A (isTrue (.Compare l [op] [r] pos) env whole) Q E s := by
  rw [isTrue_Compare1, markedBehindIn_of_false hm]
  exact wpC_bind (wpC_mono h (fun a s₁ h₁ => wpC_bind (wpC_holding (wpC_mono h₁ (fun b s₂ h₂ => wpC_bind (wpC_standAt (wpC_bind (wpC_operate (wpC_mono (.of h₂) (fun c s₃ h₃ => wpC_holding (.of h₃)) fun _ _ x => x))))) fun _ _ x => x))) fun _ _ x => x)
theorem wpC_isTrue_value {e : Expr} {whole : Sem Value} {Q : Bool → Shared → Prop} (h : wpC M A whole (fun v s₁ => wpAny M A (truthy v) Q E s₁) E s)
    (he : isTrue e env whole = (do let v ← whole; standAt e.pos; holding [v] (truthy v))) : wpC M A (isTrue e env whole) Q E s := by
  rw [he]
  exact wpC_bind (wpC_mono h (fun v s₁ h₁ => wpC_bind (wpC_standAt (wpC_holding (.of h₁)))) fun _ _ x => x)
theorem wpC_isTrue_BoolOp {op : BoolOp} {values : List Expr} {pos : Pos} {whole : Sem Value} {Q : Bool → Shared → Prop} (h : wpC M A (allTrue op values env) Q E s) :
    wpC M A (isTrue (.BoolOp op values pos) env whole) Q E s := by rw [arm_isTrue_BoolOp]; exact h
theorem wpC_allTrue_And_nil {Q : Bool → Shared → Prop} (h : Q true s) : wpC M A (allTrue .And [] env) Q E s := wpC_pure h
theorem wpC_allTrue_And_cons {x : Expr} {rest : List Expr} {Q : Bool → Shared → Prop}
    (h : wpC M A (isTrue x env (eval x env)) (fun b s₁ => if b then wpC M A (allTrue .And rest env) Q E s₁ else Q false s₁) E s) : wpC M A (allTrue .And (x :: rest) env) Q E s := by
  show wpC M A (do match BoolOp.And, ← isTrue x env (eval x env) with | .And, false => pure false | .Or, true => pure true | _, _ => allTrue .And rest env) Q E s
  refine wpC_bind (wpC_mono h (fun b s₁ h₁ => ?_) fun _ _ x => x)
  cases b
  · exact wpC_pure h₁
  · exact h₁
theorem wpC_execs_cons {st rest} {Q : Flow → Shared → Prop}
    (h : wpC M A (exec st env) (fun f s' => match f with | .next => wpC M A (execs rest env) Q E s' | f => Q f s') E s) :
    wpC M A (execs (st :: rest) env) Q E s := by
  rw [execs_cons]
  refine wpC_bind (wpC_mono h (fun f s' h' => ?_) fun _ _ x => x)
  cases f <;> first | exact h' | exact wpC_pure h'
theorem wpC_If {test body orelse pos} {Q : Flow → Shared → Prop}
    (h : wpC M A (isTrue test env (eval test env)) (fun b s₂ => if b then wpC M A (execs body env) Q E s₂ else wpC M A (execs orelse env) Q E s₂) E s) :
    wpC M A (exec (.If test body orelse pos) env) Q E s := by
  rw [exec_If]
  refine wpC_bind (wpC_standAt (wpC_bind (wpC_mono h (fun b s₂ h₂ => ?_) fun _ _ x => x)))
  cases b <;> exact h₂
theorem wpC_Return_some {e pos} {Q : Flow → Shared → Prop} (h : wpC M A (eval e env) (fun v => Q (.ret v)) E s) :
    wpC M A (exec (.Return (some e) pos) env) Q E s := by
  rw [exec_Return_some]
  exact wpC_bind (wpC_standAt (wpC_bind (wpC_mono h (fun v s₁ h₁ => wpC_pure h₁) fun _ _ x => x)))
theorem wpC_Assign_Name {x pos' value pos} {Q : Flow → Shared → Prop}
    (h : wpC M A (eval value env) (fun v s₁ => wpAny M A (storeName env x v) (fun _ => Q .next) E s₁) E s)
    (hs : swapsWith value (some (.Name x pos')) pos.line env = pure false) :
    wpC M A (exec (.Assign [.Name x pos'] value pos) env) Q E s := by
  rw [exec_Assign_Name env x pos' value pos hs]
  exact wpC_bind (wpC_standAt (wpC_bind (wpC_mono h (fun v s₁ h₁ => wpC_bind (wpC_standAt (wpC_bind (.of (wpAny_bindName (wpAny_mono h₁ (fun _ _ q => wpC_pure q) fun _ _ x => x)))))) fun _ _ x => x)))
theorem wpC_Assign_Subscript {o i pos' value pos} {Q : Flow → Shared → Prop}
    (h : wpC M A (eval value env) (fun v s₁ => wpC M A (eval o env) (fun ov s₂ => wpC M A (eval i env) (fun iv s₃ => wpAny M A (setItem ov iv v) (fun _ => Q .next) E s₃) E s₂) E s₁) E s)
    (hs : swapsWith value (some (.Subscript o i pos')) pos.line env = pure false) :
    wpC M A (exec (.Assign [.Subscript o i pos'] value pos) env) Q E s := by
  rw [exec_Assign_Subscript o i pos' value pos hs]
  refine wpC_bind (wpC_standAt (wpC_bind (wpC_mono h (fun v s₁ h₁ => wpC_bind ?_) fun _ _ x => x)))
  rw [assign_Subscript]
  exact wpC_bind (wpC_holding (wpC_mono h₁ (fun ov s₂ h₂ => wpC_bind (wpC_holding (wpC_mono h₂ (fun iv s₃ h₃ => wpC_bind (wpC_standAt (wpC_bind (wpC_holding (wpC_mono (.of h₃) (fun _ s₄ h₄ => .mk fun Γ p hΓ hC => by
    rw [Sem.wp_release]; exact wpC_pure h₄) fun _ _ x => x))))) fun _ _ x => x))) fun _ _ x => x))
theorem wpC_Expr {e pos} {Q : Flow → Shared → Prop} (h : wpC M A (eval e env) (fun v s' => match v with | .ref _ => False | _ => Q .next s') E s)
    (hi : interactive env = false) (hs : swapsWith e none pos.line env = pure false) :
    wpC M A (exec (.Expr e pos) env) Q E s := by
  rw [exec_Expr env e pos hi hs]
  refine wpC_bind (wpC_standAt (wpC_bind (wpC_mono h (fun v s' h' => ?_) fun _ _ x => x)))
  have hv : ∀ a, v ≠ .ref a := fun a hva => by subst hva; exact h'
  rw [dropValue_plain hv]
  refine wpC_pure ?_
  cases v <;> first | exact h' | exact (hv _ rfl).elim
theorem wpC_While {test body orelse pos} {Q : Flow → Shared → Prop}
    (h : codeC M A (.whileLoop test body orelse env) (fun r s' => match r with | .ok f => Q f s' | .error e => cameBackBy M A env E e s') s) :
    wpC M A (exec (.While test body orelse pos) env) Q E s := by
  rw [exec_While]; exact wpC_bind (wpC_standAt (wpC_runOwn h (by intro x; cases x)))
theorem wpC_For {target iter body orelse pos} {Q : Flow → Shared → Prop}
    (h : wpC M A (eval iter env) (fun x s₁ => wpAny M A (pyIter x) (fun it s₂ =>
      codeC M A (.forLoop target it body orelse env) (fun r s' => match r with | .ok f => Q f s' | .error e => cameBackBy M A env E e s') s₂) E s₁) E s)
    (hs : ∀ x, foldedSetIterable iter env x = pure x) :
    wpC M A (exec (.For target iter body orelse pos) env) Q E s := by
  rw [exec_For]
  exact wpC_bind (wpC_standAt (wpC_bind (wpC_mono h (fun x s₁ h₁ => wpC_bind (wpC_of_eq (hs x) (wpC_bind (wpC_standAt (wpC_bind (wpC_holding
    (wpC_mono (.of h₁) (fun it s₂ h₂ => wpC_runOwn h₂ (by intro x; cases x)) fun _ _ h' => h'))))))) fun _ _ h' => h')))

theorem splicedC_cons {x : Sem Value} {rest : List (Bool × Sem Value)} {Q : List Value → Shared → Prop}
    (h : wpC M A x (fun v s₁ => wpC M A (spliced rest) (fun vs s₂ => Q (v :: vs) s₂) E s₁) E s) : wpC M A (spliced ((false, x) :: rest)) Q E s := by
  rw [spliced]
  refine wpC_bind (wpC_mono h (fun v s₁ h₁ => ?_) fun _ _ x => x)
  simp only [Bool.false_eq_true, if_false]
  exact wpC_bind (wpC_pure (wpC_bind (wpC_holding (wpC_mono h₁ (fun vs s₂ h₂ => wpC_pure h₂) fun _ _ x => x))))
theorem ListC_ {elts : List Expr} {pos : Pos} {Q : Value → Shared → Prop}
    (h : wpC M A (spliced (backTo pos (starEach elts env))) (fun vs s₁ => wpAny M A (newList vs) Q E s₁) E s) : wpC M A (eval (.List elts pos) env) Q E s := by
  show wpC M A (do standAt pos; newList (← spliced (backTo pos (starEach elts env)))) Q E s
  exact wpC_bind (wpC_standAt (wpC_bind (wpC_mono h (fun _ _ q => .of q) fun _ _ x => x)))
theorem TupleC_ {elts : List Expr} {k : Nat} {pos : Pos} {Q : Value → Shared → Prop}
    (h : wpC M A (spliced (backTo pos (starEach elts env))) (fun vs s₁ => wpAny M A (newTuple vs) Q E s₁) E s) : wpC M A (eval (.Tuple elts k pos) env) Q E s := by
  show wpC M A (do standAt pos; newTuple (← spliced (backTo pos (starEach elts env)))) Q E s
  exact wpC_bind (wpC_standAt (wpC_bind (wpC_mono h (fun _ _ q => .of q) fun _ _ x => x)))
theorem wpC_evalAll_nil {Q : List Value → Shared → Prop} (h : Q [] s) : wpC M A (evalAll []) Q E s := wpC_pure h
theorem wpC_evalAll_cons {x : Sem Value} {rest : List (Sem Value)} {Q : List Value → Shared → Prop}
    (h : wpC M A x (fun v s₁ => wpC M A (evalAll rest) (fun vs s₂ => Q (v :: vs) s₂) E s₁) E s) : wpC M A (evalAll (x :: rest)) Q E s := by
  rw [evalAll]
  exact wpC_bind (wpC_mono h (fun v s₁ h₁ => wpC_bind (wpC_holding (wpC_mono h₁ (fun vs s₂ h₂ => wpC_pure h₂) fun _ _ x => x))) fun _ _ x => x)
theorem evalArgsC_kw {f : Value} {x : Sem Value} {rest : List (Bool × Sem Value)} {keywords : List (Option Str × Sem Value)} {Q : Args → Shared → Prop}
    (hall : keywords.all (·.1.isSome) = true)
    (h : wpC M A (spliced ((false, x) :: rest)) (fun vs s₁ => wpC M A (evalAll (keywords.map (·.2))) (fun ks s₂ => Q ⟨vs, (keywords.filterMap (·.1)).zip ks⟩ s₂) E s₁) E s) :
    wpC M A (evalArgs f true ((false, x) :: rest) keywords) Q E s := by
  unfold evalArgs
  show wpC M A (spliced ((false, x) :: rest) >>= _) Q E s
  refine wpC_bind (wpC_mono h (fun vs s₁ h₁ => ?_) fun _ _ x => x)
  refine wpC_holding ?_
  simp only [hall, if_true]
  refine wpC_bind (wpC_mono h₁ (fun ks s₂ h₂ => ?_) fun _ _ x => x)
  exact wpC_bind (wpC_pure (wpC_pure h₂))
theorem wpC_Call_Name_kw {id : Str} {p pos : Pos} {args : List Expr} {keywords : List Keyword} {Q : Value → Shared → Prop}
    (h : wpC M A (eval (.Name id p) env) (fun f s₁ => wpC M A (callWith pos f [] (backTo pos (starEach args env)) (backToKw pos (keywordEach keywords env))) Q E s₁) E s) :
    wpC M A (eval (.Call (.Name id p) args keywords pos) env) Q E s := by
  rw [arm_eval_Call_Name']
  exact wpC_bind h
theorem callWithC_builtin {pos : Pos} {id : String} {first : List Value} {args : List (Bool × Sem Value)} {Q : Value → Shared → Prop} (hplain : args.any (·.1) = false)
    (h : wpC M A (evalArgs (.builtin id) true args []) (fun a s₁ => wpC M A (call (.builtin id) (first ++ a.pos) a.kw) Q E s₁) E s) :
    wpC M A (callWith pos (.builtin id) first args []) Q E s := by
  unfold callWith
  refine wpC_bind (wpC_holding (wpC_mono h (fun a s₁ h₁ => wpC_bind (wpC_standAt ?_)) fun _ _ x => x))
  simp only [hplain, List.any_nil, Bool.or_false]
  refine wpC_bind (wpC_pure ?_)
  exact wpC_bind (wpC_mono h₁ (fun r s₂ hr => wpC_bind (wpC_holding (.of (wpAny_point (wpC_pure hr))))) fun _ _ x => x)
theorem callWithC_type {pos : Pos} {T : String} {first : List Value} {args : List (Bool × Sem Value)} {Q : Value → Shared → Prop} (hplain : args.any (·.1) = false)
    (h : wpC M A (evalArgs (.type T) true args []) (fun a s₁ => wpC M A (call (.type T) (first ++ a.pos) a.kw) Q E s₁) E s) :
    wpC M A (callWith pos (.type T) first args []) Q E s := by
  unfold callWith
  refine wpC_bind (wpC_holding (wpC_mono h (fun a s₁ h₁ => wpC_bind (wpC_standAt ?_)) fun _ _ x => x))
  simp only [hplain, List.any_nil, Bool.or_false]
  refine wpC_bind (wpC_pure ?_)
  exact wpC_bind (wpC_mono h₁ (fun r s₂ hr => wpC_bind (wpC_holding (.of (wpAny_point (wpC_pure hr))))) fun _ _ x => x)
theorem SubscriptC_ {value slice pos} {Q : Value → Shared → Prop}
    (h : wpC M A (eval value env) (fun o s₁ => wpC M A (eval slice env) (fun i s₂ => wpAny M A (subscriptTail value slice o i) Q E s₂) E s₁) E s) :
    wpC M A (eval (.Subscript value slice pos) env) Q E s := by
  rw [eval_Subscript]
  exact wpC_bind (wpC_mono h (fun o s₁ h₁ => wpC_bind (wpC_holding (wpC_mono h₁ (fun i s₂ h₂ => wpC_bind (wpC_standAt (.of h₂))) fun _ _ x => x))) fun _ _ x => x)
theorem wpC_Slice {lower upper step : Option Expr} {p : Pos} {Q : Value → Shared → Prop}
    (h : wpC M A (evalPart lower env) (fun l s₁ => wpC M A (evalPart upper env) (fun u s₂ => wpC M A (evalPart step env) (fun st s₃ =>
      Q (.ref s₃.heap.objs.size) { s₃ with heap := s₃.heap.push { cls := .type "slice", data := .fields #[l, u, st] } }) E s₂) E s₁) E s) :
    wpC M A (eval (.Slice lower upper step p) env) Q E s := by
  rw [arm_eval_Slice]
  refine wpC_bind (wpC_mono h (fun l s₁ h₁ => wpC_bind (wpC_holding (wpC_mono h₁ (fun u s₂ h₂ => wpC_bind (wpC_holding (wpC_mono h₂ (fun st s₃ h₃ => ?_) fun _ _ x => x))) fun _ _ x => x))) fun _ _ x => x)
  exact .of (wpAny_newObj_type h₃)
end

section
variable {prog : Program} {w : World} {A : Around} {E : Value → Shared → Prop} {R : Result → Shared → Prop} {s : Shared} {env : Env}
theorem codeC_block {stmts : List Stmt}
    (h : wpC (model prog w) A (execs stmts env) (fun f s' => R (.ok f) s') (notedBy (model prog w) A env fun e s' => R (.error e) s') s) : codeC (model prog w) A (.block stmts env) R s := by
  refine codeC_of_tree ?_
  show wpC _ _ (do return Fin.done (← (execs stmts env).onRaise (fun x => do noteFrame x env; theTreesLotGoes x))) _ _ s
  exact wpC_bind (wpC_noted (wpC_mono h (fun f s' h' => wpC_pure h') fun _ _ h' => h'))
theorem codeC_func {body}
    (h : wpC (model prog w) (A.deeper env) (execs body env) (fun f s' => R (.ok (.ret (match f with | .ret v => v | _ => .none))) s') (fun _ _ => False) s) :
    codeC (model prog w) A (.func body env) R s := by
  refine codeC_of_tree ?_
  show wpC _ (A.deeper env) (do point; match ← (execs body env).onRaise (leaving env) with | .ret v => ret v | _ => ret .none) _ _ s
  refine wpC_bind (wpC_point (wpC_bind (wpC_onRaise (wpC_mono h (fun f s' h' => ?_) fun _ _ h' => h'.elim))))
  cases f <;> exact wpC_pure h'
theorem codeC_call_function {a : Addr} {args : Args} {o : Obj} {fd : FuncData} {body : List Stmt} (hroom : A.depth < recursionLimit)
    (ho : s.heap.get? a = some o)
    (hd' : o.data = .func fd) (hco : fd.scope.isCoroutine = false) (hgen : fd.scope.isGenerator = false) (hbody : fd.body = .stmts body) (hcd : s.heap.CodeRec fd.code fd.qualname)
    (h : wpAny (model prog w) A.in1 (bindArgs fd args) (fun binds s₁ =>
      wpAny (model prog w) A.in1 (newFunctionEnv fd.scope fd.globals fd.closure binds (fd.qualname ++ ".<locals>.") (some a) fd.code none fd.builtins)
        (fun env s₂ => s₂.heap.NoLimit ∧ codeC (model prog w) A (.func body env) R s₂) (fun e s' => R (.error e) s') s₁) (fun e s' => R (.error e) s') s) :
    codeC (model prog w) A (.call (.ref a) args) R s := by
  refine codeC_of_tree ?_
  show wpC _ A.in1 (callAny (.ref a) args) _ _ s
  simp only [callAny]
  refine .of (wpAny_bind (wpAny_load ho ?_))
  obtain ⟨c, oc, vs, tq, hc, hoc, hdc, hq⟩ := hcd
  simp only [hd', callFunction, hco, hgen, hbody, hc]
  rw [hc] at h
  refine wpAny_bind (m := field (.ref c) 1) (wpAny_field hoc hdc hq (wpAny_bind (wpAny_pure ?_)))
  exact wpAny_bind (wpAny_mono h (fun binds s₁ h₁ => wpAny_bind (wpAny_mono h₁ (fun env s₂ h₂ => wpAny_bind (wpAny_enterFrame h₂.1 hroom
    (wpAny_pure (And.intro rfl h₂.2)))) fun _ _ h' => h')) fun _ _ h' => h')
theorem codeC_whileLoop {test body orelse} (I : Nat → Shared → Prop)
    (turn : ∀ n s E, I n s → wpC (model prog w) A (isTrue test env (eval test env)) (fun b s₂ =>
        if b then wpC (model prog w) A (execs body env) (fun f s₃ => match f with
            | .next | .cont => ∃ m, m < n ∧ I m s₃
            | .brk => R (.ok .next) s₃
            | .ret v => R (.ok (.ret v)) s₃) E s₂
        else wpC (model prog w) A (execs orelse env) (fun f s₃ => R (.ok f) s₃) E s₂) E s)
    (n : Nat) (h : I n s) : codeC (model prog w) A (.whileLoop test body orelse env) R s := by
  refine codeC_loop rfl I (fun n s hI => ?_) n h
  show wpC _ A ((whileTurn test body orelse env).onRaise (fun x => do noteFrame x env; theTreesLotGoes x)) _ _ s
  refine wpC_noted ?_
  simp only [whileTurn]
  refine wpC_bind (wpC_mono (turn n s (notedBy (model prog w) A env fun e s' => R (.error e) s') hI) (fun b s₂ h₂ => ?_) fun _ _ h' => h')
  cases b with
  | false =>
    simp only [Bool.false_eq_true, if_false] at h₂ ⊢
    exact wpC_bind (wpC_mono h₂ (fun f s₃ h₃ => wpC_pure h₃) fun _ _ h' => h')
  | true =>
    simp only [if_true] at h₂ ⊢
    refine wpC_bind (wpC_mono h₂ (fun f s₃ h₃ => ?_) fun _ _ h' => h')
    cases f with
    | next => exact wpC_pure (.inl ⟨rfl, h₃⟩)
    | cont => exact wpC_pure (.inl ⟨rfl, h₃⟩)
    | brk => exact wpC_pure h₃
    | ret v => exact wpC_pure h₃
end

theorem wpC_ite_stand {α : Type} {M : Model} {A : Around} {E : Value → Shared → Prop} {s : Shared} {c : Prop} [Decidable c] {pos : Pos} {k : PUnit → Sem α} {Q : α → Shared → Prop} (h : wpC M A (k ()) Q E s) :
    wpC M A (if c then (standAt pos >>= k) else k ()) Q E s := by
  split
  · exact wpC_bind (wpC_standAt h)
  · exact h
theorem wpC_notedAt {α : Type} {M : Model} {A : Around} {env : Env} {m : Sem α} {pos : Pos} {Q : α → Shared → Prop} {E : Value → Shared → Prop} {s : Shared} (h : wpC M A m Q (notedBy M A env E) s) :
    wpC M A (m.onRaise fun x => do noteFrame x env; standAt pos) Q E s :=
  wpC_onRaise (wpC_mono h (fun _ _ q => q) fun _ _ hx => .of (wpAny_bind (wpAny_mono hx (fun _ _ e => wpAny_standAt e) fun _ _ e => e)))
noncomputable def compPostC (M : Model) (A : Around) (E : Value → Shared → Prop) (use : Option (Value → Sem Unit)) (Q : Value → Shared → Prop) (acc : Value) (C : Addr) (r : Result) (s' : Shared) : Prop :=
  match r with
  | .ok f => compPost M A E use Q acc C (.ok f) s'
  | .error _ => False
theorem wpC_comprehension {M : Model} {A : Around} {E : Value → Shared → Prop} {s : Shared} {env : Env} {e : Expr} {scope : Scope} {pos : Pos} {newAcc first : Sem Value} {g : Comprehension} {gs : List Comprehension} {cl : List (Str × Addr)} {use : Option (Value → Sem Unit)}
    {Q : Value → Shared → Prop}
    (hcl : clausesOf e = g :: gs) (hs : ∀ x, foldedSetIterable g.iter env x = pure x) (hclos : closureFor scope env = pure cl)
    (hkind : scope.kind = .function) (hnames : ∀ x ∈ scope.names, x.2 = .local → scope.names.lookup x.1 = some .local)
    (h : wpC M A first (fun x s₁ => wpAny M A (pyIter x) (fun it s₂ => wpAny M A newAcc (fun acc s₃ =>
      wpAny M A (newFunctionEnv scope env.globals cl [] env.qual none .none (some env)) (fun cenv s₄ =>
        codeC M A (.compStart e 0 it acc { cenv with scope := relabel scope env }) (compPostC M A E use Q acc cenv.locals) s₄) E s₃) E s₂) E s₁) E s) :
    wpC M A (comprehension e scope env pos newAcc false first use) Q E s := by
  unfold comprehension
  rw [hclos, hcl]
  refine wpC_bind (wpC_mono h (fun x s₁ h₁ => wpC_bind (wpC_standAt (wpC_bind (wpC_of_eq (hs x) (wpC_bind (wpC_holding (wpC_mono (.of h₁) (fun it s₂ h₂ =>
    wpC_ite_stand (wpC_bind (wpC_mono (.of h₂) (fun acc s₃ h₃ => wpC_bind (wpC_pure (wpC_bind (wpC_mono (.of h₃) (fun cenv s₄ h₄ => ?_) fun _ _ h' => h')))) fun _ _ h' => h')))
      fun _ _ h' => h'))))))) fun _ _ h' => h')
  dsimp only
  have hv : ∀ x ∈ (scope.names.filter fun x => (x.2 == .local || x.2 == .cell) && x.1 != (".0" : Str)).reverse, x.2 = .local →
      Env.kindOf { cenv with scope := relabel scope env } x.1 = some .local := fun x hx hl => lookup_relabel_local (hnames x (List.mem_filter.mp (List.mem_reverse.mp hx)).1 hl)
  have hv' : ∀ x ∈ (scope.names.filter fun x => (x.2 == .local || x.2 == .cell) && x.1 != (".0" : Str)).reverse.drop 1 ++ (scope.names.filter fun x => (x.2 == .local || x.2 == .cell) && x.1 != (".0" : Str)).reverse.take 1,
      x.2 = .local → Env.kindOf { cenv with scope := relabel scope env } x.1 = some .local := fun x hx hl => by
    rcases List.mem_append.mp hx with h1 | h1
    · exact hv x (List.mem_of_mem_drop h1) hl
    · exact hv x (List.mem_of_mem_take h1) hl
  refine wpC_holding (wpC_bind (wpC_attempt (wpC_holding (wpC_run (codeC_mono h₄ fun r s' hr => ?_) (by intro x; cases x)))))
  cases r with
  | ok f =>
    cases use with
    | none =>
      obtain ⟨m, hn, hr⟩ := hr
      exact .of (wpAny_bind (wpAny_holding (wpAny_comp_letGo (cenv := { cenv with scope := relabel scope env }) hkind _ s' m hv hn fun h' m' _ hs' => wpAny_pure (hr h' hs'))))
    | some u =>
      refine .of (wpAny_bind (wpAny_rule (wpAny_bind (wpAny_holding (wpAny_mono hr (fun _ s'' hr' => ?_) fun _ _ h' => h')))))
      obtain ⟨m, hn, hr'⟩ := hr'
      exact wpAny_bind (wpAny_comp_letGo (cenv := { cenv with scope := relabel scope env }) hkind _ s'' m hv' hn fun h' m' _ hs' => wpAny_pure (hr' h' hs'))
  | error x => exact hr.elim

section
variable {prog : Program} {w : World} {A : Around} {E : Value → Shared → Prop} {R : Result → Shared → Prop} {s : Shared} {env : Env}
theorem codeC_compStart_list {elt target iter ifs rest scope pos it acc}
    (h0 : codeC (model prog w) A (.compLoop (.ListComp elt (⟨target, iter, ifs, 0⟩ :: rest) scope pos) 0 it acc env) R s)
    (h : wpAny (model prog w) A (pyIter it) (fun it' s' => codeC (model prog w) A (.compLoop (.ListComp elt (⟨target, iter, ifs, 0⟩ :: rest) scope pos) 0 it' acc env) R s')
      (notedBy (model prog w) A env fun x s' => R (.error x) s') s) :
    codeC (model prog w) A (.compStart (.ListComp elt (⟨target, iter, ifs, 0⟩ :: rest) scope pos) 0 it acc env) R s := by
  refine codeC_of_tree ?_
  show wpC _ _ ((compStart (.ListComp elt (⟨target, iter, ifs, 0⟩ :: rest) scope pos) 0 it acc env).onRaise (fun x => do noteFrame x env; standAt theWindowsPlace)) _ _ s
  refine wpC_notedAt ?_
  unfold compStart
  refine .of ?_
  show wpAny _ _ (ask >>= _) _ _ s
  refine wpAny_bind (wpAny_askSetting (wpAny_ite ?_))
  split
  · first
      | exact wpAny_bind (wpAny_pure (wpAny_pure (And.intro rfl h0)))
      | exact wpAny_pure (And.intro rfl h0)
  · first
      | exact wpAny_bind (wpAny_rule (wpAny_bind (wpAny_standAt (wpAny_bind (wpAny_mono h (fun it' s' h' => wpAny_pure (And.intro rfl h')) fun _ _ x => x)))))
      | (refine wpAny_bind (wpAny_rule ?_); show wpAny _ _ (standAt iter.pos >>= _) _ _ s; exact wpAny_bind (wpAny_standAt (wpAny_bind (wpAny_mono h (fun it' s' h' => wpAny_pure (And.intro rfl h')) fun _ _ x => x))))
end

section
variable {prog : Program} {w : World} {A : Around} {E : Value → Shared → Prop} {s : Shared} {env : Env}
theorem wpC_ite {α : Type} {c : Prop} [Decidable c] {a b : Sem α} {Q : α → Shared → Prop} (h : if c then wpC (model prog w) A a Q E s else wpC (model prog w) A b Q E s) :
    wpC (model prog w) A (if c then a else b) Q E s := by split <;> simp_all
theorem wpC_keep {α : Type} {vs : List Value} {m : Sem α} {Q : α → Shared → Prop} (h : wpC (model prog w) A m Q E s) : wpC (model prog w) A (m.keep vs) Q E s :=
  .mk fun Γ p hΓ hC => by rw [Sem.wp_keep]; exact h.run Γ p hΓ hC
theorem callWithC_function_kw {pos : Pos} {a : Addr} {o : Obj} {fd : FuncData} {first : List Value} {args : List (Bool × Sem Value)} {keywords : List (Option Str × Sem Value)} {Q : Value → Shared → Prop}
    (h : wpC (model prog w) A (evalArgs (.ref a) true args keywords) (fun x s₁ => (s₁.heap.get? a = some o ∧ o.data = .func fd) ∧ wpC (model prog w) A (call (.ref a) (first ++ x.pos) x.kw) Q E s₁) E s) :
    wpC (model prog w) A (callWith pos (.ref a) first args keywords) Q E s := by
  unfold callWith
  refine wpC_bind (wpC_holding (wpC_mono h (fun x s₁ h₁ => wpC_bind (wpC_standAt ?_)) fun _ _ x => x))
  have tail : ∀ {t : Sem Value}, wpC (model prog w) A t Q E s₁ → wpC (model prog w) A (t >>= fun r => holding [r] point >>= fun _ => pure r) Q E s₁ :=
    fun ht => wpC_bind (wpC_mono ht (fun r s₂ hr => wpC_bind (wpC_holding (wpC_point (wpC_pure hr)))) fun _ _ x => x)
  cases hs : (args.any (·.1) || keywords.any (·.1.isNone)) <;>
    refine wpC_bind (m := keeperOf (.ref a)) ?_ <;> unfold keeperOf <;>
    refine wpC_bind (.of (wpAny_load h₁.1.1 ?_)) <;> rw [h₁.1.2] <;> refine wpC_pure ?_
  · first
      | refine wpC_ite ?_
      | skip
    split <;> first
      | exact tail h₁.2
      | exact tail (by unfold callMarked; exact wpC_keep h₁.2)
  · first
      | exact tail (by unfold callMarked; exact wpC_keep h₁.2)
      | exact tail h₁.2
theorem wpC_Call_method {o : Expr} {name : Str} {apos pos : Pos} {args : List Expr} {T id : String} {Q : Value → Shared → Prop}
    (hbase : attributeBase o name env (eval o env) = eval o env)
    (hfew : ((backTo pos (starEach args env)).all (fun x => !x.1) && (backToKw pos (keywordEach [] env)).all (fun x => x.1.isSome)
      && decide (args.length + ([] : List Keyword).length + (if ([] : List Keyword).isEmpty then 0 else 1) < 30)) = true)
    (hline : (apos.endLine == pos.line) = true)
    (pa : PlainAttrs T) (slot : Slot T name id) (hty : typeOf (.builtin id) = pure (.type "method_descriptor"))
    (h : wpC (model prog w) A (eval o env) (fun ov s₁ => s₁.TypeIs ov T ∧ (∀ a, ov = .ref a → ∃ ob, s₁.heap.get? a = some ob ∧ ob.dict = none) ∧
      wpC (model prog w) A (callWith pos (.builtin id) [ov] (backTo pos (starEach args env)) []) Q E s₁) E s) :
    wpC (model prog w) A (eval (.Call (.Attribute o name apos) args [] pos) env) Q E s := by
  rw [arm_eval_Call, hbase]
  refine wpC_bind (wpC_mono h (fun ov s₁ h₁ => ?_) fun _ _ e => e)
  obtain ⟨hT, hd, hc⟩ := h₁
  refine wpC_bind (wpC_standAt ?_)
  first
    | (have hform : methodCallForm (args.length + ([] : List Keyword).length) (backTo pos (starEach args env)) (backToKw pos (keywordEach [] env)) = true := hfew
       have hpos : methodCallPos true o env apos pos = pure pos := by unfold methodCallPos; simp [hline]
       unfold methodCall
       rw [hform]
       refine wpC_bind (wpC_holding (.of (getMethod_builtin hT pa slot hty hd ?_)))
       exact wpC_bind (wpC_of_eq hpos hc))
    | (unfold methodCall calleeOf methodCallPos methodCallForm
       simp only [hfew, hline, if_true, Bool.not_true, Bool.or_true]
       refine wpC_bind (wpC_holding (.of (getMethod_builtin hT pa slot hty hd ?_)))
       exact wpC_bind (wpC_pure hc))
end
end Mine
end

section
set_option Elab.async false
set_option maxRecDepth 100000
set_option linter.unusedVariables false
namespace Mine
open PySem PySem.W PyProof.Rows PySem.Calls

set_option genSizeOf true
set_option genSizeOfSpec true
set_option genInjectivity true
inductive T where
  | none | bool (b : Bool) | int (i : Int) | str (x : Str) | static (v : Value)
  | list (ts : List T) | tup (ts : List T) | dict (ks : List Int) (ts : List T) | range (a b c : Int)
  deriving Inhabited
set_option genSizeOf false
set_option genSizeOfSpec false

noncomputable abbrev PHeap := Addr → Option Obj
noncomputable def listO (vs : Array Value) (n : Nat) : Obj := { cls := .type "list", data := .seq vs n }
noncomputable def tupO (vs : Array Value) (n : Nat) : Obj := { cls := .type "tuple", data := .seq vs n }
noncomputable def rangeO (a b c : Int) (t u v : Tok) : Obj := { cls := .type "range", data := .fields #[.int a t, .int b u, .int c v] }

noncomputable def IntDict (o : Obj) (ks : List Int) (vs : List Value) : Prop :=
  ks.length = vs.length ∧ ∀ (prog : Program) (w : World), o.IsDictOf (intKind prog w) (ks.zip vs)

mutual
noncomputable def Den (H : PHeap) : T → Value → Prop
  | .none, v => v = .none
  | .bool b, v => v = .bool b
  | .int i, v => ∃ t, v = .int i t
  | .str x, v => ∃ t, v = .str x t
  | .static u, v => v = u
  | .list ts, v => ∃ a vs n, v = .ref a ∧ H a = some (listO vs n) ∧ DenL H ts vs.toList
  | .tup ts, v => ∃ a vs n, v = .ref a ∧ H a = some (tupO vs n) ∧ DenL H ts vs.toList
  | .dict ks ts, v => ∃ a o vs, v = .ref a ∧ H a = some o ∧ IntDict o ks vs ∧ DenL H ts vs
  | .range a b c, v => ∃ r t u w, v = .ref r ∧ H r = some (rangeO a b c t u w)
noncomputable def DenL (H : PHeap) : List T → List Value → Prop
  | [], vs => vs = []
  | t :: ts, vs => ∃ v r, vs = v :: r ∧ Den H t v ∧ DenL H ts r
end

mutual
theorem Den.mono {H H' : PHeap} (hm : ∀ a o, H a = some o → H' a = some o) : ∀ (t : T) (v : Value), Den H t v → Den H' t v
  | .none, v, h => by unfold Den at h ⊢; exact h
  | .bool b, v, h => by unfold Den at h ⊢; exact h
  | .int i, v, h => by unfold Den at h ⊢; exact h
  | .str x, v, h => by unfold Den at h ⊢; exact h
  | .static u, v, h => by unfold Den at h ⊢; exact h
  | .list ts, v, h => by
    unfold Den at h ⊢
    obtain ⟨a, vs, n, e, h1, h2⟩ := h
    exact ⟨a, vs, n, e, hm _ _ h1, DenL.mono hm ts _ h2⟩
  | .tup ts, v, h => by
    unfold Den at h ⊢
    obtain ⟨a, vs, n, e, h1, h2⟩ := h
    exact ⟨a, vs, n, e, hm _ _ h1, DenL.mono hm ts _ h2⟩
  | .dict ks ts, v, h => by
    unfold Den at h ⊢
    obtain ⟨a, es, n, e, h1, hk, h2⟩ := h
    exact ⟨a, es, n, e, hm _ _ h1, hk, DenL.mono hm ts _ h2⟩
  | .range a b c, v, h => by
    unfold Den at h ⊢
    obtain ⟨r, t, u, w, e, h1⟩ := h
    exact ⟨r, t, u, w, e, hm _ _ h1⟩
theorem DenL.mono {H H' : PHeap} (hm : ∀ a o, H a = some o → H' a = some o) : ∀ (ts : List T) (vs : List Value), DenL H ts vs → DenL H' ts vs
  | [], vs, h => by unfold DenL at h ⊢; exact h
  | t :: ts, vs, h => by
    unfold DenL at h ⊢
    obtain ⟨v, r, e, h1, h2⟩ := h
    exact ⟨v, r, e, Den.mono hm t v h1, DenL.mono hm ts r h2⟩
end

theorem DenL.nil {H : PHeap} : DenL H [] [] := by unfold DenL; rfl
theorem DenL.cons {H : PHeap} {t : T} {v : Value} {ts vs} (h : Den H t v) (r : DenL H ts vs) : DenL H (t :: ts) (v :: vs) := by
  unfold DenL; exact ⟨v, vs, rfl, h, r⟩
theorem DenL.cons_iff {H : PHeap} {t : T} {ts vs} : DenL H (t :: ts) vs ↔ ∃ v r, vs = v :: r ∧ Den H t v ∧ DenL H ts r := by
  rw [DenL]
theorem DenL.nil_iff {H : PHeap} {vs} : DenL H [] vs ↔ vs = [] := by rw [DenL]
theorem DenL.length {H : PHeap} : ∀ {ts : List T} {vs : List Value}, DenL H ts vs → vs.length = ts.length
  | [], vs, h => by rw [DenL.nil_iff] at h; subst h; rfl
  | t :: ts, vs, h => by
    rw [DenL.cons_iff] at h
    obtain ⟨v, r, rfl, _, h2⟩ := h
    simp [DenL.length h2]
theorem DenL.get {H : PHeap} : ∀ {ts : List T} {vs : List Value}, DenL H ts vs → ∀ {i : Nat} {t : T}, ts[i]? = some t → ∃ v, vs[i]? = some v ∧ Den H t v
  | [], vs, h, i, t, e => by simp at e
  | t₀ :: ts, vs, h, i, t, e => by
    rw [DenL.cons_iff] at h
    obtain ⟨v, r, rfl, h1, h2⟩ := h
    cases i with
    | zero => simp at e; subst e; exact ⟨v, by simp, h1⟩
    | succ i => simp at e; obtain ⟨v', e', d⟩ := DenL.get h2 e; exact ⟨v', by simpa using e', d⟩
theorem DenL.append {H : PHeap} : ∀ {ts : List T} {vs : List Value} {ts' : List T} {vs' : List Value}, DenL H ts vs → DenL H ts' vs' → DenL H (ts ++ ts') (vs ++ vs')
  | [], vs, _, _, h, h' => by rw [DenL.nil_iff] at h; subst h; simpa using h'
  | t :: ts, vs, _, _, h, h' => by
    rw [DenL.cons_iff] at h
    obtain ⟨v, r, rfl, h1, h2⟩ := h
    exact .cons h1 (h2.append h')
theorem DenL.drop {H : PHeap} : ∀ {ts : List T} {vs : List Value}, DenL H ts vs → ∀ (n : Nat), DenL H (ts.drop n) (vs.drop n)
  | _, _, h, 0 => by simpa using h
  | [], vs, h, n + 1 => by rw [DenL.nil_iff] at h; subst h; simpa using DenL.nil
  | t :: ts, vs, h, n + 1 => by
    rw [DenL.cons_iff] at h
    obtain ⟨v, r, rfl, h1, h2⟩ := h
    simpa using h2.drop n
theorem DenL.take {H : PHeap} : ∀ {ts : List T} {vs : List Value}, DenL H ts vs → ∀ (n : Nat), DenL H (ts.take n) (vs.take n)
  | _, _, h, 0 => by simpa using DenL.nil
  | [], vs, h, n + 1 => by rw [DenL.nil_iff] at h; subst h; simpa using DenL.nil
  | t :: ts, vs, h, n + 1 => by
    rw [DenL.cons_iff] at h
    obtain ⟨v, r, rfl, h1, h2⟩ := h
    simpa using DenL.cons h1 (h2.take n)
theorem DenL.set {H : PHeap} : ∀ {ts : List T} {vs : List Value}, DenL H ts vs → ∀ {t : T} {v : Value} (n : Nat), Den H t v → DenL H (ts.set n t) (vs.set n v)
  | [], vs, h, t, v, n, d => by rw [DenL.nil_iff] at h; subst h; simpa using DenL.nil
  | t₀ :: ts, vs, h, t, v, 0, d => by
    rw [DenL.cons_iff] at h
    obtain ⟨v, r, rfl, h1, h2⟩ := h
    simpa using DenL.cons d h2
  | t₀ :: ts, vs, h, t, v, n + 1, d => by
    rw [DenL.cons_iff] at h
    obtain ⟨v, r, rfl, h1, h2⟩ := h
    simpa using DenL.cons h1 (h2.set n d)
inductive D where
  | val (t : T)
  | ref (i : Nat)

inductive Ob where
  | gone
  | list (ts : List T)
  | dict (ks : List Int) (ts : List T)

noncomputable def DenD (H : PHeap) (as : List Addr) : D → Value → Prop
  | .val t, v => Den H t v
  | .ref i, v => ∃ a, as[i]? = some a ∧ v = .ref a

noncomputable def ObAt (H : PHeap) (h : Heap) (a : Addr) : Ob → Prop
  | .gone => True
  | .list ts => H a = none ∧ ∃ vs n, h.get? a = some (listO vs n) ∧ DenL H ts vs.toList
  | .dict ks ts => H a = none ∧ ∃ o vs, h.get? a = some o ∧ IntDict o ks vs ∧ DenL H ts vs

set_option genInjectivity false
structure Cx where
  prog : Program
  w : World
  B : Heap
  os : OsState
  mg : Str → Option Value
  mb : Str → Option Value
  nolimit : B.NoLimit
  g : B.Ns mainGlobals mg
  b : B.Ns builtinsNs mb
  nodigits : ∃ mc, B.Ns cStatics mc ∧ mc "sys.int_max_str_digits" = none

noncomputable def Live (h : Heap) (a : Addr) : Prop := ∃ o, h.get? a = some o
theorem Live.not_none {h : Heap} {a : Addr} (x : Live h a) : h.get? a ≠ none := by obtain ⟨o, e⟩ := x; rw [e]; simp
theorem live_or (h : Heap) (a : Addr) : Live h a ∨ h.get? a = none := by
  cases q : h.get? a with
  | none => exact .inr rfl
  | some o => exact .inl ⟨o, q⟩

noncomputable def Stk (A : Around) (H : PHeap) (as : List Addr) (h : Heap) : Prop :=
  ∃ l, A.frames = some l ∧ ∀ env ∈ l, env.scope.kind ≠ .module ∧ ∃ L, env.frame = some L ∧ L ∉ as ∧ H L = none ∧ ∃ o es n, h.get? L = some o ∧ o.data = .dict es n

noncomputable def Kept (h' : Heap) (a : Addr) (o : Obj) : Prop := h'.get? a = some o ∨ ∃ es n sl, o.data = .dict es n ∧ h'.get? a = some { o with slots := sl }
theorem Kept.trans {h₁ h₂ : Heap} {a : Addr} {o : Obj} (x : Kept h₁ a o) (f : ∀ o', h₁.get? a = some o' → Kept h₂ a o') : Kept h₂ a o := by
  rcases x with x | ⟨es, n, sl, hd, x⟩
  · exact f _ x
  · rcases f _ x with y | ⟨es', n', sl', hd', y⟩
    · exact .inr ⟨es, n, sl, hd, y⟩
    · exact .inr ⟨es, n, sl', hd, y⟩
theorem Kept.exact {h' : Heap} {a : Addr} {o : Obj} (x : Kept h' a o) (hd : ∀ es n, o.data ≠ .dict es n) : h'.get? a = some o := by
  rcases x with x | ⟨es, n, sl, hd', x⟩
  · exact x
  · exact absurd hd' (hd es n)
theorem Kept.ns {h h' : Heap} {a : Addr} {m : Str → Option Value} (hn : h.Ns a m) (x : ∀ o, h.get? a = some o → Kept h' a o) : h'.Ns a m := by
  obtain ⟨o, es, ep, ho, hd, r⟩ := hn
  rcases x o ho with x | ⟨_, _, sl, _, x⟩
  · exact ⟨o, es, ep, x, hd, r⟩
  · exact ⟨_, es, ep, x, hd, r⟩
theorem Kept.live {h' : Heap} {a : Addr} {o : Obj} (x : Kept h' a o) : Live h' a := by
  rcases x with x | ⟨_, _, sl, _, x⟩
  · exact ⟨_, x⟩
  · exact ⟨_, x⟩

structure Mem (C : Cx) (A : Around) (H : PHeap) (as : List Addr) (O : List Ob) (s : Shared) : Prop where
  base : ∀ a o, C.B.get? a = some o → H a = some o
  sat : ∀ a o, H a = some o → s.heap.get? a = some o
  len : as.length = O.length
  nodup : as.Nodup
  obs : ∀ (i : Nat) a ob, as[i]? = some a → O[i]? = some ob → ObAt H s.heap a ob
  live : ∀ a ∈ as, Live s.heap a
  os : s.os = C.os
  gens : s.gens = #[]
  stk : Stk A H as s.heap

theorem Stk.turn {A H as h H' as' h'} (x : Stk A H as h) (ha : ∀ L, L ∉ as → Live h L → L ∉ as') (hH : ∀ L, L ∉ as → H L = none → Live h L → H' L = none)
    (hk : ∀ L o, L ∉ as → h.get? L = some o → Kept h' L o) : Stk A H' as' h' := by
  obtain ⟨l, e, f⟩ := x
  refine ⟨l, e, fun env he => ?_⟩
  obtain ⟨k, L, h1, h2, h3, o, es, n, h4, h5⟩ := f env he
  refine ⟨k, L, h1, ha L h2 ⟨o, h4⟩, hH L h2 h3 ⟨o, h4⟩, ?_⟩
  rcases hk L o h2 h4 with h | ⟨_, _, sl, _, h⟩
  · exact ⟨o, es, n, h, h5⟩
  · exact ⟨_, es, n, h, h5⟩
theorem Stk.turn' {A H as h H' as' h'} (x : Stk A H as h) (ha : ∀ L, L ∉ as → Live h L → L ∉ as') (hH : ∀ L, L ∉ as → H L = none → Live h L → H' L = none)
    (hk : ∀ L o es n, L ∉ as → h.get? L = some o → o.data = .dict es n → ∃ o' es' n', h'.get? L = some o' ∧ o'.data = .dict es' n') : Stk A H' as' h' := by
  obtain ⟨l, e, f⟩ := x
  refine ⟨l, e, fun env he => ?_⟩
  obtain ⟨k, L, h1, h2, h3, o, es, n, h4, h5⟩ := f env he
  exact ⟨k, L, h1, ha L h2 ⟨o, h4⟩, hH L h2 h3 ⟨o, h4⟩, hk L o es n h2 h4 h5⟩
theorem Mem.around {C A A' H as O s} (M : Mem C A H as O s) (h : A'.frames = A.frames) : Mem C A' H as O s :=
  ⟨M.base, M.sat, M.len, M.nodup, M.obs, M.live, M.os, M.gens, let ⟨l, e, f⟩ := M.stk; ⟨l, h.trans e, f⟩⟩

structure Rel (X : List Addr) (H : PHeap) (as : List Addr) (s : Shared) (H' : PHeap) (as' : List Addr) (s' : Shared) : Prop where
  mono : ∀ a o, H a = some o → H' a = some o
  fresh : ∀ a o, H' a = some o → H a = some o ∨ s.heap.get? a = none ∨ a ∈ as
  keep : ∀ a o, s.heap.get? a = some o → a ∉ X → a ∉ as → Kept s'.heap a o
  alive : ∀ a, Live s.heap a → Live s'.heap a
  ext : ∃ more, as' = as ++ more ∧ ∀ a ∈ more, s.heap.get? a = none

theorem Rel.back {X H as s H' as' s'} (r : Rel X H as s H' as' s') {a : Addr} (h : s'.heap.get? a = none) : s.heap.get? a = none := by
  rcases live_or s.heap a with l | l
  · exact absurd h (r.alive a l).not_none
  · exact l

theorem Rel.refl {X H as s} : Rel X H as s H as s :=
  ⟨fun _ _ h => h, fun _ _ h => .inl h, fun _ _ h _ _ => .inl h, fun _ h => h, [], by simp, by simp⟩

theorem Rel.trans {X H as s H' as' s' H'' as'' s''} (r : Rel X H as s H' as' s') (r' : Rel X H' as' s' H'' as'' s'') : Rel X H as s H'' as'' s'' := by
  obtain ⟨m1, e1, f1⟩ := r.ext
  obtain ⟨m2, e2, f2⟩ := r'.ext
  refine ⟨fun a o h => r'.mono _ _ (r.mono _ _ h), fun a o h => ?_, fun a o h hX ha => ?_, fun a h => r'.alive a (r.alive a h), m1 ++ m2, by rw [e2, e1, List.append_assoc], fun a ha => ?_⟩
  · rcases r'.fresh _ _ h with h | h | h
    · exact r.fresh _ _ h
    · exact .inr (.inl (r.back h))
    · rw [e1] at h
      rcases List.mem_append.mp h with h | h
      · exact .inr (.inr h)
      · exact .inr (.inl (f1 _ h))
  · refine (r.keep _ _ h hX ha).trans fun o' h' => r'.keep _ _ h' hX ?_
    rw [e1]
    intro hm
    rcases List.mem_append.mp hm with hm | hm
    · exact ha hm
    · rw [f1 _ hm] at h; cases h
  · rcases List.mem_append.mp ha with ha | ha
    · exact f1 _ ha
    · exact r.back (f2 _ ha)

theorem Rel.weaken {X Y H as s H' as' s'} (r : Rel X H as s H' as' s') (h : ∀ a ∈ X, a ∈ Y) : Rel Y H as s H' as' s' :=
  ⟨r.mono, r.fresh, fun a o e hY ha => r.keep a o e (fun hx => hY (h a hx)) ha, r.alive, r.ext⟩

theorem Rel.get_as {X H as s H' as' s'} (r : Rel X H as s H' as' s') {i : Nat} {a : Addr} (h : as[i]? = some a) : as'[i]? = some a := by
  obtain ⟨m, rfl, _⟩ := r.ext
  rw [List.getElem?_append_left (by have := (List.getElem?_eq_some_iff.mp h).1; exact this)]; exact h

theorem DenD.rel {X H as s H' as' s'} (r : Rel X H as s H' as' s') {d : D} {v : Value} (h : DenD H as d v) : DenD H' as' d v := by
  cases d with
  | val t => exact Den.mono r.mono t v h
  | ref i => obtain ⟨a, e, rfl⟩ := h; exact ⟨a, r.get_as e, rfl⟩

theorem Mem.grow {C A H as O s} (M : Mem C A H as O s) {H' : PHeap} {s' : Shared} (hs' : ∀ a o, H' a = some o → s'.heap.get? a = some o)
    (hm : ∀ a o, H a = some o → H' a = some o) (hf : ∀ a o, H' a = some o → H a = some o ∨ s.heap.get? a = none)
    (hk : ∀ a o, s.heap.get? a = some o → s'.heap.get? a = some o) (hos : s'.os = s.os) (hg : s'.gens = s.gens) : Mem C A H' as O s' where
  base := fun a o h => hm _ _ (M.base a o h)
  sat := hs'
  len := M.len
  nodup := M.nodup
  obs := fun i a ob ha ho => by
    have h := M.obs i a ob ha ho
    have hlt := M.live a (List.mem_of_getElem? ha)
    have hn : ∀ o, H' a = some o → H a = some o := fun o h => (hf _ _ h).elim id fun h => absurd h hlt.not_none
    have hnone : H a = none → H' a = none := fun e => by
      cases q : H' a with
      | none => rfl
      | some o => have := hn _ q; rw [e] at this; cases this
    cases ob with
    | gone => trivial
    | list ts => obtain ⟨h0, vs, n, h1, h2⟩ := h; exact ⟨hnone h0, vs, n, hk _ _ h1, DenL.mono hm _ _ h2⟩
    | dict ks ts => obtain ⟨h0, es, n, h1, h1', h2⟩ := h; exact ⟨hnone h0, es, n, hk _ _ h1, h1', DenL.mono hm _ _ h2⟩
  live := fun a ha => let ⟨o, e⟩ := M.live a ha; ⟨o, hk _ _ e⟩
  os := hos.trans M.os
  gens := hg.trans M.gens
  stk := M.stk.turn (fun L h _ => h) (fun L h1 h2 h3 => by
    cases q : H' L with
    | none => rfl
    | some o =>
      rcases hf _ _ q with h | h
      · rw [h2] at h; cases h
      · exact absurd h h3.not_none) fun L o _ e => .inl (hk _ _ e)

theorem Rel.grow {X H as} {s : Shared} {H' : PHeap} {s' : Shared}
    (hm : ∀ a o, H a = some o → H' a = some o) (hf : ∀ a o, H' a = some o → H a = some o ∨ s.heap.get? a = none)
    (hk : ∀ a o, s.heap.get? a = some o → s'.heap.get? a = some o) : Rel X H as s H' as s' :=
  ⟨hm, fun a o h => (hf a o h).imp id .inl, fun a o h _ _ => .inl (hk a o h), fun a h => let ⟨o, e⟩ := h; ⟨o, hk _ _ e⟩, [], by simp, by simp⟩

theorem Mem.tok {C A H as O s} (M : Mem C A H as O s) (t : Nat) : Mem C A H as O { s with toks := t } :=
  M.grow M.sat (fun _ _ h => h) (fun _ _ h => .inl h) (fun _ _ h => h) rfl rfl
theorem Rel.tok {X H as} {s : Shared} (t : Nat) : Rel X H as s H as { s with toks := t } :=
  Rel.grow (fun _ _ h => h) (fun _ _ h => .inl h) (fun _ _ h => h)

theorem Mem.fresh_none {C A H as O s} (M : Mem C A H as O s) {a : Addr} (h : s.heap.get? a = none) : H a = none := by
  cases q : H a with
  | none => rfl
  | some o => rw [M.sat _ _ q] at h; cases h
theorem get?_size (h : Heap) : h.get? h.objs.size = none := by
  cases q : h.get? h.objs.size with
  | none => rfl
  | some o => exact absurd (Heap.lt_size q) (Nat.lt_irrefl _)

noncomputable def PHeap.put (H : PHeap) (a : Addr) (o : Obj) : PHeap := fun b => if b = a then some o else H b
theorem PHeap.put_mono {C A H as O s} (M : Mem C A H as O s) {a : Addr} {o : Obj} (h : s.heap.get? a = none) : ∀ b o', H b = some o' → H.put a o b = some o' := fun b o' e => by
  unfold PHeap.put
  split
  · rename_i q; subst q; rw [M.fresh_none h] at e; cases e
  · exact e
theorem PHeap.put_self {H : PHeap} {a : Addr} {o : Obj} : H.put a o a = some o := by simp [PHeap.put]

theorem Mem.put {C A H as O s} (M : Mem C A H as O s) {a : Addr} {o : Obj} {s' : Shared} (ha : s.heap.get? a = none) (ho : s'.heap.get? a = some o)
    (hk : ∀ a o, s.heap.get? a = some o → s'.heap.get? a = some o) (hos : s'.os = s.os) (hg : s'.gens = s.gens) :
    Mem C A (H.put a o) as O s' ∧ ∀ X, Rel X H as s (H.put a o) as s' := by
  have hm := PHeap.put_mono M (o := o) ha
  have hf : ∀ b o', H.put a o b = some o' → H b = some o' ∨ s.heap.get? b = none := fun b o' e => by
    unfold PHeap.put at e
    split at e
    · rename_i q; subst q; exact .inr ha
    · exact .inl e
  refine ⟨M.grow (fun b o' e => ?_) hm hf hk hos hg, fun X => Rel.grow hm hf hk⟩
  unfold PHeap.put at e
  split at e
  · rename_i q; subst q; cases e; exact ho
  · exact hk _ _ (M.sat _ _ e)
theorem Mem.same {C A H as O s} (M : Mem C A H as O s) {s' : Shared}
    (hk : ∀ a o, s.heap.get? a = some o → s'.heap.get? a = some o) (hos : s'.os = s.os) (hg : s'.gens = s.gens) :
    Mem C A H as O s' ∧ ∀ X, Rel X H as s H as s' :=
  ⟨M.grow (fun a o e => hk _ _ (M.sat _ _ e)) (fun _ _ h => h) (fun _ _ h => .inl h) hk hos hg, fun _ => Rel.grow (fun _ _ h => h) (fun _ _ h => .inl h) hk⟩

theorem Mem.own {C A H as O s} (M : Mem C A H as O s) {a : Addr} {ob : Ob} {s' : Shared} (ha : s.heap.get? a = none) (ho : ObAt H s'.heap a ob) (hlt : Live s'.heap a)
    (hk : ∀ a o, s.heap.get? a = some o → s'.heap.get? a = some o) (hos : s'.os = s.os) (hg : s'.gens = s.gens) :
    Mem C A H (as ++ [a]) (O ++ [ob]) s' ∧ ∀ X, Rel X H as s H (as ++ [a]) s' := by
  obtain ⟨M', R⟩ := M.same hk hos hg
  refine ⟨⟨M'.base, M'.sat, by simp [M.len], ?_, fun i b ob' hb ho' => ?_, fun b hb => ?_, M'.os, M'.gens, M.stk.turn (fun L h l => by
    intro hm
    rcases List.mem_append.mp hm with hm | hm
    · exact h hm
    · have : L = a := by simpa using hm
      subst this; exact l.not_none ha) (fun L _ h _ => h) fun L o _ e => .inl (hk _ _ e)⟩, fun X => ⟨(R X).mono, (R X).fresh, (R X).keep, (R X).alive, [a], rfl, by simpa using ha⟩⟩
  · refine List.nodup_append.mpr ⟨M.nodup, by simp, fun x hx y hy => ?_⟩
    have : y = a := by simpa using hy
    subst this
    rintro rfl
    exact (M.live x hx).not_none ha
  · by_cases hi : i < as.length
    · rw [List.getElem?_append_left hi] at hb
      rw [List.getElem?_append_left (by rw [← M.len]; exact hi)] at ho'
      exact M'.obs i b ob' hb ho'
    · have hi' : i = as.length := by
        have := (List.getElem?_eq_some_iff.mp hb).1
        simp at this; (first | exact Nat.eq_of_lt_succ_of_not_lt this hi | lia)
      subst hi'
      simp at hb
      rw [M.len] at ho'
      simp at ho'
      subst hb; subst ho'
      exact ho
  · rcases List.mem_append.mp hb with hb | hb
    · exact M'.live b hb
    · have : b = a := by simpa using hb
      subst this; exact hlt

theorem Mem.upd {C A H as O s} (M : Mem C A H as O s) {i : Nat} {a : Addr} {ob : Ob} {s' : Shared} (ha : as[i]? = some a) (ho : ObAt H s'.heap a ob) (hl : Live s'.heap a)
    (hk : ∀ b o, b ≠ a → s.heap.get? b = some o → s'.heap.get? b = some o) (hn : H a = none) (hos : s'.os = s.os) (hg : s'.gens = s.gens) :
    Mem C A H as (O.set i ob) s' ∧ ∀ X, Rel X H as s H as s' := by
  have hmem : a ∈ as := List.mem_of_getElem? ha
  have hH : ∀ b o, H b = some o → b ≠ a := fun b o e q => by subst q; rw [hn] at e; cases e
  have hal : ∀ b, Live s.heap b → Live s'.heap b := fun b ⟨o, e⟩ => by
    by_cases q : b = a
    · rw [q]; exact hl
    · exact ⟨o, hk b o q e⟩
  refine ⟨⟨M.base, fun b o e => hk _ _ (hH b o e) (M.sat _ _ e), by simp [M.len], M.nodup, fun j b ob' hb ho' => ?_, fun b hb => hal b (M.live b hb), hos.trans M.os, hg.trans M.gens, M.stk.turn (fun L h _ => h) (fun L _ h _ => h) fun L o hL e => .inl (hk L o (fun q => hL (q ▸ hmem)) e)⟩,
    fun X => ⟨fun _ _ h => h, fun _ _ h => .inl h, fun b o e _ hb => .inl (hk b o (fun q => hb (q ▸ hmem)) e), hal, [], by simp, by simp⟩⟩
  by_cases hj : j = i
  · subst hj
    rw [ha] at hb; cases hb
    have hlt : j < O.length := by rw [← M.len]; exact (List.getElem?_eq_some_iff.mp ha).1
    rw [List.getElem?_set_self hlt] at ho'
    cases ho'; exact ho
  · rw [List.getElem?_set_ne (by (first | exact fun ze => hj ze.symm | lia))] at ho'
    have h := M.obs j b ob' hb ho'
    have hne : b ≠ a := fun q => by
      subst q
      exact hj ((List.getElem?_inj (List.getElem?_eq_some_iff.mp hb).1 M.nodup).mp (hb.trans ha.symm))
    cases ob' with
    | gone => trivial
    | list ts => obtain ⟨h0, vs, n, h1, h2⟩ := h; exact ⟨h0, vs, n, hk _ _ hne h1, h2⟩
    | dict ks ts => obtain ⟨h0, es, n, h1, h1', h2⟩ := h; exact ⟨h0, es, n, hk _ _ hne h1, h1', h2⟩

end Mine
end

section
set_option Elab.async false
set_option maxRecDepth 100000
set_option linter.unusedVariables false
namespace Mine
open PySem PySem.W PyProof.Rows PySem.Calls

noncomputable abbrev Vars := List (Str × D)
noncomputable abbrev Kinds := List (Str × NameKind)

noncomputable def slots (env : Env) : List Addr := env.locals :: env.cells.map (·.2)

structure EnvOk (sc : Kinds) (env : Env) : Prop where
  names : env.scope.names = sc
  kind : env.scope.kind = .function
  globals : env.globals = mainGlobals
  builtins : env.builtins = builtinsNs
  cellsOk : ∀ x, sc.lookup x = some .cell → ∃ c, env.cells.lookup x = some c

structure Loc (H : PHeap) (as : List Addr) (env : Env) (ρ : Vars) (s : Shared) : Prop where
  off : ∀ a ∈ slots env, a ∉ as ∧ H a = none ∧ Live s.heap a
  apart : env.cells.Pairwise fun x y => x.2 ≠ y.2
  apartL : ∀ n c, (n, c) ∈ env.cells → c ≠ env.locals
  ns : ∃ m, s.heap.Ns env.locals m ∧ ∀ x d, ρ.lookup x = some d → env.kindOf x = some .local → ∃ v, DenD H as d v ∧ m x = some v
  cell : ∀ n c, (n, c) ∈ env.cells → ∃ v, s.heap.IsCell c v
  cells : ∀ x d, ρ.lookup x = some d → env.kindOf x = some .cell → ∃ v c, DenD H as d v ∧ env.cells.lookup x = some c ∧ s.heap.IsCell c (some v)

theorem Loc.rel {H as env ρ s H' as' s'} (l : Loc H as env ρ s) (r : Rel [] H as s H' as' s') : Loc H' as' env ρ s' := by
  have keep : ∀ a ∈ slots env, ∀ o, s.heap.get? a = some o → Kept s'.heap a o := fun a ha o e => r.keep a o e (by simp) (l.off a ha).1
  have hc : ∀ n c, (n, c) ∈ env.cells → c ∈ slots env := fun n c h => List.mem_cons_of_mem _ (List.mem_map_of_mem (f := (·.2)) h)
  refine ⟨fun a ha => ?_, l.apart, l.apartL, ?_, fun n c h => ?_, fun x d hx hk => ?_⟩
  · obtain ⟨h1, h2, h3⟩ := l.off a ha
    obtain ⟨more, rfl, hm⟩ := r.ext
    refine ⟨fun hmem => ?_, ?_, r.alive _ h3⟩
    · rcases List.mem_append.mp hmem with h | h
      · exact h1 h
      · exact h3.not_none (hm a h)
    · cases q : H' a with
      | none => rfl
      | some o =>
        rcases r.fresh a o q with h | h | h
        · rw [h2] at h; cases h
        · exact absurd h h3.not_none
        · exact absurd h h1
  · obtain ⟨m, hn, hm⟩ := l.ns
    exact ⟨m, Kept.ns hn (keep _ (List.mem_cons_self ..)), fun x d hx hk => let ⟨v, hv, e⟩ := hm x d hx hk; ⟨v, hv.rel r, e⟩⟩
  · obtain ⟨v, o, ho, hd⟩ := l.cell n c h
    exact ⟨v, o, (keep _ (hc n c h) _ ho).exact (fun es n q => by rw [hd] at q; cases q), hd⟩
  · obtain ⟨v, c, hv, e, o, ho, hd⟩ := l.cells x d hx hk
    exact ⟨v, c, hv.rel r, e, o, (keep _ (hc x c (mem_of_lookup e)) _ ho).exact (fun es n q => by rw [hd] at q; cases q), hd⟩

structure Room (n : Nat) (A : Around) : Prop where
  handled : 0 < n → A.handled = none
  depth : A.depth + n ≤ 900
  units : A.units + 60 * n ≤ 9000
theorem Room.le {n m A} (r : Room n A) (h : m ≤ n) : Room m A := ⟨fun h' => r.handled (Nat.lt_of_lt_of_le h' h), by have := r.depth; (first | exact Nat.le_trans (Nat.add_le_add_left h _) this | lia), by have := r.units; (first | exact Nat.le_trans (Nat.add_le_add_left (Nat.mul_le_mul_left 60 h) _) this | lia)⟩

inductive After (C : Cx) (A : Around) (X : List Addr) (H : PHeap) (as : List Addr) (s : Shared) (Φ : D → List Ob → Prop) (v : Value) (s' : Shared) : Prop
  | intro (d : D) (O' : List Ob) (H' : PHeap) (as' : List Addr) (h : Φ d O') (M : Mem C A H' as' O' s') (D : DenD H' as' d v) (R : Rel X H as s H' as' s')
inductive AfterB (C : Cx) (A : Around) (X : List Addr) (H : PHeap) (as : List Addr) (s : Shared) (Φ : Bool → List Ob → Prop) (b : Bool) (s' : Shared) : Prop
  | intro (O' : List Ob) (H' : PHeap) (as' : List Addr) (h : Φ b O') (M : Mem C A H' as' O' s') (R : Rel X H as s H' as' s')

theorem After.out {C A X H as s Φ v s'} {P : Prop} (h : After C A X H as s Φ v s') (k : ∀ d O' H' as', Φ d O' → Mem C A H' as' O' s' → DenD H' as' d v → Rel X H as s H' as' s' → P) : P :=
  h.casesOn k
theorem AfterB.out {C A X H as s Φ b s'} {P : Prop} (h : AfterB C A X H as s Φ b s') (k : ∀ O' H' as', Φ b O' → Mem C A H' as' O' s' → Rel X H as s H' as' s' → P) : P :=
  h.casesOn k
theorem After.from {C A X H as s H' as' s' Φ v s''} (r : Rel X H as s H' as' s') (h : After C A X H' as' s' Φ v s'') : After C A X H as s Φ v s'' :=
  h.casesOn fun d O' H2 as2 h1 h2 h3 h4 => ⟨d, O', H2, as2, h1, h2, h3, r.trans h4⟩
noncomputable def DenDs (H : PHeap) (as : List Addr) : List D → List Value → Prop
  | [], [] => True
  | d :: ds, v :: vs => DenD H as d v ∧ DenDs H as ds vs
  | _, _ => False
theorem DenDs.rel {X H as s H' as' s'} (r : Rel X H as s H' as' s') : ∀ {ds : List D} {vs : List Value}, DenDs H as ds vs → DenDs H' as' ds vs
  | [], [], _ => trivial
  | d :: ds, v :: vs, ⟨h, t⟩ => ⟨h.rel r, DenDs.rel r t⟩
  | [], _ :: _, h => h.elim
  | _ :: _, [], h => h.elim

noncomputable def WPt (C : Cx) (n : Nat) (O : List Ob) (ds : List D) (t : List Value → Sem Value) (Φ : D → List Ob → Prop) : Prop :=
  ∀ A H as s vs E, Room n A → Mem C A H as O s → DenDs H as ds vs → wpAny (model C.prog C.w) A (t vs) (After C A [] H as s Φ) E s
noncomputable def WPe (C : Cx) (n : Nat) (sc : Kinds) (ρ : Vars) (O : List Ob) (e : Expr) (Φ : D → List Ob → Prop) : Prop :=
  ∀ A env H as s E, Room n A → EnvOk sc env → Mem C A H as O s → Loc H as env ρ s → wpC (model C.prog C.w) A (eval e env) (After C A [] H as s Φ) E s

theorem WPe.run {C n sc ρ O e Φ} {A env H as s E} (h : WPe C n sc ρ O e Φ) (rm : Room n A) (eo : EnvOk sc env) (M : Mem C A H as O s) (l : Loc H as env ρ s) : wpC (model C.prog C.w) A (eval e env) (After C A [] H as s Φ) E s := h A env H as s E rm eo M l
noncomputable def WPb (C : Cx) (n : Nat) (sc : Kinds) (ρ : Vars) (O : List Ob) (e : Expr) (Φ : Bool → List Ob → Prop) : Prop :=
  ∀ A env H as s E, Room n A → EnvOk sc env → Mem C A H as O s → Loc H as env ρ s → wpC (model C.prog C.w) A (isTrue e env (eval e env)) (AfterB C A [] H as s Φ) E s

section
variable {C : Cx} {n : Nat} {sc : Kinds} {ρ : Vars} {O : List Ob} {Φ : D → List Ob → Prop}

theorem WPe.mono {e Φ'} (h : WPe C n sc ρ O e Φ) (hi : ∀ d O', Φ d O' → Φ' d O') : WPe C n sc ρ O e Φ' := fun A env H as s E r eo M l =>
  wpC_mono (h A env H as s E r eo M l) (fun v s' qq => qq.out fun d O' H' as' h M D R => ⟨d, O', H', as', hi _ _ h, M, D, R⟩) fun _ _ x => x
theorem WPb.mono {e} {Ψ Ψ' : Bool → List Ob → Prop} (h : WPb C n sc ρ O e Ψ) (hi : ∀ d O', Ψ d O' → Ψ' d O') : WPb C n sc ρ O e Ψ' := fun A env H as s E r eo M l =>
  wpC_mono (h A env H as s E r eo M l) (fun v s' qq => qq.out fun O' H' as' h M R => ⟨O', H', as', hi _ _ h, M, R⟩) fun _ _ x => x

theorem WPe_int {i k pos} (h : Φ (.val (.int i)) O) : WPe C n sc ρ O (.Constant (.int i) k pos) Φ := fun A env H as s E r eo M l =>
  .of (wpAny_Constant_int ⟨_, _, H, as, h, M.tok _, by unfold DenD Den; exact ⟨_, rfl⟩, Rel.tok _⟩)
theorem WPe_str {x k pos} (h : Φ (.val (.str x)) O) : WPe C n sc ρ O (.Constant (.str x) k pos) Φ := fun A env H as s E r eo M l =>
  .of (wpAny_Constant_str ⟨_, _, H, as, h, M.tok _, by unfold DenD Den; exact ⟨_, rfl⟩, Rel.tok _⟩)
theorem WPe_none {k pos} (h : Φ (.val .none) O) : WPe C n sc ρ O (.Constant .none k pos) Φ := fun A env H as s E r eo M l =>
  .of (wpAny_Constant_none ⟨_, _, H, as, h, M, by unfold DenD Den; rfl, Rel.refl⟩)
theorem WPe_var {x pos d} (hx : ρ.lookup x = some d) (hk : sc.lookup x = some .local ∨ sc.lookup x = some .cell) (h : Φ d O) (hd : (x == ("__debug__" : Str)) = false) : WPe C n sc ρ O (.Name x pos) Φ := fun A env H as s E r eo M l => by
  refine .of (wpAny_Name ?_ hd)
  rcases hk with hk | hk
  · have hk' : env.kindOf x = some .local := by unfold Env.kindOf; rw [eo.names]; exact hk
    obtain ⟨m, hn, hm⟩ := l.ns
    obtain ⟨v, hv, e⟩ := hm x d hx hk'
    exact wpAny_loadName_local eo.kind hk' hn e ⟨d, O, H, as, h, M, hv, Rel.refl⟩
  · have hk' : env.kindOf x = some .cell := by unfold Env.kindOf; rw [eo.names]; exact hk
    obtain ⟨v, c, hv, e, ic⟩ := l.cells x d hx hk'
    exact wpAny_loadName_cell eo.kind hk' e ic ⟨d, O, H, as, h, M, hv, Rel.refl⟩

theorem Mem.keepB {C A H as O s} (M : Mem C A H as O s) : ∀ b o, C.B.get? b = some o → s.heap.get? b = some o := fun b o e => M.sat _ _ (M.base _ _ e)

theorem WPe_glob {x pos v} (hx : C.mg x = some v) (hk : sc.lookup x = some .globalImplicit) (h : Φ (.val (.static v)) O) (hd : (x == ("__debug__" : Str)) = false) : WPe C n sc ρ O (.Name x pos) Φ := fun A env H as s E r eo M l => by
  have hk' : env.kindOf x = some .globalImplicit := by unfold Env.kindOf; rw [eo.names]; exact hk
  refine .of (wpAny_Name ?_ hd)
  unfold loadName
  simp only [Env.blockKind, eo.kind, hk', ScopeKind.isAnnotationScope, Bool.false_and, Bool.false_eq_true, if_false]
  exact loadGlobal_global (by rw [eo.globals]; exact C.g.keeps M.keepB) hx ⟨_, O, H, as, h, M, by unfold DenD Den; rfl, Rel.refl⟩
theorem WPe_glob_int {x pos i t} (hx : C.mg x = some (.int i t)) (hk : sc.lookup x = some .globalImplicit) (h : Φ (.val (.int i)) O) (hd : (x == ("__debug__" : Str)) = false) : WPe C n sc ρ O (.Name x pos) Φ := fun A env H as s E r eo M l => by
  have hk' : env.kindOf x = some .globalImplicit := by unfold Env.kindOf; rw [eo.names]; exact hk
  refine .of (wpAny_Name ?_ hd)
  unfold loadName
  simp only [Env.blockKind, eo.kind, hk', ScopeKind.isAnnotationScope, Bool.false_and, Bool.false_eq_true, if_false]
  exact loadGlobal_global (by rw [eo.globals]; exact C.g.keeps M.keepB) hx ⟨_, O, H, as, h, M, by unfold DenD Den; exact ⟨_, rfl⟩, Rel.refl⟩
theorem WPe_builtin {x pos v} (hx : C.mg x = none) (hb : C.mb x = some v) (hk : sc.lookup x = some .globalImplicit) (h : Φ (.val (.static v)) O) (hd : (x == ("__debug__" : Str)) = false) : WPe C n sc ρ O (.Name x pos) Φ := fun A env H as s E r eo M l => by
  have hk' : env.kindOf x = some .globalImplicit := by unfold Env.kindOf; rw [eo.names]; exact hk
  refine .of (wpAny_Name ?_ hd)
  unfold loadName
  simp only [Env.blockKind, eo.kind, hk', ScopeKind.isAnnotationScope, Bool.false_and, Bool.false_eq_true, if_false]
  exact loadGlobal_builtin (by rw [eo.globals]; exact C.g.keeps M.keepB) hx (by rw [eo.builtins]; exact C.b.keeps M.keepB) hb ⟨_, O, H, as, h, M, by unfold DenD Den; rfl, Rel.refl⟩

theorem WPe_BinOp {l op r pos} (h : WPe C n sc ρ O l fun d₁ O₁ => WPe C n sc ρ O₁ r fun d₂ O₂ => WPt C n O₂ [d₁, d₂] (fun vs => binaryOp op (vs.getD 0 .none) (vs.getD 1 .none)) Φ) :
    WPe C n sc ρ O (.BinOp l op r pos) Φ := fun A env H as s E rm eo M lc =>
  wpC_BinOp (wpC_mono (h A env H as s E rm eo M lc) (fun v₁ s₁ qq => qq.out fun d₁ O₁ H₁ as₁ h₁ M₁ D₁ R₁ =>
    wpC_mono (h₁ A env H₁ as₁ s₁ E rm eo M₁ (lc.rel R₁)) (fun v₂ s₂ qq => qq.out fun d₂ O₂ H₂ as₂ h₂ M₂ D₂ R₂ =>
      wpAny_mono (h₂ A H₂ as₂ s₂ [v₁, v₂] E rm M₂ ⟨D₁.rel R₂, D₂, trivial⟩) (fun v s' h' => h'.from (R₁.trans R₂)) fun _ _ x => x) fun _ _ x => x) fun _ _ x => x)

theorem WPe_UnaryOp {op x pos} (h : WPe C n sc ρ O x fun d₁ O₁ => WPt C n O₁ [d₁] (fun vs => unaryOp op (vs.getD 0 .none)) Φ) :
    WPe C n sc ρ O (.UnaryOp op x pos) Φ := fun A env H as s E rm eo M lc =>
  wpC_UnaryOp (wpC_mono (h A env H as s E rm eo M lc) (fun v₁ s₁ qq => qq.out fun d₁ O₁ H₁ as₁ h₁ M₁ D₁ R₁ =>
      wpAny_mono (h₁ A H₁ as₁ s₁ [v₁] E rm M₁ ⟨D₁, trivial⟩) (fun v s' h' => h'.from R₁) fun _ _ x => x) fun _ _ x => x)

theorem WPe_Compare {l op r pos} (h : WPe C n sc ρ O l fun d₁ O₁ => WPe C n sc ρ O₁ r fun d₂ O₂ => WPt C n O₂ [d₁, d₂] (fun vs => compareOp op (vs.getD 0 .none) (vs.getD 1 .none)) Φ)
    (hm : behindInMarks op r = false) :
    WPe C n sc ρ O (.Compare l [op] [r] pos) Φ := fun A env H as s E rm eo M lc =>
  wpC_Compare1 (wpC_mono (h A env H as s E rm eo M lc) (fun v₁ s₁ qq => qq.out fun d₁ O₁ H₁ as₁ h₁ M₁ D₁ R₁ =>
    wpC_mono (h₁ A env H₁ as₁ s₁ E rm eo M₁ (lc.rel R₁)) (fun v₂ s₂ qq => qq.out fun d₂ O₂ H₂ as₂ h₂ M₂ D₂ R₂ =>
      wpAny_mono (h₂ A H₂ as₂ s₂ [v₁, v₂] E rm M₂ ⟨D₁.rel R₂, D₂, trivial⟩) (fun v s' h' => h'.from (R₁.trans R₂)) fun _ _ x => x) fun _ _ x => x) fun _ _ x => x) hm

inductive BoolP (d : D) (Ψ : Bool → Prop) : Prop
  | intro (b : Bool) (e : d = .val (.bool b)) (h : Ψ b)
theorem BoolP.pos {c : Bool} {P Q : Prop} (hc : c = true) (h : P) : BoolP (.val (.bool c)) fun b => if b = true then P else Q := ⟨c, rfl, by rw [if_pos hc]; exact h⟩
theorem BoolP.neg {c : Bool} {P Q : Prop} (hc : ¬ c = true) (h : Q) : BoolP (.val (.bool c)) fun b => if b = true then P else Q := ⟨c, rfl, by rw [if_neg hc]; exact h⟩
theorem WPb_Compare {l op r pos} {Ψ : Bool → List Ob → Prop} (h : WPe C n sc ρ O l fun d₁ O₁ => WPe C n sc ρ O₁ r fun d₂ O₂ => WPt C n O₂ [d₁, d₂] (fun vs => compareOp op (vs.getD 0 .none) (vs.getD 1 .none)) fun d O' => BoolP d fun b => Ψ b O')
    (hm : behindInMarks op r = false) :
    WPb C n sc ρ O (.Compare l [op] [r] pos) Ψ := fun A env H as s E rm eo M lc =>
  wpC_isTrue_Compare1 (wpC_mono (h A env H as s E rm eo M lc) (fun v₁ s₁ qq => qq.out fun d₁ O₁ H₁ as₁ h₁ M₁ D₁ R₁ =>
    wpC_mono (h₁ A env H₁ as₁ s₁ E rm eo M₁ (lc.rel R₁)) (fun v₂ s₂ qq => qq.out fun d₂ O₂ H₂ as₂ h₂ M₂ D₂ R₂ =>
      wpAny_mono (h₂ A H₂ as₂ s₂ [v₁, v₂] E rm M₂ ⟨D₁.rel R₂, D₂, trivial⟩) (fun v s' qq => qq.out fun d O' H' as' hq M' D' R' => by
        obtain ⟨b, hb, hΨ⟩ := hq
        subst hb
        unfold DenD Den at D'
        subst D'
        exact wpAny_truthy_bool ⟨O', H', as', hΨ, M', (R₁.trans R₂).trans R'⟩) fun _ _ x => x) fun _ _ x => x) fun _ _ x => x) hm

theorem WPb_name {x pos b} {Ψ : Bool → List Ob → Prop} (h : WPe C n sc ρ O (.Name x pos) fun d O' => d = .val (.bool b) ∧ Ψ b O') : WPb C n sc ρ O (.Name x pos) Ψ := fun A env H as s E rm eo M lc =>
  wpC_isTrue_value (wpC_mono (h A env H as s E rm eo M lc) (fun v s' qq => qq.out fun d O' H' as' ⟨hb, hΨ⟩ M' D' R' => by
    subst hb
    unfold DenD Den at D'
    subst D'
    exact wpAny_truthy_bool ⟨O', H', as', hΨ, M', R'⟩) fun _ _ x => x) rfl

theorem WPb_and {x y pos} {Ψ : Bool → List Ob → Prop} (h : WPb C n sc ρ O x fun b O₁ => if b then WPb C n sc ρ O₁ y Ψ else Ψ false O₁) : WPb C n sc ρ O (.BoolOp .And [x, y] pos) Ψ := fun A env H as s E rm eo M lc => by
  refine wpC_isTrue_BoolOp (wpC_allTrue_And_cons (wpC_mono (h A env H as s E rm eo M lc) (fun b s₁ qq => qq.out fun O₁ H₁ as₁ h₁ M₁ R₁ => ?_) fun _ _ x => x))
  cases b with
  | false => simp only [Bool.false_eq_true, if_false] at h₁ ⊢; exact ⟨O₁, H₁, as₁, h₁, M₁, R₁⟩
  | true =>
    simp only [if_true] at h₁ ⊢
    refine wpC_allTrue_And_cons (wpC_mono (h₁ A env H₁ as₁ s₁ E rm eo M₁ (lc.rel R₁)) (fun b s₂ qq => qq.out fun O₂ H₂ as₂ h₂ M₂ R₂ => ?_) fun _ _ x => x)
    cases b with
    | false => simp only [Bool.false_eq_true, if_false]; exact ⟨O₂, H₂, as₂, h₂, M₂, R₁.trans R₂⟩
    | true => simp only [if_true]; exact wpC_allTrue_And_nil ⟨O₂, H₂, as₂, h₂, M₂, R₁.trans R₂⟩
end

set_option genInjectivity true
inductive Out where
  | next (ρ : Vars) (O : List Ob)
  | brk (ρ : Vars) (O : List Ob)
  | cont (ρ : Vars) (O : List Ob)
  | ret (d : D) (O : List Ob)

inductive AfterN (C : Cx) (A : Around) (env : Env) (H' : PHeap) (as' : List Addr) (P : Vars → List Ob → Prop) (s' : Shared) : Prop
  | intro (ρ' : Vars) (O' : List Ob) (h : P ρ' O') (M : Mem C A H' as' O' s') (l : Loc H' as' env ρ' s')
inductive AfterR (C : Cx) (A : Around) (H' : PHeap) (as' : List Addr) (P : D → List Ob → Prop) (v : Value) (s' : Shared) : Prop
  | intro (d : D) (O' : List Ob) (h : P d O') (M : Mem C A H' as' O' s') (D : DenD H' as' d v)
noncomputable def AfterF (C : Cx) (A : Around) (env : Env) (H' : PHeap) (as' : List Addr) (Ψ : Out → Prop) (f : Flow) (s' : Shared) : Prop :=
  match f with
    | .next => AfterN C A env H' as' (fun ρ' O' => Ψ (.next ρ' O')) s'
    | .brk => AfterN C A env H' as' (fun ρ' O' => Ψ (.brk ρ' O')) s'
    | .cont => AfterN C A env H' as' (fun ρ' O' => Ψ (.cont ρ' O')) s'
    | .ret v => AfterR C A H' as' (fun d O' => Ψ (.ret d O')) v s'
inductive AfterS (C : Cx) (A : Around) (env : Env) (H : PHeap) (as : List Addr) (s : Shared) (Ψ : Out → Prop) (f : Flow) (s' : Shared) : Prop
  | intro (H' : PHeap) (as' : List Addr) (R : Rel (slots env) H as s H' as' s') (h : AfterF C A env H' as' Ψ f s')
theorem AfterS.out {C env H as s Ψ f s'} {A : Around} {P : Prop} (h : AfterS C A env H as s Ψ f s') (k : ∀ H' as', Rel (slots env) H as s H' as' s' → AfterF C A env H' as' Ψ f s' → P) : P :=
  h.casesOn k
theorem AfterS.from {C env H as s H' as' s' Ψ f s''} (r : Rel (slots env) H as s H' as' s') (h : AfterS C A env H' as' s' Ψ f s'') : AfterS C A env H as s Ψ f s'' :=
  h.casesOn fun H2 as2 h1 h2 => ⟨H2, as2, r.trans h1, h2⟩

structure EnvS (sc : Kinds) (A : Around) (env : Env) : Prop extends EnvOk sc env where
  top : ∃ l, A.frames = some (env :: l)

noncomputable def WPs (C : Cx) (n : Nat) (sc : Kinds) (ρ : Vars) (O : List Ob) (ss : List Stmt) (Ψ : Out → Prop) : Prop :=
  ∀ A env H as s E, Room n A → EnvS sc A env → Mem C A H as O s → Loc H as env ρ s → wpC (model C.prog C.w) A (execs ss env) (AfterS C A env H as s Ψ) E s
theorem WPs.run {C n sc ρ O ss Ψ} {A env H as s E} (h : WPs C n sc ρ O ss Ψ) (rm : Room n A) (eo : EnvS sc A env) (M : Mem C A H as O s) (l : Loc H as env ρ s) : wpC (model C.prog C.w) A (execs ss env) (AfterS C A env H as s Ψ) E s := h A env H as s E rm eo M l
noncomputable abbrev SeqK (C : Cx) (n : Nat) (sc : Kinds) (ss : List Stmt) (Ψ : Out → Prop) : Out → Prop := fun o => match o with
  | .next ρ' O' => WPs C n sc ρ' O' ss Ψ
  | o => Ψ o
noncomputable def WPx (C : Cx) (n : Nat) (sc : Kinds) (ρ : Vars) (O : List Ob) (st : Stmt) (Ψ : Out → Prop) : Prop :=
  ∀ A env H as s E, Room n A → EnvS sc A env → Mem C A H as O s → Loc H as env ρ s → wpC (model C.prog C.w) A (exec st env) (AfterS C A env H as s Ψ) E s

section
variable {C : Cx} {n : Nat} {sc : Kinds} {ρ : Vars} {O : List Ob} {Ψ : Out → Prop}

theorem Rel.up {env H as s H' as' s'} (r : Rel [] H as s H' as' s') : Rel (slots env) H as s H' as' s' := r.weaken (by simp)

theorem WPs.mono {ss Ψ'} (h : WPs C n sc ρ O ss Ψ) (hi : ∀ o, Ψ o → Ψ' o) : WPs C n sc ρ O ss Ψ' := fun A env H as s E r eo M l =>
  wpC_mono (h A env H as s E r eo M l) (fun f s' qq => qq.out fun H' as' R h1 => ⟨H', as', R, by
    cases f with
    | next => obtain ⟨ρ', O', h2, h3, h4⟩ := h1; exact ⟨ρ', O', hi _ h2, h3, h4⟩
    | brk => obtain ⟨ρ', O', h2, h3, h4⟩ := h1; exact ⟨ρ', O', hi _ h2, h3, h4⟩
    | cont => obtain ⟨ρ', O', h2, h3, h4⟩ := h1; exact ⟨ρ', O', hi _ h2, h3, h4⟩
    | ret v => obtain ⟨ρ', O', h2, h3, h4⟩ := h1; exact ⟨ρ', O', hi _ h2, h3, h4⟩⟩) fun _ _ x => x

noncomputable def Sub (ρ' ρ : Vars) : Prop := ∀ x d, ρ'.lookup x = some d → ρ.lookup x = some d
theorem Loc.sub {H as env ρ ρ' s} (l : Loc H as env ρ s) (h : Sub ρ' ρ) : Loc H as env ρ' s :=
  ⟨l.off, l.apart, l.apartL, let ⟨m, a, b⟩ := l.ns; ⟨m, a, fun x d hx => b x d (h x d hx)⟩, l.cell, fun x d hx => l.cells x d (h x d hx)⟩
theorem WPs.sub {ss ρ'} (h : WPs C n sc ρ' O ss Ψ) (hs : Sub ρ' ρ) : WPs C n sc ρ O ss Ψ := fun A env H as s E r eo M l => h A env H as s E r eo M (l.sub hs)
theorem WPs_nil (h : Ψ (.next ρ O)) : WPs C n sc ρ O [] Ψ := fun A env H as s E r eo M l =>
  .of (wpAny_execs_nil ⟨H, as, Rel.refl, ρ, O, h, M, l⟩)

theorem WPs_cons {st ss} (h : WPx C n sc ρ O st (SeqK C n sc ss Ψ)) : WPs C n sc ρ O (st :: ss) Ψ := fun A env H as s E r eo M l => by
  refine wpC_execs_cons (wpC_mono (h A env H as s E r eo M l) (fun f s' qq => qq.out fun H' as' R h1 => ?_) fun _ _ x => x)
  cases f with
  | next =>
    obtain ⟨ρ', O', h2, M', L'⟩ := h1
    exact wpC_mono (h2 A env H' as' s' E r eo M' L') (fun f s'' h' => h'.from R) fun _ _ x => x
  | brk => exact ⟨H', as', R, h1⟩
  | cont => exact ⟨H', as', R, h1⟩
  | ret v => exact ⟨H', as', R, h1⟩

theorem WPx_If {test body orelse pos} (h : WPb C n sc ρ O test fun b O' => if b then WPs C n sc ρ O' body Ψ else WPs C n sc ρ O' orelse Ψ) : WPx C n sc ρ O (.If test body orelse pos) Ψ := fun A env H as s E r eo M l => by
  refine wpC_If (wpC_mono (h A env H as s E r eo.toEnvOk M l) (fun b s₁ qq => qq.out fun O₁ H₁ as₁ h₁ M₁ R₁ => ?_) fun _ _ x => x)
  cases b with
  | true => simp only [if_true] at h₁ ⊢; exact wpC_mono (h₁ A env H₁ as₁ s₁ E r eo M₁ (l.rel R₁)) (fun f s'' h' => h'.from R₁.up) fun _ _ x => x
  | false => simp only [Bool.false_eq_true, if_false] at h₁ ⊢; exact wpC_mono (h₁ A env H₁ as₁ s₁ E r eo M₁ (l.rel R₁)) (fun f s'' h' => h'.from R₁.up) fun _ _ x => x

theorem WPx_Return {e pos} (h : WPe C n sc ρ O e fun d O' => Ψ (.ret d O')) : WPx C n sc ρ O (.Return (some e) pos) Ψ := fun A env H as s E r eo M l =>
  wpC_Return_some (wpC_mono (h A env H as s E r eo.toEnvOk M l) (fun v s' qq => qq.out fun d O' H' as' h1 M' D' R' => ⟨H', as', R'.up, d, O', h1, M', D'⟩) fun _ _ x => x)

theorem lookup_cons_ne {x y : Str} {d : D} {ρ : Vars} (h : x ≠ y) : List.lookup x ((y, d) :: ρ) = ρ.lookup x := by
  rw [List.lookup_cons]
  cases hb : x == y with
  | true => exact absurd (beq_iff_eq.mp hb) h
  | false => rfl

noncomputable def SlotIn (env : Env) (x : Str) (X : List Addr) : Prop := (env.kindOf x = some .local → env.locals ∈ X) ∧ ∀ c, env.kindOf x = some .cell → env.cells.lookup x = some c → c ∈ X
theorem SlotIn.all {env : Env} {x : Str} : SlotIn env x (slots env) :=
  ⟨fun _ => List.mem_cons_self .., fun c _ hc => List.mem_cons_of_mem _ (List.mem_map_of_mem (f := (·.2)) (mem_of_lookup hc))⟩
theorem store_ {A env H as s E x d v} {Q : Unit → Shared → Prop} (eo : EnvOk sc env) (M : Mem C A H as O s) (l : Loc H as env ρ s) (hv : DenD H as d v) (hk : sc.lookup x = some .local ∨ sc.lookup x = some .cell)
    (h : ∀ s', Mem C A H as O s' → Loc H as env ((x, d) :: ρ) s' → (∀ X, SlotIn env x X → Rel X H as s H as s') → Q () s') :
    wpAny (model C.prog C.w) A (storeName env x v) Q E s := by
  have hHne : ∀ a, a ∈ slots env → ∀ b o, H b = some o → b ≠ a := fun a ha b o e q => by subst q; rw [(l.off b ha).2.1] at e; cases e
  have hane : ∀ a, a ∈ slots env → ∀ b, b ∈ as → b ≠ a := fun a ha b hb q => by subst q; exact (l.off b ha).1 hb
  -- whichever slot is written, all else stands
  have gen : ∀ (a : Addr) (h' : Heap) (tk : Nat), a ∈ slots env → Live h' a → (∀ o es n, s.heap.get? a = some o → o.data = .dict es n → ∃ o' es' n', h'.get? a = some o' ∧ o'.data = .dict es' n') → Heap.SameBut a s.heap h' → Mem C A H as O { s with heap := h', toks := tk } ∧ ∀ X, a ∈ X → Rel X H as s H as { s with heap := h', toks := tk } := fun a h' tk ha hl hdict hs => by
    have keep : ∀ b o, b ≠ a → s.heap.get? b = some o → h'.get? b = some o := fun b o hb e => (hs.2 b hb).trans e
    have hal : ∀ b, Live s.heap b → Live h' b := fun b ⟨o, e⟩ => by
      by_cases q : b = a
      · rw [q]; exact hl
      · exact ⟨o, keep b o q e⟩
    refine ⟨⟨M.base, fun b o e => keep b o (hHne a ha b o e) (M.sat _ _ e), M.len, M.nodup, fun i b ob hb ho => ?_, fun b hb => hal b (M.live b hb), M.os, M.gens, M.stk.turn' (fun L h _ => h) (fun L _ h _ => h) fun L o es n _ e he => by
        by_cases q : L = a
        · subst q; exact hdict o es n e he
        · exact ⟨o, es, n, keep L o q e, he⟩⟩,
      fun X haX => ⟨fun _ _ e => e, fun _ _ e => .inl e, fun b o e hX _ => .inl (keep b o (fun q => hX (q ▸ haX)) e), hal, [], by simp, by simp⟩⟩
    have h := M.obs i b ob hb ho
    have hne := hane a ha b (List.mem_of_getElem? hb)
    cases ob with
    | gone => trivial
    | list ts => obtain ⟨h0, vs, k, h1, h2⟩ := h; exact ⟨h0, vs, k, keep _ _ hne h1, h2⟩
    | dict ks ts => obtain ⟨h0, es, k, h1, h2⟩ := h; exact ⟨h0, es, k, keep _ _ hne h1, h2⟩
  have off : ∀ (a : Addr) (h' : Heap), Live h' a → Heap.SameBut a s.heap h' → ∀ b ∈ slots env, b ∉ as ∧ H b = none ∧ Live h' b := fun a h' hl hs b hb => by
    obtain ⟨h1, h2, o, e⟩ := l.off b hb
    refine ⟨h1, h2, ?_⟩
    by_cases q : b = a
    · rw [q]; exact hl
    · exact ⟨o, (hs.2 b q).trans e⟩
  rcases hk with hk | hk
  · have hk' : env.kindOf x = some .local := by unfold Env.kindOf; rw [eo.names]; exact hk
    obtain ⟨m, hn, hm⟩ := l.ns
    refine wpAny_storeName_local hk' hn (fun h' hn' hs => ?_) (by rw [eo.kind]; rfl)
    have hl : Live h' env.locals := let ⟨o, _, _, e, _⟩ := hn'; ⟨o, e⟩
    obtain ⟨M', R'⟩ := gen env.locals h' (s.toks + 1) (List.mem_cons_self ..) hl (fun _ _ _ _ _ => let ⟨o, es, n, e, d, _⟩ := hn'; ⟨o, es, n, e, d⟩) hs
    refine h _ M' ⟨off _ h' hl hs, l.apart, l.apartL, ⟨_, hn', fun y d' hy hky => ?_⟩, fun k c hkc => ?_, fun y d' hy hky => ?_⟩ fun X hX => R' X (hX.1 hk')
    · by_cases q : y = x
      · subst q
        rw [List.lookup_cons, beq_self_eq_true] at hy
        cases hy
        exact ⟨v, hv, by simp⟩
      · rw [lookup_cons_ne q] at hy
        obtain ⟨v', hv', e⟩ := hm y d' hy hky
        exact ⟨v', hv', by rw [if_neg q]; exact e⟩
    · obtain ⟨v', ic⟩ := l.cell k c hkc
      exact ⟨v', ic.sameBut hs (l.apartL k c hkc)⟩
    · have q : y ≠ x := by rintro rfl; rw [hk'] at hky; cases hky
      rw [lookup_cons_ne q] at hy
      obtain ⟨v', c, hv', e, ic⟩ := l.cells y d' hy hky
      exact ⟨v', c, hv', e, ic.sameBut hs (l.apartL y c (mem_of_lookup e))⟩
  · obtain ⟨c, hc⟩ := eo.cellsOk x hk
    have hk' : env.kindOf x = some .cell := by unfold Env.kindOf; rw [eo.names]; exact hk
    have hcm := mem_of_lookup hc
    obtain ⟨v₀, ic₀⟩ := l.cell x c hcm
    refine wpAny_storeName_cell eo.kind hk' hc ic₀ fun h' ic' hs => ?_
    have hl : Live h' c := let ⟨o, e, _⟩ := ic'; ⟨o, e⟩
    obtain ⟨M', R'⟩ := gen c h' s.toks (List.mem_cons_of_mem _ (List.mem_map_of_mem (f := (·.2)) hcm)) hl (fun o es n e he => by
      obtain ⟨o', e', hd⟩ := ic₀
      rw [e] at e'; cases e'; rw [he] at hd; cases hd) hs
    refine h _ M' ⟨off _ h' hl hs, l.apart, l.apartL, ?_, fun k c' hkc => ?_, fun y d' hy hky => ?_⟩ fun X hX => R' X (hX.2 c hk' hc)
    · obtain ⟨m, hn, hm⟩ := l.ns
      refine ⟨m, hn.sameBut hs (Ne.symm (l.apartL x c hcm)), fun y d' hy hky => ?_⟩
      have q : y ≠ x := by rintro rfl; rw [hk'] at hky; cases hky
      rw [lookup_cons_ne q] at hy
      exact hm y d' hy hky
    · by_cases q : c' = c
      · subst q; exact ⟨_, ic'⟩
      · obtain ⟨v', ic⟩ := l.cell k c' hkc
        exact ⟨v', ic.sameBut hs q⟩
    · by_cases q : y = x
      · subst q
        rw [List.lookup_cons, beq_self_eq_true] at hy
        cases hy
        exact ⟨v, c, hv, hc, ic'⟩
      · rw [lookup_cons_ne q] at hy
        obtain ⟨v', c', hv', e, ic⟩ := l.cells y d' hy hky
        refine ⟨v', c', hv', e, ic.sameBut hs fun hcc => q ?_⟩
        subst hcc
        exact name_of_addr l.apart (mem_of_lookup e) hcm
end

end Mine
end

section
set_option Elab.async false
set_option maxRecDepth 100000
set_option linter.unusedVariables false
namespace Mine
open PySem PySem.W PyProof.Rows PySem.Calls

noncomputable def Apart (A : Around) (a : Addr) : Prop := ∀ l, A.frames = some l → ∀ env ∈ l, ∀ L, env.frame = some L → L ≠ a
theorem Mem.apart_new {C A H as O s} (M : Mem C A H as O s) {a : Addr} (h : s.heap.get? a = none) : Apart A a := fun l hl env he L hL q => by
  obtain ⟨l', e, f⟩ := M.stk
  rw [hl] at e; cases e
  obtain ⟨_, L', h1, _, _, o, _, _, h4, _⟩ := f env he
  rw [hL] at h1; cases h1
  subst q; rw [h] at h4; cases h4
theorem Mem.apart_nd {C A H as O s} (M : Mem C A H as O s) {a : Addr} (hd : ∀ o es n, s.heap.get? a = some o → o.data ≠ .dict es n) : Apart A a := fun l hl env he L hL q => by
  obtain ⟨l', e, f⟩ := M.stk
  rw [hl] at e; cases e
  obtain ⟨_, L', h1, _, _, o, es, n, h4, h5⟩ := f env he
  rw [hL] at h1; cases h1
  subst q; exact hd o es n h4 h5
theorem Mem.touchA {C A H as O s} (M : Mem C A H as O s) {a : Addr} {h' : Heap} {tk : Nat} (hH : H a = none) (ha : a ∉ as) (hs : Heap.ExtBut a s.heap h')
    (hap : Apart A a) : Mem C A H as O { s with heap := h', toks := tk } := by
  have hHne : ∀ b o, H b = some o → b ≠ a := fun b o e q => by subst q; rw [hH] at e; cases e
  have hane : ∀ b ∈ as, b ≠ a := fun b hb q => ha (q ▸ hb)
  refine ⟨M.base, fun b o e => hs b o (hHne b o e) (M.sat _ _ e), M.len, M.nodup, fun i b ob hb ho => ?_, fun b hb => let ⟨o, e⟩ := M.live b hb; ⟨o, hs b o (hane b hb) e⟩, M.os, M.gens, ?_⟩
  · have h := M.obs i b ob hb ho
    have hne : b ≠ a := hane b (List.mem_of_getElem? hb)
    cases ob with
    | gone => trivial
    | list ts => obtain ⟨h0, vs, k, h1, h2⟩ := h; exact ⟨h0, vs, k, hs _ _ hne h1, h2⟩
    | dict ks ts => obtain ⟨h0, es, k, h1, h2⟩ := h; exact ⟨h0, es, k, hs _ _ hne h1, h2⟩
  · obtain ⟨l, e, f⟩ := M.stk
    refine ⟨l, e, fun env he => ?_⟩
    obtain ⟨k, L, h1, h2, h3, o, es, n, h4, h5⟩ := f env he
    exact ⟨k, L, h1, h2, h3, o, es, n, hs L o (hap l e env he L h1) h4, h5⟩
theorem Mem.touch {C A H as O s} (M : Mem C A H as O s) {a : Addr} {h' : Heap} {tk : Nat} (hH : H a = none) (ha : a ∉ as) (hs : Heap.ExtBut a s.heap h')
    (hd : ∀ o es n, s.heap.get? a = some o → o.data ≠ .dict es n) : Mem C A H as O { s with heap := h', toks := tk } := M.touchA hH ha hs (M.apart_nd hd)
theorem Loc.touch {H as env ρ s} (l : Loc H as env ρ s) {a : Addr} {h' : Heap} {tk : Nat} (ha : a ∉ slots env) (hs : Heap.ExtBut a s.heap h') :
    Loc H as env ρ { s with heap := h', toks := tk } := by
  have keep : ∀ b ∈ slots env, ∀ o, s.heap.get? b = some o → h'.get? b = some o := fun b hb o e => hs b o (fun q => ha (q ▸ hb)) e
  have hc : ∀ n c, (n, c) ∈ env.cells → c ∈ slots env := fun n c h => List.mem_cons_of_mem _ (List.mem_map_of_mem (f := (·.2)) h)
  refine ⟨fun b hb => let ⟨h1, h2, o, e⟩ := l.off b hb; ⟨h1, h2, o, keep b hb o e⟩, l.apart, l.apartL, ?_, fun n c h => ?_, fun x d hx hk => ?_⟩
  · obtain ⟨m, ⟨o, es, ep, ho, r1⟩, hm⟩ := l.ns
    exact ⟨m, ⟨o, es, ep, keep _ (List.mem_cons_self ..) _ ho, r1⟩, hm⟩
  · obtain ⟨v, o, ho, hd⟩ := l.cell n c h
    exact ⟨v, o, keep _ (hc n c h) _ ho, hd⟩
  · obtain ⟨v, c, hv, e, o, ho, hd⟩ := l.cells x d hx hk
    exact ⟨v, c, hv, e, o, keep _ (hc x c (mem_of_lookup e)) _ ho, hd⟩
theorem Rel.touch {X H as s H' as' s'} (r : Rel X H as s H' as' s') {a : Addr} {h' : Heap} {tk : Nat} (ha : s.heap.get? a = none) (hs : Heap.ExtBut a s'.heap h') :
    Rel X H as s H' as' { s' with heap := h', toks := tk } :=
  ⟨r.mono, r.fresh, fun b o e hX hb => (r.keep b o e hX hb).trans fun o' e' => .inl (hs b o' (fun q => by rw [q, ha] at e; cases e) e'),
    fun b l => let ⟨o, e⟩ := r.alive b l; ⟨o, hs b o (fun q => by rw [q] at l; exact l.not_none ha) e⟩, r.ext⟩

noncomputable def rangeT : Int → Int → Nat → List T
  | _, _, 0 => []
  | x, c, n + 1 => .int x :: rangeT (x + c) c n

inductive ItAt (H : PHeap) (as : List Addr) (O : List Ob) (h : Heap) : Addr → List T → Prop
  | list {I l : Addr} {i : Nat} {vs : Array Value} {n : Nat} {ts : List T} : h.IsListIter I l i → H l = some (listO vs n) → DenL H ts vs.toList → ItAt H as O h I (ts.drop i)
  | own {I l : Addr} {i j : Nat} {ts : List T} : h.IsListIter I l i → as[j]? = some l → O[j]? = some (Ob.list ts) → ItAt H as O h I (ts.drop i)
  | range {I : Addr} {x : Int} {left : Nat} {step : Int} : IsRangeIter h I x left step → ItAt H as O h I (rangeT x step left)

section
variable {C : Cx} {n : Nat} {A : Around} {E : Value → Shared → Prop} {H : PHeap} {as : List Addr} {O : List Ob} {s : Shared}

theorem ItAt.keep {I ts h} (x : ItAt H as O s.heap I ts) (hk : ∀ o, s.heap.get? I = some o → h.get? I = some o) : ItAt H as O h I ts := by
  cases x with
  | list a b c => obtain ⟨o, ho, r⟩ := a; exact .list ⟨o, hk o ho, r⟩ b c
  | own a b c => obtain ⟨o, ho, r⟩ := a; exact .own ⟨o, hk o ho, r⟩ b c
  | range a => exact .range (hk _ a)
theorem ItAt.nd {I ts h} (x : ItAt H as O h I ts) : ∀ o es n, h.get? I = some o → o.data ≠ .dict es n := by
  cases x with
  | list a b c => obtain ⟨o, ho, _, hd⟩ := a; intro o' es n e q; rw [ho] at e; cases e; rw [hd] at q; cases q
  | own a b c => obtain ⟨o, ho, _, hd⟩ := a; intro o' es n e q; rw [ho] at e; cases e; rw [hd] at q; cases q
  | range a => intro o' es n e q; have a' := (show h.get? I = _ from a); rw [a'] at e; cases e; cases q
theorem ItAt.rel {X I ts H' as' s'} (x : ItAt H as O s.heap I ts) (r : Rel X H as s H' as' s') (hI : I ∉ as) (hX : I ∉ X) : ItAt H' as' O s'.heap I ts := by
  have hk : ∀ o, s.heap.get? I = some o → s'.heap.get? I = some o := fun o e => (r.keep _ _ e hX hI).exact fun es n => x.nd o es n e
  cases x with
  | list a b c => obtain ⟨o, ho, q⟩ := a; exact .list ⟨o, hk o ho, q⟩ (r.mono _ _ b) (DenL.mono r.mono _ _ c)
  | own a b c => obtain ⟨o, ho, q⟩ := a; exact .own ⟨o, hk o ho, q⟩ (r.get_as b) c
  | range a => exact .range (hk _ a)
theorem ItAt.relF {X I ts H' as' s'} (x : ItAt H [] [] s.heap I ts) (r : Rel X H as s H' as' s') (hI : I ∉ as) (hX : I ∉ X) : ItAt H' [] [] s'.heap I ts := by
  have hk : ∀ o, s.heap.get? I = some o → s'.heap.get? I = some o := fun o e => (r.keep _ _ e hX hI).exact fun es n => x.nd o es n e
  cases x with
  | list a b c => obtain ⟨o, ho, q⟩ := a; exact .list ⟨o, hk o ho, q⟩ (r.mono _ _ b) (DenL.mono r.mono _ _ c)
  | own a b c => simp at b
  | range a => exact .range (hk _ a)

theorem drop_cons {α : Type} {ts : List α} {i : Nat} {t : α} {r : List α} (h : ts.drop i = t :: r) : ts[i]? = some t ∧ ts.drop (i + 1) = r := by
  have h1 : (ts.drop i)[0]? = some t := by rw [h]; rfl
  rw [List.getElem?_drop] at h1
  refine ⟨by simpa using h1, ?_⟩
  rw [← List.drop_drop, h]; rfl
theorem drop_nil {α : Type} {ts : List α} {i : Nat} (h : ts.drop i = []) : ts[i]? = none := by
  have := List.drop_eq_nil_iff.mp h
  exact List.getElem?_eq_none this
theorem DenL.getNone {H : PHeap} {ts : List T} {vs : List Value} (h : DenL H ts vs) {i : Nat} (e : ts[i]? = none) : vs[i]? = none := by
  rw [List.getElem?_eq_none_iff] at e ⊢
  rw [h.length]; exact e

theorem ItAt.next {I t ts} (rm : Room n A) (M : Mem C A H as O s) (hI : I ∉ as) (hH : H I = none) (x : ItAt H as O s.heap I (t :: ts)) {Q : Option Value → Shared → Prop}
    (h : ∀ v h' tk, Den H t v → ItAt H as O h' I ts → Heap.SameBut I s.heap h' → Q (some v) { s with heap := h', toks := tk }) : wpAny (model C.prog C.w) A (pyNext (.ref I)) Q E s := by
  generalize he : t :: ts = all at x
  cases x with
  | @list l i vs k ts' a b c =>
    obtain ⟨e1, e2⟩ := drop_cons he.symm
    obtain ⟨v, hv, d⟩ := c.get e1
    refine wpAny_pyNext_list_item a ⟨_, M.sat _ _ b, rfl, k, rfl⟩ (x := v) (by simpa using hv) fun h' hit hs => ?_
    exact h v h' s.toks d (e2 ▸ .list hit b c) hs
  | @own l i j ts' a b c =>
    obtain ⟨e1, e2⟩ := drop_cons he.symm
    obtain ⟨_, vs, k, g, dl⟩ := M.obs j l _ b c
    obtain ⟨v, hv, d⟩ := dl.get e1
    refine wpAny_pyNext_list_item a ⟨_, g, rfl, k, rfl⟩ (x := v) (by simpa using hv) fun h' hit hs => ?_
    exact h v h' s.toks d (e2 ▸ .own hit b c) hs
  | @range x left step a =>
    cases left with
    | zero => cases he
    | succ m =>
      unfold rangeT at he
      cases he
      refine wpAny_pyNext_range_item a (by (first | exact Int.ofNat_succ_pos _ | omega)) fun h' hit hs => ?_
      refine h (.int x s.toks) h' _ (by unfold Den; exact ⟨_, rfl⟩) (.range ?_) hs
      have e : ((m + 1 : Nat) : Int) - 1 = (m : Int) := by (first | exact Int.sub_eq_iff_eq_add.mpr rfl | lia)
      rw [e] at hit
      exact hit
theorem ItAt.end {I} (rm : Room n A) (h0n : 0 < n) (M : Mem C A H as O s) (x : ItAt H as O s.heap I []) {Q : Option Value → Shared → Prop}
    (h : ∀ h', Heap.ExtBut I s.heap h' → Q none { s with heap := h' }) : wpAny (model C.prog C.w) A (pyNext (.ref I)) Q E s := by
  generalize he : ([] : List T) = all at x
  cases x with
  | @list l i vs k ts' a b c =>
    refine wpAny_pyNext_list_end (rm.handled h0n) a ⟨_, M.sat _ _ b, rfl, k, rfl⟩ (by simpa using c.getNone (drop_nil he.symm)) h
  | @own l i j ts' a b c =>
    obtain ⟨_, vs, k, g, dl⟩ := M.obs j l _ b c
    refine wpAny_pyNext_list_end (rm.handled h0n) a ⟨_, g, rfl, k, rfl⟩ (by simpa using dl.getNone (drop_nil he.symm)) h
  | @range x left step a =>
    cases left with
    | zero => exact wpAny_pyNext_range_end (rm.handled h0n) a (by simp) h
    | succ m => unfold rangeT at he; cases he
end

inductive BindR : Expr → T → Vars → Vars → Prop
  | name {x p t ρ} : BindR (.Name x p) t ρ ((x, .val t) :: ρ)
  | pair {a pa b pb k p t1 t2 ρ} : BindR (.Tuple [.Name a pa, .Name b pb] k p) (.list [t1, t2]) ρ ((b, .val t2) :: (a, .val t1) :: ρ)
inductive BindP (tgt : Expr) (t : T) (ρ : Vars) (P : Vars → Prop) : Prop
  | intro (ρ₁ : Vars) (b : BindR tgt t ρ ρ₁) (h : P ρ₁)
noncomputable def nameOk (sc : Kinds) (x : Str) : Prop := sc.lookup x = some .local ∨ sc.lookup x = some .cell
inductive tgtOk (sc : Kinds) : Expr → Prop
  | name {x p} (h : nameOk sc x) : tgtOk sc (.Name x p)
  | pair {a pa b pb k p} (h1 : nameOk sc a) (h2 : nameOk sc b) : tgtOk sc (.Tuple [.Name a pa, .Name b pb] k p)

section
variable {prog : Program} {w : World} {A : Around} {E : Value → Shared → Prop} {s : Shared}
theorem wpAny_draw_list {it t : Addr} {items : Array Value} (hne : t ≠ it) : ∀ (n i : Nat) (s : Shared) (Q : List Value → Shared → Prop), s.heap.IsListIter it t i → s.heap.IsList t items → i + n ≤ items.size →
    (∀ h', h'.IsListIter it t (i + n) → Heap.SameBut it s.heap h' → Q ((items.toList.drop i).take n) { s with heap := h' }) → wpAny (model prog w) A (draw (.ref it) n) Q E s
  | 0, i, s, Q, hit, _, _, hQ => by
    show wpAny _ _ (pure []) Q E s
    exact wpAny_pure (by simpa using hQ s.heap hit (Heap.SameBut.refl ..))
  | n + 1, i, s, Q, hit, ht, hle, hQ => by
    have hlt : i < items.size := by (first | exact Nat.lt_of_add_right_lt hle | lia)
    show wpAny _ _ (pyNext (.ref it) >>= _) Q E s
    refine wpAny_bind (wpAny_pyNext_list_item hit ht (x := items[i]) (by simp [hlt]) fun h₁ hit₁ hs₁ => ?_)
    refine wpAny_bind (wpAny_holding (wpAny_draw_list hne n (i + 1) _ _ hit₁ (ht.extBut hs₁.extBut hne) (by (first | exact z18 hle | lia)) fun h₂ hit₂ hs₂ => wpAny_pure ?_))
    have hd : items.toList.drop i = items[i] :: items.toList.drop (i + 1) := by simp [List.drop_eq_getElem_cons, hlt]
    have := hQ h₂ (by rw [show i + (n + 1) = i + 1 + n by (first | exact zAs.symm | lia)]; exact hit₂) (hs₁.trans hs₂)
    rw [hd, List.take_succ_cons] at this
    exact this
theorem wpAny_unpackItems_list {t : Addr} {items : Array Value} {Q : List Value → Shared → Prop} (hh : A.handled = none) (ht : s.heap.IsList t items)
    (hQ : ∀ h', Heap.ExtBut s.heap.objs.size s.heap h' → Q items.toList { s with heap := h' }) : wpAny (model prog w) A (unpackItems (.ref t) items.size none) Q E s := by
  have hlt : t ≠ s.heap.objs.size := by obtain ⟨o, ho, _⟩ := ht; exact Nat.ne_of_lt (Heap.lt_size ho)
  unfold unpackItems
  refine wpAny_bind ?_
  · unfold notIterableAtAll
    refine wpAny_bind (wpAny_specialOf ht.typeIs slot_list_iter.lookup ?_)
    refine wpAny_pure ?_
    simp only [Bool.false_eq_true, if_false]
    refine wpAny_bind (wpAny_holding (wpAny_pyIter_list ht ?_))
    refine wpAny_bind (wpAny_holding (wpAny_draw_list hlt items.size 0 _ _ ⟨_, Heap.get?_push_size _ rfl, rfl, rfl⟩ (ht.push _) (by (first | exact Nat.le_of_eq (Nat.zero_add _) | lia)) fun h₁ hit₁ hs₁ => ?_))
    have hall : List.take items.size (List.drop 0 items.toList) = items.toList := by
      rw [List.drop_zero]; exact List.take_of_length_le (by simp)
    rw [hall]
    rw [if_neg (by simp)]
    have ht₁ : h₁.IsList t items := (ht.push _).extBut hs₁.extBut hlt
    refine wpAny_bind (wpAny_holding (wpAny_pyNext_list_end hh hit₁ ht₁ (by simp) fun h₂ he₂ => ?_))
    simp only [Option.isSome_none, Bool.false_eq_true, if_false]
    refine wpAny_pure (hQ h₂ fun b o hb e => he₂ b o hb (hs₁.extBut b o hb (Heap.get?_push_of_some _ e)))
theorem wpAny_unpack_list {t : Addr} {items : Array Value} {targets : List (Bool × (Value → Sem Unit))} {Q : Unit → Shared → Prop} (hh : A.handled = none) (ht : s.heap.IsList t items)
    (hn : targets.length = items.size) (hstar : targets.findIdx? (·.1) = none)
    (h : ∀ h', Heap.ExtBut s.heap.objs.size s.heap h' → wpAny (model prog w) A (assignInOrder (targets.map (·.2)) items.toList) Q E { s with heap := h' }) :
    wpAny (model prog w) A (unpack (.ref t) targets) Q E s := by
  unfold unpack
  rw [hn, hstar]
  exact wpAny_bind (wpAny_holding (wpAny_unpackItems_list hh ht h))
theorem wpAny_assign_TupleL {env : Env} {elts : List Expr} {x1} {pos : Pos} {t : Addr} {items : Array Value} {Q : Unit → Shared → Prop} (hh : A.handled = none) (ht : s.heap.IsList t items)
    (hn : (assignEach elts env).length = items.size) (hstar : (assignEach elts env).findIdx? (·.1) = none)
    (h : ∀ h', Heap.ExtBut s.heap.objs.size s.heap h' → wpAny (model prog w) A (assignInOrder ((assignEach elts env).map (·.2)) items.toList) Q E { s with heap := h' }) :
    wpAny (model prog w) A (assign (.Tuple elts x1 pos) env (.ref t)) Q E s := by
  rw [arm_assign_Tuple]
  exact wpAny_bind (wpAny_standAt (wpAny_unpack_list hh ht hn hstar h))
end

theorem Loc.ext {H as env ρ s} (l : Loc H as env ρ s) {h' : Heap} {tk : Nat} (hs : ∀ b o, s.heap.get? b = some o → h'.get? b = some o) : Loc H as env ρ { s with heap := h', toks := tk } :=
  l.rel (s' := { s with heap := h', toks := tk }) (Rel.grow (fun _ _ h => h) (fun _ _ h => .inl h) hs)
theorem Mem.ext {C A H as O s} (M : Mem C A H as O s) {h' : Heap} {tk : Nat} (hs : ∀ b o, s.heap.get? b = some o → h'.get? b = some o) : Mem C A H as O { s with heap := h', toks := tk } :=
  (M.same (s' := { s with heap := h', toks := tk }) hs rfl rfl).1
theorem extBut_ext {s : Shared} {h' : Heap} (hs : Heap.ExtBut s.heap.objs.size s.heap h') : ∀ b o, s.heap.get? b = some o → h'.get? b = some o :=
  fun b o e => hs b o (Nat.ne_of_lt (Heap.lt_size e)) e

inductive TgtIn (env : Env) (X : List Addr) : Expr → Prop
  | name {x p} (h : SlotIn env x X) : TgtIn env X (.Name x p)
  | pair {a pa b pb k p} (h1 : SlotIn env a X) (h2 : SlotIn env b X) : TgtIn env X (.Tuple [.Name a pa, .Name b pb] k p)
theorem TgtIn.of_pair {env X a pa b pb k p} (h : TgtIn env X (.Tuple [.Name a pa, .Name b pb] k p)) : SlotIn env a X ∧ SlotIn env b X := by
  cases h with | pair h1 h2 => exact ⟨h1, h2⟩
theorem TgtIn.all {env : Env} {sc : Kinds} {tgt : Expr} (h : tgtOk sc tgt) : TgtIn env (slots env) tgt := by
  cases h with
  | name h => exact .name SlotIn.all
  | pair h1 h2 => exact .pair SlotIn.all SlotIn.all
theorem assign_ {C : Cx} {n A env H as O s E ρ ρ' sc} {tgt : Expr} {t : T} {v : Value} {Q : Unit → Shared → Prop} (rm : Room n A) (h0n : 0 < n) (eo : EnvOk sc env) (M : Mem C A H as O s) (l : Loc H as env ρ s) (hv : Den H t v)
    (hk : tgtOk sc tgt) (hb : BindR tgt t ρ ρ') (h : ∀ s', Mem C A H as O s' → Loc H as env ρ' s' → (∀ X, TgtIn env X tgt → Rel X H as s H as s') → Q () s') :
    wpAny (model C.prog C.w) A (assign tgt env v) Q E s := by
  cases hb with
  | name =>
    cases hk with | name hk =>
    exact wpAny_assign_Name (store_ (d := .val t) eo M l hv hk fun s' M' L' R' => h s' M' L' fun X hX => R' X (by cases hX; assumption))
  | @pair a pa b pb k p t1 t2 =>
    cases hk with | pair hk1 hk2 =>
    unfold Den at hv
    obtain ⟨ad, vs, k', rfl, hH, dl⟩ := hv
    rw [DenL.cons_iff] at dl
    obtain ⟨v1, r1, e1, d1, dl⟩ := dl
    rw [DenL.cons_iff] at dl
    obtain ⟨v2, r2, e2, d2, dl⟩ := dl
    rw [DenL.nil_iff] at dl
    have hvs : vs.toList = [v1, v2] := by rw [e1, e2, dl]
    have hsz : vs.size = 2 := by rw [← Array.length_toList, hvs]; rfl
    refine wpAny_assign_TupleL (rm.handled h0n) (items := vs) ⟨_, M.sat _ _ hH, rfl, k', rfl⟩ (by rw [hsz]; rfl) (by rfl) fun h' hs => ?_
    rw [hvs]
    have M1 := M.ext (h' := h') (tk := s.toks) (extBut_ext hs)
    have L1 := l.ext (h' := h') (tk := s.toks) (extBut_ext hs)
    have R1 : ∀ X, Rel X H as s H as { s with heap := h', toks := s.toks } := fun X => Rel.grow (fun _ _ h => h) (fun _ _ h => .inl h) (extBut_ext hs)
    show wpAny _ _ (assignInOrder [assign (.Name a pa) env, assign (.Name b pb) env] [v1, v2]) _ _ _
    unfold assignInOrder
    refine wpAny_bind (wpAny_holding (wpAny_assign_Name (store_ (d := .val t1) eo M1 L1 d1 hk1 fun s2 M2 L2 R2 => ?_)))
    unfold assignInOrder
    refine wpAny_bind (wpAny_holding (wpAny_assign_Name (store_ (d := .val t2) eo M2 L2 d2 hk2 fun s3 M3 L3 R3 => ?_)))
    unfold assignInOrder
    exact wpAny_pure (h s3 M3 L3 fun X hX => by
      cases hX with
      | pair q1 q2 => exact ((R1 X).trans (R2 X q1)).trans (R3 X q2))

noncomputable def ForP (C : Cx) (n : Nat) (sc : Kinds) (tgt : Expr) (body : List Stmt) : List T → Vars → List Ob → (Out → Prop) → Prop
  | [], ρ, O, Ψ => Ψ (.next ρ O)
  | t :: ts, ρ, O, Ψ => BindP tgt t ρ fun ρ₁ => WPs C n sc ρ₁ O body fun o => match o with
    | .next ρ' O' => ForP C n sc tgt body ts ρ' O' Ψ
    | .cont ρ' O' => ForP C n sc tgt body ts ρ' O' Ψ
    | .brk ρ' O' => Ψ (.next ρ' O')
    | .ret d O' => Ψ (.ret d O')

section
variable {C : Cx} {n : Nat} {sc : Kinds}

theorem letOwned_it {C : Cx} {A E H as O s I ts} {target : Expr} {v : Value} {Q : Unit → Shared → Prop} (hk : tgtOk sc target) (x : ItAt H as O s.heap I ts) (h : Q () s) :
    wpAny (model C.prog C.w) A (letOwnedTupleGo target (.ref I) v) Q E s := by
  have key : ∀ o : Obj, s.heap.get? I = some o → (o.cls = .type "list_iterator" ∨ o.cls = .type "range_iterator") → wpAny (model C.prog C.w) A (letOwnedTupleGo target (.ref I) v) Q E s := by
    intro o ho hc
    cases hk with
    | name => exact wpAny_pure h
    | pair => cases v <;> first
      | exact wpAny_pure h
      | (refine wpAny_bind (wpAny_load ho ?_)
         obtain ⟨c, d, dt, sl⟩ := o
         dsimp only at hc ⊢
         rcases hc with rfl | rfl
         · cases dt <;> exact wpAny_pure h
         · cases dt <;> exact wpAny_pure h)
  cases x with
  | list a b c => obtain ⟨o, ho, hc, _⟩ := a; exact key o ho (.inl hc)
  | own a b c => obtain ⟨o, ho, hc, _⟩ := a; exact key o ho (.inl hc)
  | range a => exact key _ a (.inr rfl)
end

end Mine
end

section
set_option Elab.async false
set_option maxRecDepth 100000
set_option linter.unusedVariables false
namespace Mine
open PySem PySem.W PyProof.Rows PySem.Calls

theorem Rel.off {X H as s H' as' s'} (r : Rel X H as s H' as' s') {a : Addr} (l : Live s.heap a) (h1 : a ∉ as) (h2 : H a = none) : a ∉ as' ∧ H' a = none := by
  obtain ⟨more, rfl, hm⟩ := r.ext
  refine ⟨fun h => ?_, ?_⟩
  · rcases List.mem_append.mp h with h | h
    · exact h1 h
    · exact l.not_none (hm a h)
  · cases q : H' a with
    | none => rfl
    | some o =>
      rcases r.fresh a o q with h | h | h
      · rw [h2] at h; cases h
      · exact absurd h l.not_none
      · exact absurd h h1

section
variable {prog : Program} {w : World} {A : Around} {R : Result → Shared → Prop} {s : Shared}
theorem forLoop_ {target it body orelse env} (I : Nat → Shared → Prop)
    (turn : ∀ n s E, I n s → wpAny (model prog w) A (pyNext it) (fun r s₁ => match r with
      | none => wpC (model prog w) A (execs orelse env) (fun f s₃ => R (.ok f) s₃) E s₁
      | some v => wpAny (model prog w) A (letOwnedTupleGo target it v) (fun _ s₁ => wpAny (model prog w) A (assign target env v) (fun _ s₂ => wpC (model prog w) A (execs body env) (fun f s₃ => match f with
          | .next | .cont => ∃ m, m < n ∧ I m s₃
          | .brk => R (.ok .next) s₃
          | .ret v => R (.ok (.ret v)) s₃) E s₂) E s₁) E s₁) E s)
    (n : Nat) (h : I n s) : codeC (model prog w) A (.forLoop target it body orelse env) R s := by
  refine codeC_loop rfl I (fun n s hI => ?_) n h
  show wpC _ _ ((forTurn target it body orelse env).onRaise (fun x => do noteFrame x env; theTreesLotGoes x)) _ _ s
  refine wpC_noted ?_
  simp only [forTurn]
  refine wpC_bind (wpC_standAt (wpC_bind (wpC_onRaise (wpC_mono (.of (turn n s (notedBy (model prog w) A env fun e s' => R (.error e) s') hI)) (fun r s₁ h₁ => ?_) fun _ _ h' => wpC_standAt h'))))
  cases r with
  | none => exact wpC_pure (.inr ⟨rfl, codeC_block h₁⟩)
  | some v =>
    refine wpC_bind (wpC_mono (.of h₁) (fun _ s₁ h₁ => ?_) fun _ _ h' => h')
    refine wpC_bind (wpC_mono (.of h₁) (fun _ s₂ h₂ => wpC_bind (wpC_mono h₂ (fun f s₃ h₃ => ?_) fun _ _ h' => h')) fun _ _ h' => h')
    cases f with
    | next => exact wpC_pure (.inl ⟨rfl, h₃⟩)
    | cont => exact wpC_pure (.inl ⟨rfl, h₃⟩)
    | brk => exact wpC_pure h₃
    | ret v => exact wpC_pure h₃

theorem compLoop_ {elt target iter : Expr} {ifs : List Expr} {scope : Scope} {pos : Pos} {it acc : Value} {env : Env} (I : Nat → Shared → Prop)
    (turn : ∀ n s E, I n s → wpAny (model prog w) A (pyNext it) (fun r s₁ => match r with
      | none => R (.ok .next) s₁
      | some v => wpAny (model prog w) A (letOwnedTupleGo target it v) (fun _ s₁ => wpAny (model prog w) A (assign target env v) (fun _ s₂ =>
          wpC (model prog w) A (forIn ifs true fun c r => if r = true then do let ok ← isTrue c env (eval c env); pure (ForInStep.yield ok) else pure (ForInStep.yield r)) (fun ok s₃ =>
            if ok = true then wpC (model prog w) A (eval elt env) (fun x s₄ =>
              wpAny (model prog w) A (call (.builtin "list.append") [acc, x]) (fun _ s₅ => ∃ m, m < n ∧ I m s₅) E s₄) E s₃
            else ∃ m, m < n ∧ I m s₃) E s₂) E s₁) E s₁) E s)
    (n : Nat) (h : I n s) :
    codeC (model prog w) A (.compLoop (.ListComp elt [⟨target, iter, ifs, 0⟩] scope pos) 0 it acc env) R s := by
  refine codeC_loop rfl I (fun n s hI => ?_) n h
  show wpC _ A ((compTurn (.ListComp elt [⟨target, iter, ifs, 0⟩] scope pos) 0 it acc env).onRaise (fun x => do noteFrame x env; theTreesLotGoes x)) _ _ s
  refine wpC_noted ?_
  rw [compTurn_list]
  refine wpC_bind (wpC_standAt (wpC_bind (wpC_mono (.of (turn n s (notedBy (model prog w) A env fun e s' => R (.error e) s') hI)) (fun r s₁ h₁ => ?_) fun _ _ h' => h')))
  cases r with
  | none => exact wpC_pure h₁
  | some v =>
    refine wpC_bind (wpC_mono (.of h₁) (fun _ s₁ h₁ => ?_) fun _ _ h' => h')
    refine wpC_bind (wpC_mono (.of h₁) (fun _ s₂ h₂ => wpC_bind (wpC_mono h₂ (fun ok s₃ h₃ => ?_) fun _ _ h' => h')) fun _ _ h' => h')
    cases ok with
    | false => exact wpC_pure (.inl ⟨rfl, h₃⟩)
    | true =>
      exact wpC_bind (wpC_bind (wpC_mono h₃ (fun x s₄ h₄ => wpC_bind (wpC_mono (.of h₄) (fun _ s₅ h₅ => wpC_pure (wpC_pure (.inl ⟨rfl, h₅⟩))) fun _ _ h' => h')) fun _ _ h' => h'))
end

section
variable {C : Cx} {n : Nat} {sc : Kinds} {ρ : Vars} {O : List Ob} {Ψ : Out → Prop}

inductive ForS (C : Cx) (A : Around) (n : Nat) (sc : Kinds) (tgt : Expr) (body : List Stmt) (Ψ : Out → Prop) (env : Env) (H : PHeap) (as : List Addr) (s : Shared) (I : Addr) (m : Nat) (s' : Shared) : Prop
  | intro (ts : List T) (ρ : Vars) (O : List Ob) (H' : PHeap) (as' : List Addr) (e : ts.length = m) (hF : ForP C n sc tgt body ts ρ O Ψ) (M : Mem C A H' as' O s') (l : Loc H' as' env ρ s') (hit : ItAt H' [] [] s'.heap I ts) (h1 : I ∉ as') (h2 : H' I = none) (R : Rel (slots env) H as s H' as' s')
theorem ItAt.live {H as h I ts O} (x : ItAt H as O h I ts) : Live h I := by
  cases x with
  | list a b c => obtain ⟨o, ho, _⟩ := a; exact ⟨o, ho⟩
  | own a b c => obtain ⟨o, ho, _⟩ := a; exact ⟨o, ho⟩
  | range a => exact ⟨_, a⟩
theorem Mem.bare {C A H as O s} (M : Mem C A H as O s) : Mem C A H [] [] s := ⟨M.base, M.sat, rfl, List.nodup_nil, fun i a ob h => (by rw [List.getElem?_nil] at h; cases h), fun a h => absurd h List.not_mem_nil, M.os, M.gens, M.stk.turn (fun _ _ _ => List.not_mem_nil) (fun _ _ h _ => h) (fun _ _ _ e => .inl e)⟩
theorem for_code {A env H as s tgt body ts I H₁ as₁ s₁} (rm : Room n A) (h0n : 0 < n) (eo : EnvS sc A env) (hk : tgtOk sc tgt) (hF : ForP C n sc tgt body ts ρ O Ψ)
    (M : Mem C A H₁ as₁ O s₁) (l : Loc H₁ as₁ env ρ s₁) (hit : ItAt H₁ [] [] s₁.heap I ts) (hI : s.heap.get? I = none) (h1 : I ∉ as₁) (h2 : H₁ I = none) (h3 : I ∉ slots env)
    (R : Rel (slots env) H as s H₁ as₁ s₁) :
    codeC (model C.prog C.w) A (.forLoop tgt (.ref I) body [] env) (fun r s' => match r with | .ok f => AfterS C A env H as s Ψ f s' | .error e => False) s₁ := by
  refine forLoop_ (ForS C A n sc tgt body Ψ env H as s I) (fun m s' E hq => ?_) ts.length ⟨ts, ρ, O, H₁, as₁, rfl, hF, M, l, hit, h1, h2, R⟩
  clear hF M l hit h1 h2 R
  obtain ⟨ts, ρ, O, H', as', em, hF, M, l, hit, h1, h2, R⟩ := hq
  cases ts with
  | nil =>
    exact ItAt.end rm h0n M.bare hit fun h' hs => .of (wpAny_execs_nil ⟨H', as', R.touch hI hs, ρ, O, hF, M.touch h2 h1 hs hit.nd, l.touch h3 hs⟩)
  | cons t ts =>
    have em : ts.length < m := em ▸ Nat.lt_succ_self _
    refine ItAt.next rm M.bare List.not_mem_nil h2 hit fun v h' tk hv hit' hs => letOwned_it (C := C) (s := { s' with heap := h', toks := tk }) hk hit' ?_
    have M1 := M.touch (tk := tk) h2 h1 hs.extBut hit.nd
    have l1 := l.touch (tk := tk) h3 hs.extBut
    have R1 := R.touch (tk := tk) hI hs.extBut
    have hit' : ItAt H' [] [] ({ s' with heap := h', toks := tk } : Shared).heap I ts := hit'
    clear M l R hs hit
    generalize ({ s' with heap := h', toks := tk } : Shared) = s₀ at M1 l1 R1 hit' ⊢
    refine hF.casesOn fun ρ₁ hb hw => assign_ rm h0n eo.toEnvOk M1 l1 hv hk hb fun s2 M2 l2 R2 => ?_
    have R2 := R2 _ (TgtIn.all hk)
    have hit2 : ItAt H' [] [] s2.heap I ts := hit'.relF (s := s₀) (H' := H') (as' := as') R2 h1 h3
    refine wpC_mono (hw A env H' as' s2 E rm eo M2 l2) (fun f s3 qq => qq.out fun H3 as3 R3 h3' => ?_) fun _ _ x => x
    have RR := (R1.trans R2).trans R3
    have hit3 : ItAt H3 [] [] s3.heap I ts := hit2.relF R3 h1 h3
    have off := R3.off hit2.live h1 h2
    clear R1 R2 R3 hit' hit2 M1 l1 M2 l2 hw hF hv
    cases f with
    | next => exact h3'.casesOn fun ρ' O' q M3 l3 => ⟨ts.length, em, ts, ρ', O', H3, as3, rfl, q, M3, l3, hit3, off.1, off.2, RR⟩
    | cont => exact h3'.casesOn fun ρ' O' q M3 l3 => ⟨ts.length, em, ts, ρ', O', H3, as3, rfl, q, M3, l3, hit3, off.1, off.2, RR⟩
    | brk => exact h3'.casesOn fun ρ' O' q M3 l3 => ⟨H3, as3, RR, ρ', O', q, M3, l3⟩
    | ret v => exact h3'.casesOn fun d O' q M3 l3 => ⟨H3, as3, RR, d, O', q, M3, l3⟩

noncomputable def itemsD (O : List Ob) : D → Option (List T)
  | .val (.list ts) => some ts
  | .val (.range a b c) => if Builtin.Range.small a b c = true ∧ 0 ≤ Builtin.Range.rangeSize a b c then some (rangeT a c (Builtin.Range.rangeSize a b c).toNat) else none
  | .ref i => match O[i]? with
    | some (.list ts) => some ts
    | _ => none
  | _ => none

theorem iter_ {A H as s d ts v E} {Q : Value → Shared → Prop} (rm : Room n A) (M : Mem C A H as O s) (hd : itemsD O d = some ts) (hv : DenD H as d v)
    (h : ∀ I s', s.heap.get? I = none → Mem C A H as O s' → Rel [] H as s H as s' → (∀ b o, s.heap.get? b = some o → s'.heap.get? b = some o) → I ∉ as → H I = none → Live s'.heap I → ItAt H as O s'.heap I ts → (∀ t, d = .val t → ItAt H [] [] s'.heap I ts) → Q (.ref I) s') :
    wpAny (model C.prog C.w) A (pyIter v) Q E s := by
  have hn := get?_size s.heap
  have h2 : H s.heap.objs.size = none := M.fresh_none hn
  have h1 : s.heap.objs.size ∉ as := fun hm => (M.live _ hm).not_none hn
  have push : ∀ o, o.isFreed = false → Mem C A H as O { s with heap := s.heap.push o } ∧ ∀ X, Rel X H as s H as { s with heap := s.heap.push o } := fun o ho =>
    M.same (fun b o' e => Heap.get?_push_of_some _ e) rfl rfl
  cases d with
  | ref i =>
    obtain ⟨a, ha, rfl⟩ := hv
    have hd : (match O[i]? with | some (.list ts) => some ts | _ => none) = some ts := hd
    split at hd
    · rename_i ts' hO
      cases hd
      obtain ⟨_, vs, k, g, dl⟩ := M.obs i a _ ha hO
      obtain ⟨M', R'⟩ := push { cls := .type "list_iterator", data := .fields #[.ref a, .int 0 0] } rfl
      refine wpAny_pyIter_list ⟨_, g, rfl, k, rfl⟩ (h _ _ hn M' (R' _) (fun b o e => Heap.get?_push_of_some _ e) h1 h2 ⟨_, Heap.get?_push_size _ rfl⟩ (.own (i := 0) ⟨_, Heap.get?_push_size _ rfl, rfl, rfl⟩ ha hO) (fun t e => by cases e))
    · cases hd
  | val t =>
    cases t with
    | list ts' =>
      cases hd
      unfold DenD Den at hv
      obtain ⟨a, vs, k, rfl, hH, dl⟩ := hv
      obtain ⟨M', R'⟩ := push { cls := .type "list_iterator", data := .fields #[.ref a, .int 0 0] } rfl
      refine wpAny_pyIter_list ⟨_, M.sat _ _ hH, rfl, k, rfl⟩ (h _ _ hn M' (R' _) (fun b o e => Heap.get?_push_of_some _ e) h1 h2 ⟨_, Heap.get?_push_size _ rfl⟩ (.list (i := 0) ⟨_, Heap.get?_push_size _ rfl, rfl, rfl⟩ hH dl) (fun t e => .list (i := 0) ⟨_, Heap.get?_push_size _ rfl, rfl, rfl⟩ hH dl))
    | range a b c =>
      have hd2 : (if Builtin.Range.small a b c = true ∧ 0 ≤ Builtin.Range.rangeSize a b c then some (rangeT a c (Builtin.Range.rangeSize a b c).toNat) else none) = some ts := hd
      by_cases hc : Builtin.Range.small a b c = true ∧ 0 ≤ Builtin.Range.rangeSize a b c
      · rw [if_pos hc] at hd2
        have hd3 := Option.some.inj hd2
        subst hd3
        clear hd hd2
        unfold DenD Den at hv
        obtain ⟨r, t, u, w, rfl, hH⟩ := hv
        have hsz : Builtin.Range.rangeSize a b c = ((Builtin.Range.rangeSize a b c).toNat : Nat) := (Int.toNat_of_nonneg hc.2).symm
        obtain ⟨M', R'⟩ := push { cls := .type "range_iterator", data := .fields #[rawInt a, rawInt (Builtin.Range.rangeSize a b c), rawInt c] } rfl
        have hi : IsRangeIter (s.heap.push { cls := .type "range_iterator", data := .fields #[rawInt a, rawInt (Builtin.Range.rangeSize a b c), rawInt c] }) s.heap.objs.size a (((Builtin.Range.rangeSize a b c).toNat : Nat) : Int) c := by
          rw [← hsz]; exact Heap.get?_push_size _ rfl
        refine wpAny_pyIter_range (M.sat _ _ hH) hc.1 (h _ _ hn M' (R' _) (fun b o e => Heap.get?_push_of_some _ e) h1 h2 ⟨_, Heap.get?_push_size _ rfl⟩ (.range hi) (fun t e => .range hi))
      · rw [if_neg hc] at hd2; cases hd2
    | _ => cases hd

inductive IterP (O : List Ob) (d : D) (P : List T → Prop) : Prop
  | intro (t : T) (ts : List T) (e : d = .val t) (h : itemsD O d = some ts) (k : P ts)
theorem WPx_For {tgt iter body pos} (hk : tgtOk sc tgt) (h : WPe C n sc ρ O iter fun d O' => IterP O' d fun ts => ForP C n sc tgt body ts ρ O' Ψ)
    (hs : ∀ (env : Env) x, foldedSetIterable iter env x = pure x) (h0n : 0 < n) :
    WPx C n sc ρ O (.For tgt iter body [] pos) Ψ := fun A env H as s E rm eo M l => by
  refine wpC_For (wpC_mono (h A env H as s E rm eo.toEnvOk M l) (fun v s₁ qq => qq.out fun d O₁ H₁ as₁ hq M₁ D₁ R₁ => ?_) fun _ _ x => x) (hs env)
  obtain ⟨t, ts, hd, hi, hF⟩ := hq
  have l₁ := l.rel R₁
  refine iter_ rm M₁ hi D₁ fun I s₂ hI M₂ R₂ hk₂ h1 h2 hl _ hF' => ?_
  have l₂ := l₁.rel R₂
  have h3 : I ∉ slots env := fun hm => by
    obtain ⟨_, _, o, e⟩ := l₁.off I hm
    rw [hI] at e; cases e
  have RR := (R₁.trans R₂)
  refine codeC_mono (for_code (s := s₁) (H := H₁) (as := as₁) rm h0n eo hk hF M₂ l₂ (hF' t hd) hI h1 h2 h3 R₂.up) fun r s' hr => ?_
  cases r with
  | ok f => exact hr.from R₁.up
  | error e => exact hr.elim

theorem WPx_Assign {x px e pos} (hk : nameOk sc x) (h : WPe C n sc ρ O e fun d O' => Ψ (.next ((x, d) :: ρ) O'))
    (hs : ∀ env : Env, EnvOk sc env → swapsWith e (some (.Name x px)) pos.line env = pure false) : WPx C n sc ρ O (.Assign [.Name x px] e pos) Ψ := fun A env H as s E rm eo M l =>
  wpC_Assign_Name (wpC_mono (h A env H as s E rm eo.toEnvOk M l) (fun v s₁ qq => qq.out fun d O₁ H₁ as₁ h₁ M₁ D₁ R₁ =>
    store_ eo.toEnvOk M₁ (l.rel R₁) D₁ hk fun s₂ M₂ l₂ R₂ => ⟨H₁, as₁, R₁.up.trans (R₂ _ SlotIn.all), _, _, h₁, M₂, l₂⟩) fun _ _ x => x) (hs env eo.toEnvOk)

theorem WPx_Expr {e pos} (h : WPe C n sc ρ O e fun d O' => d = .val .none ∧ Ψ (.next ρ O'))
    (hs : ∀ env : Env, EnvOk sc env → swapsWith e none pos.line env = pure false) : WPx C n sc ρ O (.Expr e pos) Ψ := fun A env H as s E rm eo M l =>
  wpC_Expr (wpC_mono (h A env H as s E rm eo.toEnvOk M l) (fun v s₁ qq => qq.out fun d O₁ H₁ as₁ ⟨hd, h₁⟩ M₁ D₁ R₁ => by
    subst hd
    unfold DenD Den at D₁
    subst D₁
    exact ⟨H₁, as₁, R₁.up, _, _, h₁, M₁, l.rel R₁⟩) fun _ _ x => x) (by unfold interactive; rw [eo.kind]; rfl) (hs env eo.toEnvOk)

inductive WhP (inv : Nat → Vars → List Ob → Prop) (k : Nat) (ρ' : Vars) (O' : List Ob) : Prop
  | intro (k' : Nat) (ρ'' : Vars) (h : k' < k) (s : Sub ρ'' ρ') (i : inv k' ρ'' O')
inductive WhS (C : Cx) (A : Around) (inv : Nat → Vars → List Ob → Prop) (env : Env) (H : PHeap) (as : List Addr) (s : Shared) (k : Nat) (s' : Shared) : Prop
  | intro (ρ : Vars) (O : List Ob) (H' : PHeap) (as' : List Addr) (hi : inv k ρ O) (M : Mem C A H' as' O s') (l : Loc H' as' env ρ s') (R : Rel (slots env) H as s H' as' s')
theorem WPx_While {test body pos} (inv : Nat → Vars → List Ob → Prop) {k : Nat} (h0 : ∃ ρ₀, Sub ρ₀ ρ ∧ inv k ρ₀ O)
    (hstep : ∀ k ρ O, inv k ρ O → WPb C n sc ρ O test fun b O' => if b then WPs C n sc ρ O' body (fun o => match o with
      | .next ρ' O' => WhP inv k ρ' O'
      | .cont ρ' O' => WhP inv k ρ' O'
      | .brk ρ' O' => Ψ (.next ρ' O')
      | .ret d O' => Ψ (.ret d O')) else Ψ (.next ρ O')) : WPx C n sc ρ O (.While test body [] pos) Ψ := fun A env H as s E rm eo M l => by
  obtain ⟨ρ₀, hs, h0⟩ := h0
  refine wpC_While ?_
  refine codeC_mono (R := fun r s' => match r with | .ok f => AfterS C A env H as s Ψ f s' | .error e => False) ?_ fun r s' hr => by
    cases r with
    | ok f => exact hr
    | error e => exact hr.elim
  refine codeC_whileLoop (WhS C A inv env H as s) (fun k s' E hq => ?_) k ⟨ρ₀, O, H, as, h0, M, l.sub hs, Rel.refl⟩
  clear M l h0 hs
  obtain ⟨ρ, O, H', as', hi, M, l, R⟩ := hq
  refine wpC_mono (hstep k ρ O hi A env H' as' s' _ rm eo.toEnvOk M l) (fun b s₁ qq => qq.out fun O₁ H₁ as₁ h₁ M₁ R₁ => ?_) fun _ _ x => x
  have l₁ := l.rel R₁
  have R₁ := R.trans R₁.up
  cases b with
  | false => exact .of (wpAny_execs_nil ⟨H₁, as₁, R₁, ρ, O₁, h₁, M₁, l₁⟩)
  | true =>
    refine wpC_mono (WPs.run h₁ rm eo M₁ l₁) (fun f s₂ qq => qq.out fun H₂ as₂ R₂ h₂ => ?_) fun _ _ x => x
    have RR := R₁.trans R₂
    cases f with
    | next => exact h₂.casesOn fun ρ' O' q M₂ l₂ => q.casesOn fun k' ρ'' hk hsub hi' => ⟨k', hk, ρ'', O', H₂, as₂, hi', M₂, l₂.sub hsub, RR⟩
    | cont => exact h₂.casesOn fun ρ' O' q M₂ l₂ => q.casesOn fun k' ρ'' hk hsub hi' => ⟨k', hk, ρ'', O', H₂, as₂, hi', M₂, l₂.sub hsub, RR⟩
    | brk => exact h₂.casesOn fun ρ' O' q M₂ l₂ => ⟨H₂, as₂, RR, ρ', O', q, M₂, l₂⟩
    | ret v => exact h₂.casesOn fun d O' q M₂ D₂ => ⟨H₂, as₂, RR, d, O', q, M₂, D₂⟩
end

inductive AfterL (C : Cx) (A : Around) (H : PHeap) (as : List Addr) (s : Shared) (Φ : List D → List Ob → Prop) (vs : List Value) (s' : Shared) : Prop
  | intro (ds : List D) (O' : List Ob) (H' : PHeap) (as' : List Addr) (h : Φ ds O') (M : Mem C A H' as' O' s') (D : DenDs H' as' ds vs) (R : Rel [] H as s H' as' s')
theorem AfterL.out {C A H as s Φ vs s'} {P : Prop} (h : AfterL C A H as s Φ vs s') (k : ∀ ds O' H' as', Φ ds O' → Mem C A H' as' O' s' → DenDs H' as' ds vs → Rel [] H as s H' as' s' → P) : P :=
  h.casesOn k
noncomputable def WPl (C : Cx) (n : Nat) (sc : Kinds) (ρ : Vars) (O : List Ob) (es : List Expr) (Φ : List D → List Ob → Prop) : Prop :=
  ∀ A env H as s E pos, Room n A → EnvOk sc env → Mem C A H as O s → Loc H as env ρ s → wpC (model C.prog C.w) A (spliced (backTo pos (starEach es env))) (AfterL C A H as s Φ) E s
noncomputable def notStar : Expr → Prop
  | .Starred .. => False
  | _ => True

section
variable {C : Cx} {n : Nat} {sc : Kinds} {ρ : Vars} {O : List Ob}
theorem WPl_nil {Φ : List D → List Ob → Prop} (h : Φ [] O) : WPl C n sc ρ O [] Φ := fun A env H as s E pos rm eo M l =>
  .of (spliced_nil ⟨[], O, H, as, h, M, trivial, Rel.refl⟩)
theorem starEach_cons {e : Expr} {es : List Expr} {env : Env} (h : notStar e) : starEach (e :: es) env = (false, eval e env) :: starEach es env := by
  cases e <;> first | rfl | exact h.elim
theorem WPl_cons {e es} {Φ : List D → List Ob → Prop} (h : WPe C n sc ρ O e fun d O' => WPl C n sc ρ O' es fun ds O'' => Φ (d :: ds) O'') (hn : notStar e) : WPl C n sc ρ O (e :: es) Φ := fun A env H as s E pos rm eo M l => by
  rw [starEach_cons hn]
  show wpC _ _ (spliced ((false, eval e env) :: backTo pos (starEach es env))) _ _ _
  refine splicedC_cons (wpC_mono (h A env H as s E rm eo M l) (fun v s₁ qq => qq.out fun d O₁ H₁ as₁ h₁ M₁ D₁ R₁ => ?_) fun _ _ x => x)
  refine wpC_mono (h₁ A env H₁ as₁ s₁ E pos rm eo M₁ (l.rel R₁)) (fun vs s₂ qq => qq.out fun ds O₂ H₂ as₂ h₂ M₂ D₂ R₂ => ?_) fun _ _ x => x
  exact ⟨d :: ds, O₂, H₂, as₂, h₂, M₂, ⟨D₁.rel R₂, D₂⟩, R₁.trans R₂⟩

noncomputable def vals : List D → Option (List T)
  | [] => some []
  | .val t :: r => (vals r).map (t :: ·)
  | .ref _ :: _ => none
theorem DenDs.vals {H as} : ∀ {ds : List D} {vs : List Value} {ts : List T}, DenDs H as ds vs → Mine.vals ds = some ts → DenL H ts vs
  | [], [], ts, _, e => by cases e; exact .nil
  | .val t :: r, v :: vs, ts, ⟨h, hr⟩, e => by
    unfold Mine.vals at e
    obtain ⟨ts', e', rfl⟩ := Option.map_eq_some_iff.mp e
    exact .cons h (DenDs.vals hr e')
  | .ref _ :: _, _ :: _, ts, _, e => by cases e
  | [], _ :: _, _, h, _ => h.elim
  | _ :: _, [], _, h, _ => h.elim
theorem DenDs.length {H as} : ∀ {ds : List D} {vs : List Value}, DenDs H as ds vs → vs.length = ds.length
  | [], [], _ => rfl
  | _ :: _, _ :: _, ⟨_, h⟩ => by simp [DenDs.length h]
  | [], _ :: _, h => h.elim
  | _ :: _, [], h => h.elim

noncomputable def shortB : Nat → List D → Bool
  | _, [] => true
  | 0, _ :: _ => false
  | k + 1, _ :: r => shortB k r
theorem shortB_le : ∀ {k : Nat} {ds : List D}, shortB k ds = true → ds.length ≤ k
  | _, [], _ => Nat.zero_le _
  | _ + 1, _ :: _, h => Nat.succ_le_succ (shortB_le (ds := _) h)
theorem short_line {ds : List D} (h : shortB 40 ds = true) : ds.length ≤ sizeLine := Nat.le_trans (shortB_le h) (by decide)
inductive ListP (ds : List D) (P : List T → Prop) : Prop
  | intro (h : shortB 40 ds = true) (ts : List T) (e : vals ds = some ts) (k : P ts)
theorem WPe_List {es pos} {Φ : D → List Ob → Prop} (h : WPl C n sc ρ O es fun ds O' => ListP ds fun ts => Φ (.val (.list ts)) O') : WPe C n sc ρ O (.List es pos) Φ := fun A env H as s E rm eo M l => by
  refine ListC_ (wpC_mono (h A env H as s E pos rm eo M l) (fun vs s₁ qq => qq.out fun ds O₁ H₁ as₁ hq M₁ D₁ R₁ => ?_) fun _ _ x => x)
  obtain ⟨hsz, ts, ht, hΦ⟩ := hq
  refine wpAny_newObj_type ?_ (by show vs.toArray.size ≤ sizeLine; rw [List.size_toArray, D₁.length]; exact short_line hsz)
  obtain ⟨M₂, R₂⟩ := M₁.put (o := listO vs.toArray 0) (s' := { s₁ with heap := s₁.heap.push (listO vs.toArray 0) }) (get?_size _) (Heap.get?_push_size _ rfl) (fun b o e => Heap.get?_push_of_some _ e) rfl rfl
  refine ⟨_, O₁, _, as₁, hΦ, M₂, ?_, R₁.trans (R₂ _)⟩
  unfold DenD Den
  exact ⟨_, _, 0, rfl, PHeap.put_self, by simpa using DenL.mono (R₂ []).mono _ _ (D₁.vals ht)⟩
theorem WPe_ListOwn {es pos} {Φ : D → List Ob → Prop} (h : WPl C n sc ρ O es fun ds O' => ListP ds fun ts => Φ (.ref O'.length) (O' ++ [.list ts])) : WPe C n sc ρ O (.List es pos) Φ := fun A env H as s E rm eo M l => by
  refine ListC_ (wpC_mono (h A env H as s E pos rm eo M l) (fun vs s₁ qq => qq.out fun ds O₁ H₁ as₁ hq M₁ D₁ R₁ => ?_) fun _ _ x => x)
  obtain ⟨hsz, ts, ht, hΦ⟩ := hq
  refine wpAny_newObj_type ?_ (by show vs.toArray.size ≤ sizeLine; rw [List.size_toArray, D₁.length]; exact short_line hsz)
  have hn := get?_size s₁.heap
  obtain ⟨M₂, R₂⟩ := M₁.own (ob := .list ts) (s' := { s₁ with heap := s₁.heap.push (listO vs.toArray 0) }) hn ⟨M₁.fresh_none hn, vs.toArray, 0, Heap.get?_push_size _ rfl, by simpa using D₁.vals ht⟩ ⟨_, Heap.get?_push_size _ rfl⟩
    (fun b o e => Heap.get?_push_of_some _ e) rfl rfl
  refine ⟨_, _, _, _, hΦ, M₂, ⟨_, ?_, rfl⟩, R₁.trans (R₂ _)⟩
  rw [← M₁.len, List.getElem?_append_right (Nat.le_refl _)]; simp
theorem WPe_Tuple {es k pos} {Φ : D → List Ob → Prop} (h : WPl C n sc ρ O es fun ds O' => ListP ds fun ts => Φ (.val (.tup ts)) O') : WPe C n sc ρ O (.Tuple es k pos) Φ := fun A env H as s E rm eo M l => by
  refine TupleC_ (wpC_mono (h A env H as s E pos rm eo M l) (fun vs s₁ qq => qq.out fun ds O₁ H₁ as₁ hq M₁ D₁ R₁ => ?_) fun _ _ x => x)
  obtain ⟨hsz, ts, ht, hΦ⟩ := hq
  refine wpAny_newObj_type ?_ (by show vs.toArray.size ≤ sizeLine; rw [List.size_toArray, D₁.length]; exact short_line hsz)
  obtain ⟨M₂, R₂⟩ := M₁.put (o := tupO vs.toArray 0) (s' := { s₁ with heap := s₁.heap.push (tupO vs.toArray 0) }) (get?_size _) (Heap.get?_push_size _ rfl) (fun b o e => Heap.get?_push_of_some _ e) rfl rfl
  refine ⟨_, O₁, _, as₁, hΦ, M₂, ?_, R₁.trans (R₂ _)⟩
  unfold DenD Den
  exact ⟨_, _, 0, rfl, PHeap.put_self, by simpa using DenL.mono (R₂ []).mono _ _ (D₁.vals ht)⟩

noncomputable def thaw (i : Nat) (t : T) : D → D
  | .ref j => if j = i then .val t else .ref j
  | d => d
theorem freeze_ {H as s i ob t} (M : Mem C A H as O s) (hi : O[i]? = some ob) (ht : (match ob with | .list ts => t = .list ts | .dict ks ts => t = .dict ks ts | .gone => False)) :
    ∃ H', Mem C A H' as (O.set i .gone) s ∧ (∀ X, Rel X H as s H' as s) ∧ ∀ d v, DenD H as d v → DenD H' as (thaw i t d) v := by
  have hlt : i < as.length := by rw [M.len]; exact (List.getElem?_eq_some_iff.mp hi).1
  obtain ⟨a, ha⟩ : ∃ a, as[i]? = some a := ⟨as[i], List.getElem?_eq_getElem hlt⟩
  have hob := M.obs i a ob ha hi
  obtain ⟨o, h0, g, hden⟩ : ∃ o, H a = none ∧ s.heap.get? a = some o ∧ ∀ H' : PHeap, H' a = some o → (∀ b o, H b = some o → H' b = some o) → Den H' t (.ref a) := by
    cases ob with
    | gone => exact ht.elim
    | list ts =>
      obtain ⟨h0, vs, k, g, dl⟩ := hob
      subst ht
      exact ⟨_, h0, g, fun H' hH hm => by unfold Den; exact ⟨a, vs, k, rfl, hH, DenL.mono hm _ _ dl⟩⟩
    | dict ks ts =>
      obtain ⟨h0, es, k, g, hk, dl⟩ := hob
      subst ht
      exact ⟨_, h0, g, fun H' hH hm => by unfold Den; exact ⟨a, es, k, rfl, hH, hk, DenL.mono hm _ _ dl⟩⟩
  have hm : ∀ b o', H b = some o' → H.put a o b = some o' := fun b o' e => by
    unfold PHeap.put
    split
    · rename_i q; subst q; rw [h0] at e; cases e
    · exact e
  refine ⟨H.put a o, ⟨fun b o' e => hm _ _ (M.base b o' e), fun b o' e => ?_, by simp [M.len], M.nodup, fun j b ob' hb ho => ?_, M.live, M.os, M.gens, M.stk.turn (fun _ h _ => h) (fun L h1 h2 _ => by
    have hne : L ≠ a := fun q => h1 (q ▸ List.mem_of_getElem? ha)
    unfold PHeap.put; rw [if_neg hne]; exact h2) (fun _ _ _ e => .inl e)⟩, fun X => ⟨hm, fun b o' e => ?_, fun b o' e _ _ => .inl e, fun b l => l, [], by simp, by simp⟩, fun d v hd => ?_⟩
  · unfold PHeap.put at e
    split at e
    · rename_i q; subst q; cases e; exact g
    · exact M.sat _ _ e
  · by_cases hj : j = i
    · subst hj
      rw [List.getElem?_set_self (by rw [← M.len]; exact hlt)] at ho
      cases ho; trivial
    · rw [List.getElem?_set_ne (by (first | exact fun ze => hj ze.symm | lia))] at ho
      have h := M.obs j b ob' hb ho
      have hne : b ≠ a := fun q => by
        subst q
        exact hj ((List.getElem?_inj (List.getElem?_eq_some_iff.mp hb).1 M.nodup).mp (hb.trans ha.symm))
      have hn : H b = none → H.put a o b = none := fun e => by unfold PHeap.put; rw [if_neg hne]; exact e
      cases ob' with
      | gone => trivial
      | list ts => obtain ⟨h0, vs, k, h1, h2⟩ := h; exact ⟨hn h0, vs, k, h1, DenL.mono hm _ _ h2⟩
      | dict ks ts => obtain ⟨h0, es, k, h1, hk, h2⟩ := h; exact ⟨hn h0, es, k, h1, hk, DenL.mono hm _ _ h2⟩
  · unfold PHeap.put at e
    split at e
    · rename_i q; subst q; exact .inr (.inr (List.mem_of_getElem? ha))
    · exact .inl e
  · cases d with
    | val t' => exact Den.mono hm _ _ hd
    | ref j =>
      obtain ⟨b, hb, rfl⟩ := hd
      show DenD _ as (if j = i then .val t else .ref j) _
      by_cases q : j = i
      · rw [if_pos q]
        subst q
        rw [ha] at hb; cases hb
        exact hden _ PHeap.put_self hm
      · rw [if_neg q]; exact ⟨b, hb, rfl⟩

noncomputable def thawV (i : Nat) (t : T) (ρ : Vars) : Vars := ρ.map fun p => (p.1, thaw i t p.2)
theorem thawV_lookup {i t x d} : ∀ {ρ : Vars}, (thawV i t ρ).lookup x = some d → ∃ d', ρ.lookup x = some d' ∧ d = thaw i t d'
  | [], h => by simp [thawV] at h
  | (y, d₀) :: r, h => by
    unfold thawV at h
    rw [List.map_cons, List.lookup_cons] at h
    rw [List.lookup_cons]
    cases hb : x == y with
    | true => rw [hb] at h; simp at h; exact ⟨d₀, rfl, h.symm⟩
    | false => rw [hb] at h; exact thawV_lookup (ρ := r) h
theorem Loc.thaw {H as env ρ s H' i t} (l : Loc H as env ρ s) (hf : ∀ X, Rel X H as s H' as s) (hd : ∀ d v, DenD H as d v → DenD H' as (Mine.thaw i t d) v) : Loc H' as env (thawV i t ρ) s := by
  have l' := l.rel (hf [])
  refine ⟨l'.off, l'.apart, l'.apartL, ?_, l'.cell, fun x d hx hk => ?_⟩
  · obtain ⟨m, hn, hm⟩ := l.ns
    refine ⟨m, hn, fun x d hx hk => ?_⟩
    obtain ⟨d', hx', rfl⟩ := thawV_lookup hx
    obtain ⟨v, hv, e⟩ := hm x d' hx' hk
    exact ⟨v, hd _ _ hv, e⟩
  · obtain ⟨d', hx', rfl⟩ := thawV_lookup hx
    obtain ⟨v, c, hv, e, ic⟩ := l.cells x d' hx' hk
    exact ⟨v, c, hd _ _ hv, e, ic⟩
theorem WPs_freeze {ss i ts} {Ψ : Out → Prop} (hi : O[i]? = some (.list ts)) (h : WPs C n sc (thawV i (.list ts) ρ) (O.set i .gone) ss Ψ) : WPs C n sc ρ O ss Ψ := fun A env H as s E rm eo M l => by
  obtain ⟨H', M', R', hd⟩ := freeze_ (t := .list ts) M hi rfl
  exact wpC_mono (h A env H' as s E rm eo M' (l.thaw R' hd)) (fun f s' h' => h'.from (R' _)) fun _ _ x => x
end

end Mine
end

section
set_option Elab.async false
set_option maxRecDepth 100000
set_option linter.unusedVariables false
namespace Mine
open PySem PySem.W PyProof.Rows PySem.Calls

theorem cellsFrom_acc : ∀ (names : Kinds) (n : Nat) (acc : List (Str × Addr)), cellsFrom n names acc = cellsFrom n names [] ++ acc
  | [], _, _ => rfl
  | (x, k) :: r, n, acc => by
    unfold cellsFrom
    split
    · rw [cellsFrom_acc r (n + 1) ((x, n) :: acc), cellsFrom_acc r (n + 1) [(x, n)], List.append_assoc]; rfl
    · exact cellsFrom_acc r n acc
theorem cellsFrom_kind : ∀ (names : Kinds) (n : Nat) {x : Str} {c : Addr}, (x, c) ∈ cellsFrom n names [] → (x, NameKind.cell) ∈ names
  | [], _, _, _, h => by simp [cellsFrom] at h
  | (y, k) :: r, n, x, c, h => by
    unfold cellsFrom at h
    split at h
    · rename_i hk
      rw [cellsFrom_acc] at h
      rcases List.mem_append.mp h with h | h
      · exact List.mem_cons_of_mem _ (cellsFrom_kind r _ h)
      · have e : (x, c) = (y, n) := by simpa using h
        cases e
        rw [beq_iff_eq.mp hk]
        exact List.mem_cons_self ..
    · exact List.mem_cons_of_mem _ (cellsFrom_kind r _ h)
theorem cellsFrom_has : ∀ (names : Kinds) (n : Nat) {x : Str}, (x, NameKind.cell) ∈ names → ∃ c, (x, c) ∈ cellsFrom n names []
  | (y, k) :: r, n, x, h => by
    unfold cellsFrom
    rcases List.mem_cons.mp h with e | h
    · cases e
      rw [if_pos (by simp), cellsFrom_acc]
      exact ⟨n, List.mem_append_right _ (by simp)⟩
    · split
      · obtain ⟨c, hc⟩ := cellsFrom_has r (n + 1) h
        rw [cellsFrom_acc]
        exact ⟨c, List.mem_append_left _ hc⟩
      · exact cellsFrom_has r n h

noncomputable def closL (cells : List (Str × Addr)) : Kinds → List (Str × Addr) → List (Str × Addr)
  | [], acc => acc
  | (x, k) :: r, acc => closL cells r (if k = .free then (x, (cells.lookup x).getD 0) :: acc else acc)
theorem closL_mem {cells : List (Str × Addr)} : ∀ (names : Kinds) (acc : List (Str × Addr)) {x : Str} {c : Addr}, (x, c) ∈ closL cells names acc → (x, c) ∈ acc ∨ ((x, NameKind.free) ∈ names ∧ c = (cells.lookup x).getD 0)
  | [], _, _, _, h => .inl h
  | (y, k) :: r, acc, x, c, h => by
    unfold closL at h
    rcases closL_mem r _ h with h | h
    · split at h
      · rename_i hk
        rcases List.mem_cons.mp h with e | h
        · cases e; subst hk; exact .inr ⟨List.mem_cons_self .., rfl⟩
        · exact .inl h
      · exact .inl h
    · exact .inr ⟨List.mem_cons_of_mem _ h.1, h.2⟩
theorem closL_acc {cells : List (Str × Addr)} : ∀ (names : Kinds) (acc : List (Str × Addr)) {p : Str × Addr}, p ∈ acc → p ∈ closL cells names acc
  | [], _, _, h => h
  | (y, k) :: r, acc, p, h => by
    unfold closL
    refine closL_acc r _ ?_
    split
    · exact List.mem_cons_of_mem _ h
    · exact h
theorem closL_has {cells : List (Str × Addr)} : ∀ (names : Kinds) (acc : List (Str × Addr)) {x : Str}, (x, NameKind.free) ∈ names → ∃ c, (x, c) ∈ closL cells names acc
  | (y, k) :: r, acc, x, h => by
    unfold closL
    rcases List.mem_cons.mp h with e | h
    · cases e
      exact ⟨_, closL_acc r _ (by rw [if_pos rfl]; exact List.mem_cons_self ..)⟩
    · exact closL_has r _ h
theorem closL_nodup {cells : List (Str × Addr)} : ∀ (names : Kinds) (acc : List (Str × Addr)), (acc.map (·.1) ++ names.map (·.1)).Nodup → ((closL cells names acc).map (·.1)).Nodup
  | [], acc, h => by unfold closL; simpa using h
  | (y, k) :: r, acc, h => by
    unfold closL
    refine closL_nodup r _ ?_
    split
    · rw [List.map_cons]
      refine List.Perm.nodup (List.Perm.symm ?_) h
      exact List.perm_middle.symm
    · refine List.Nodup.sublist ?_ h
      rw [List.map_cons]
      exact List.Sublist.append_left (List.sublist_cons_self ..) _

section
variable {M : Model} {A : Around} {E : Value → Shared → Prop} {s : Shared} {env : Env}
theorem closureFor_eq {scope : Scope} (h : ∀ x, (x, NameKind.free) ∈ scope.names → (env.cells.lookup x).isSome = true) : closureFor scope env = pure (closL env.cells scope.names []) := by
  have key : ∀ (names : Kinds) (acc : List (Str × Addr)), (∀ x, (x, NameKind.free) ∈ names → (env.cells.lookup x).isSome = true) →
      (forIn names acc fun (x : Str × NameKind) (cs : List (Str × Addr)) => do
        if x.2 == .free then
          let a ← cellOf env x.1
          pure (ForInStep.yield ((x.1, a) :: cs))
        else pure (ForInStep.yield cs) : Sem (List (Str × Addr))) = pure (closL env.cells names acc) := by
    intro names
    induction names with
    | nil => intro acc _; rfl
    | cons p r ih =>
      intro acc h
      obtain ⟨x, k⟩ := p
      rw [List.forIn_cons]
      unfold closL
      by_cases hk : k = .free
      · subst hk
        obtain ⟨c, hc⟩ := Option.isSome_iff_exists.mp (h x (List.mem_cons_self ..))
        simp only [beq_self_eq_true, if_true, cellOf, hc, Option.getD_some]
        exact ih _ fun y hy => h y (List.mem_cons_of_mem _ hy)
      · have hb : (k == NameKind.free) = false := by simpa using hk
        simp only [hb, Bool.false_eq_true, if_false, hk]
        exact ih _ fun y hy => h y (List.mem_cons_of_mem _ hy)
  have e := key scope.names [] h
  unfold closureFor
  simp only [bind_pure]
  refine Eq.trans ?_ e
  congr 1

noncomputable def compEnv' (scope : Scope) (cells : List (Str × Addr)) (L : Addr) (env : Env) : Env :=
  { scope := scope, locals := L, globals := env.globals, cells := cells, qual := env.qual, func := none, code := env.code, frame := env.frame, builtins := env.builtins }

theorem newCompEnv {scope : Scope} {cl : List (Str × Addr)} {Q : Env → Shared → Prop}
    (h : Q (compEnv' scope (cellsFrom (s.heap.objs.size + 1) scope.names cl) s.heap.objs.size env) { s with heap := pushCells (s.heap.push { cls := .type "dict", data := .dict #[] }) scope.names }) :
    wpAny M A (newFunctionEnv scope env.globals cl [] env.qual none .none (some env)) Q E s := by
  simp only [newFunctionEnv, Option.isSome_some, if_true]
  refine wpAny_bind (wpAny_alloc ?_)
  refine wpAny_bind (wpAny_layCells _ (fun name kind cells => by cases hkc : kind == NameKind.cell <;> simp [hkc]) _ _ _ _ ?_)
  rw [show ({ s with heap := s.heap.push { cls := .type "dict", data := .dict #[] } } : Shared).heap.objs.size = s.heap.objs.size + 1 from Heap.size_push ..]
  simp only [List.forIn_nil]
  exact wpAny_bind (wpAny_pure (wpAny_pure h))
end

noncomputable def relab (sc names : Kinds) : Kinds := names.map fun p => if (p.2 == .free && sc.lookup p.1 == some .cell) = true then (p.1, .cell) else p
noncomputable def capt (names : Kinds) (ρ : Vars) : Vars := ρ.filter fun p => names.lookup p.1 == some .free

structure CompOk (sc : Kinds) (scope : Scope) (tgt : Expr) : Prop where
  kind : scope.kind = .function
  nodup : (scope.names.map (·.1)).Nodup
  free : ∀ p ∈ scope.names, p.2 = .free → sc.lookup p.1 = some .cell
  tgt : tgtOk scope.names tgt

theorem lookup_nodup {α : Type} : ∀ {l : List (Str × α)} {x : Str} {k : α}, (l.map (·.1)).Nodup → (x, k) ∈ l → l.lookup x = some k
  | (y, j) :: r, x, k, hn, h => by
    rw [List.map_cons, List.nodup_cons] at hn
    rw [List.lookup_cons]
    rcases List.mem_cons.mp h with e | h
    · cases e; rw [beq_self_eq_true]
    · have : (x == y) = false := by
        cases hb : x == y with
        | false => rfl
        | true => rw [beq_iff_eq.mp hb] at h; exact absurd (List.mem_map_of_mem (f := (·.1)) h) hn.1
      rw [this]; exact lookup_nodup hn.2 h
theorem lookup_none_of {α : Type} : ∀ {l : List (Str × α)} {x : Str}, (∀ k, (x, k) ∉ l) → l.lookup x = none
  | [], _, _ => rfl
  | (y, j) :: r, x, h => by
    rw [List.lookup_cons]
    have : (x == y) = false := by
      cases hb : x == y with
      | false => rfl
      | true => rw [beq_iff_eq.mp hb] at h; exact absurd (List.mem_cons_self ..) (h j)
    rw [this]; exact lookup_none_of fun k hk => h k (List.mem_cons_of_mem _ hk)
theorem lookup_append {α : Type} : ∀ {l l' : List (Str × α)} {x : Str}, (l ++ l').lookup x = (l.lookup x).or (l'.lookup x)
  | [], l', x => by simp
  | (y, j) :: r, l', x => by
    rw [List.cons_append, List.lookup_cons, List.lookup_cons]
    cases x == y
    · exact lookup_append
    · rfl
theorem relab_lookup {sc : Kinds} : ∀ {names : Kinds} {x : Str}, (relab sc names).lookup x = (names.lookup x).map fun k => if (k == .free && sc.lookup x == some .cell) = true then .cell else k
  | [], x => rfl
  | (y, k) :: r, x => by
    unfold relab
    rw [List.map_cons, List.lookup_cons]
    cases hb : x == y with
    | true =>
      have e := beq_iff_eq.mp hb
      subst e
      by_cases hc : (k == NameKind.free && sc.lookup x == some NameKind.cell) = true
      · simp only [hc, if_true]
        rw [List.lookup_cons, beq_self_eq_true]; simp only [Option.map_some, hc, if_true]
      · simp only [Bool.eq_false_iff.mpr hc, Bool.false_eq_true, if_false]
        rw [List.lookup_cons, beq_self_eq_true]; simp only [Option.map_some, Bool.eq_false_iff.mpr hc, Bool.false_eq_true, if_false]
    | false =>
      have ih := @relab_lookup sc r x
      unfold relab at ih
      by_cases hc : (k == NameKind.free && sc.lookup y == some NameKind.cell) = true
      · simp only [hc, if_true]
        rw [List.lookup_cons, hb]; exact ih
      · simp only [Bool.eq_false_iff.mpr hc, Bool.false_eq_true, if_false]
        rw [List.lookup_cons, hb]; exact ih
theorem capt_lookup {names : Kinds} : ∀ {ρ : Vars} {x : Str} {d : D}, (capt names ρ).lookup x = some d → names.lookup x = some .free ∧ ρ.lookup x = some d
  | [], x, d, h => by simp [capt] at h
  | (y, d₀) :: r, x, d, h => by
    have ih := @capt_lookup names r x d
    unfold capt at h ih
    rw [List.filter_cons] at h
    rw [List.lookup_cons]
    by_cases hy : (names.lookup y == some NameKind.free) = true
    · rw [if_pos hy, List.lookup_cons] at h
      cases hb : x == y with
      | true =>
        rw [hb] at h
        have e := beq_iff_eq.mp hb
        subst e
        exact ⟨beq_iff_eq.mp hy, h⟩
      | false => rw [hb] at h; exact ih h
    · rw [if_neg hy] at h
      cases hb : x == y with
      | true =>
        have e := beq_iff_eq.mp hb
        subst e
        exact absurd (beq_iff_eq.mpr (ih h).1) hy
      | false => exact ih h

-- the block of a comprehension: its own names, and those that it has of the frame around it
inductive CompE (sc : Kinds) (scope : Scope) (tgt : Expr) (env : Env) (ρ : Vars) (H : PHeap) (as : List Addr) (s : Shared) (cenv : Env) (s' : Shared) : Prop
  | intro (Y : List Addr) (eo : EnvOk (relab sc scope.names) cenv) (tok : tgtOk (relab sc scope.names) tgt) (l : Loc H as cenv (capt scope.names ρ) s') (keep : ∀ b o, s.heap.get? b = some o → s'.heap.get? b = some o)
      (hY : ∀ a ∈ Y, s.heap.get? a = none) (hYt : TgtIn cenv Y tgt) (hslot : ∀ a ∈ slots cenv, a ∈ Y ∨ a ∈ slots env) (hLY : cenv.locals ∈ Y)
theorem comp_clos {sc : Kinds} {env : Env} {scope : Scope} {tgt : Expr} (ok : CompOk sc scope tgt) (eo : EnvOk sc env) : closureFor scope env = pure (closL env.cells scope.names []) :=
  closureFor_eq fun x hx => by obtain ⟨c, hc⟩ := eo.cellsOk x (ok.free _ hx rfl); rw [hc]; rfl
theorem comp_env {C : Cx} {sc : Kinds} {ρ : Vars} {O : List Ob} {H as s env} {scope : Scope} {tgt : Expr} (ok : CompOk sc scope tgt) (eo : EnvOk sc env) (M : Mem C A H as O s) (l : Loc H as env ρ s) :
    CompE sc scope tgt env ρ H as s (compEnv' (relabel scope env) (cellsFrom (s.heap.objs.size + 1) scope.names (closL env.cells scope.names [])) s.heap.objs.size env) { s with heap := pushCells (s.heap.push { cls := .type "dict", data := .dict #[] }) scope.names } := by
  have hfree : ∀ x, (x, NameKind.free) ∈ scope.names → ∃ c, env.cells.lookup x = some c := fun x hx => eo.cellsOk x (ok.free _ hx rfl)
  let L := s.heap.objs.size
  let cells := cellsFrom (L + 1) scope.names (closL env.cells scope.names [])
  let cenv := compEnv' (relabel scope env) cells L env
  let s' : Shared := { s with heap := pushCells (s.heap.push { cls := .type "dict", data := .dict #[] }) scope.names }
  have hkeep : ∀ b o, s.heap.get? b = some o → s'.heap.get? b = some o := fun b o e => pushCells_keeps _ _ b o (Heap.get?_push_of_some _ e)
  have hok := cellsFrom_ok scope.names (s.heap.push { cls := .type "dict", data := .dict #[] }) (L + 1) [] ⟨fun _ _ hm => (nomatch hm), List.Pairwise.nil⟩ (by rw [Heap.size_push]; exact Nat.le_refl _)
  rw [Heap.size_push] at hok
  have hcells : cells = cellsFrom (L + 1) scope.names [] ++ closL env.cells scope.names [] := cellsFrom_acc _ _ _
  have hcl : ∀ x c, (x, c) ∈ closL env.cells scope.names [] → (x, NameKind.free) ∈ scope.names ∧ env.cells.lookup x = some c := fun x c h => by
    rcases closL_mem _ _ h with h | ⟨h, e⟩
    · cases h
    · obtain ⟨c', hc'⟩ := hfree x h
      rw [hc'] at e
      exact ⟨h, by rw [hc', e]; rfl⟩
  have hown : ∀ x c, (x, c) ∈ cellsFrom (L + 1) scope.names [] → s'.heap.IsCell c none ∧ L + 1 ≤ c := fun x c h => hok.empty x c h
  have hfreshGe : ∀ a, L ≤ a → s.heap.get? a = none := fun a ha => by
    cases q : s.heap.get? a with
    | none => rfl
    | some o => exact absurd (Heap.lt_size q) (Nat.not_lt.mpr ha)
  have hLns : s'.heap.Ns L fun _ => none := (Heap.Ns.new s.heap (.type "dict")).keeps (pushCells_keeps _ _)
  have hLL : Live s'.heap L := let ⟨o, _, _, e, _⟩ := hLns; ⟨o, e⟩
  have asFresh : ∀ a, L ≤ a → a ∉ as ∧ H a = none := fun a ha => ⟨fun hm => (M.live a hm).not_none (hfreshGe a ha), M.fresh_none (hfreshGe a ha)⟩
  have names2 : cenv.scope.names = relab sc scope.names := by
    show (relabel scope env).names = _
    unfold relabel relab
    refine List.map_congr_left fun p hp => ?_
    obtain ⟨x, k⟩ := p
    show (if (k == NameKind.free && env.scope.kind == ScopeKind.function && env.kindOf x == some NameKind.cell) = true then _ else _) = _
    have : env.kindOf x = sc.lookup x := by unfold Env.kindOf; rw [eo.names]
    rw [this, eo.kind]
    simp
  have lk : ∀ x, cenv.kindOf x = (relab sc scope.names).lookup x := fun x => by unfold Env.kindOf; rw [names2]
  have l' := l.ext (h' := s'.heap) (tk := s.toks) hkeep
  have slotsMem : ∀ a ∈ slots cenv, a = L ∨ (∃ x, (x, a) ∈ cellsFrom (L + 1) scope.names []) ∨ (∃ x, (x, a) ∈ closL env.cells scope.names []) := fun a ha => by
    rcases List.mem_cons.mp ha with h | h
    · exact .inl h
    · obtain ⟨p, hp, rfl⟩ := List.mem_map.mp h
      have hp : p ∈ cells := hp
      rw [hcells] at hp
      rcases List.mem_append.mp hp with hp | hp
      · exact .inr (.inl ⟨p.1, hp⟩)
      · exact .inr (.inr ⟨p.1, hp⟩)
  have clSlot : ∀ x c, (x, c) ∈ closL env.cells scope.names [] → c ∈ slots env := fun x c h => List.mem_cons_of_mem _ (List.mem_map_of_mem (f := (·.2)) (mem_of_lookup (hcl x c h).2))
  have clCell : ∀ x c, (x, c) ∈ closL env.cells scope.names [] → ∃ v, s'.heap.IsCell c v := fun x c h => l'.cell x c (mem_of_lookup (hcl x c h).2)
  have clLt : ∀ x c, (x, c) ∈ closL env.cells scope.names [] → c < L := fun x c h => by
    obtain ⟨_, _, o, e⟩ := l.off c (clSlot x c h)
    exact Heap.lt_size e
  -- where a captured name's cell lies
  have lkFree : ∀ x, (x, NameKind.free) ∈ scope.names → cells.lookup x = env.cells.lookup x := fun x hx => by
    rw [hcells, lookup_append, lookup_none_of (l := cellsFrom (L + 1) scope.names []) fun c hc => by
      have h1 := lookup_nodup ok.nodup (cellsFrom_kind _ _ hc)
      rw [lookup_nodup ok.nodup hx] at h1; cases h1]
    obtain ⟨c, hc⟩ := closL_has (cells := env.cells) scope.names [] hx
    have hnd : ((closL env.cells scope.names []).map (·.1)).Nodup := closL_nodup _ _ (by simpa using ok.nodup)
    rw [lookup_nodup hnd hc, (hcl x c hc).2]; rfl
  have lkOwn : ∀ x, (x, NameKind.cell) ∈ scope.names → ∃ c, cells.lookup x = some c ∧ (x, c) ∈ cellsFrom (L + 1) scope.names [] := fun x hx => by
    obtain ⟨c, hc⟩ := cellsFrom_has scope.names (L + 1) hx
    rw [hcells, lookup_append]
    cases q : (cellsFrom (L + 1) scope.names []).lookup x with
    | some c' => exact ⟨c', rfl, mem_of_lookup q⟩
    | none =>
      exfalso
      have : ∀ {l : List (Str × Addr)}, (x, c) ∈ l → l.lookup x ≠ none := fun {l} h => by
        induction l with
        | nil => cases h
        | cons p r ih =>
          obtain ⟨y, j⟩ := p
          rw [List.lookup_cons]
          rcases List.mem_cons.mp h with e | h
          · cases e; rw [beq_self_eq_true]; simp
          · cases hb : x == y with
            | true => simp
            | false => exact ih h
      exact this hc q
  have hEnv : EnvOk (relab sc scope.names) cenv := ⟨names2, ok.kind, eo.globals, eo.builtins, fun x hx => by
    rw [relab_lookup] at hx
    obtain ⟨k, hk, e⟩ := Option.map_eq_some_iff.mp hx
    have hm := mem_of_lookup hk
    by_cases q : k = .free
    · subst q
      obtain ⟨c, hc⟩ := hfree x hm
      exact ⟨c, by show cells.lookup x = _; rw [lkFree x hm]; exact hc⟩
    · have q' : (k == NameKind.free) = false := by simpa using q
      rw [q', Bool.false_and] at e
      simp at e
      subst e
      obtain ⟨c, hc, _⟩ := lkOwn x hm
      exact ⟨c, hc⟩⟩
  have nameUp : ∀ x, nameOk scope.names x → nameOk (relab sc scope.names) x := fun x h => by
    unfold nameOk
    rw [relab_lookup]
    rcases h with h | h
    · rw [h]; exact .inl rfl
    · rw [h]; exact .inr rfl
  let Y : List Addr := L :: (cellsFrom (L + 1) scope.names []).map (·.2)
  have hY : ∀ a ∈ Y, L ≤ a := fun a ha => by
    rcases List.mem_cons.mp ha with h | h
    · exact Nat.le_of_eq h.symm
    · obtain ⟨p, hp, rfl⟩ := List.mem_map.mp h
      exact Nat.le_of_succ_le (hown p.1 p.2 hp).2
  have slotY : ∀ x, nameOk scope.names x → SlotIn cenv x Y := fun x h => by
    refine ⟨fun _ => List.mem_cons_self .., fun c hk hc => ?_⟩
    rw [lk, relab_lookup] at hk
    rcases h with h | h
    · rw [h] at hk; cases hk
    · obtain ⟨c', hc', hm⟩ := lkOwn x (mem_of_lookup h)
      have : cells.lookup x = some c := hc
      rw [hc'] at this; cases this
      exact List.mem_cons_of_mem _ (List.mem_map_of_mem (f := (·.2)) hm)
  refine ⟨Y, hEnv, ?_, ⟨fun a ha => ?_, ?_, fun x c hc => ?_, ⟨_, hLns, fun x d hx hk => ?_⟩, fun x c hc => ?_, fun x d hx hk => ?_⟩, hkeep, fun a ha => hfreshGe a (hY a ha), ?_, fun a ha => ?_, List.mem_cons_self ..⟩
  · cases ok.tgt with
    | name h => exact .name (nameUp _ h)
    | pair h1 h2 => exact .pair (nameUp _ h1) (nameUp _ h2)
  · rcases slotsMem a ha with rfl | ⟨x, h⟩ | ⟨x, h⟩
    · exact ⟨(asFresh _ (Nat.le_refl _)).1, (asFresh _ (Nat.le_refl _)).2, hLL⟩
    · obtain ⟨⟨o, e, _⟩, hle⟩ := hown x a h
      exact ⟨(asFresh _ (Nat.le_of_succ_le hle)).1, (asFresh _ (Nat.le_of_succ_le hle)).2, o, e⟩
    · exact l'.off a (clSlot x a h)
  · show cells.Pairwise _
    rw [hcells]
    refine List.pairwise_append.mpr ⟨hok.apart, ?_, fun p hp q hq => ?_⟩
    · have hnd : ((closL env.cells scope.names []).map (·.1)).Nodup := closL_nodup _ _ (by simpa using ok.nodup)
      rw [List.nodup_iff_pairwise_ne, List.pairwise_map] at hnd
      refine List.Pairwise.imp_of_mem (fun {p q} hp hq hne => ?_) hnd
      intro e
      exact hne (name_of_addr l.apart (mem_of_lookup (hcl p.1 p.2 hp).2) (e ▸ mem_of_lookup (hcl q.1 q.2 hq).2))
    · have h1 := (hown p.1 p.2 hp).2
      have h2 := clLt q.1 q.2 hq
      exact Nat.ne_of_gt (Nat.lt_trans h2 h1)
  · have hc : (x, c) ∈ cells := hc
    rw [hcells] at hc
    show c ≠ L
    rcases List.mem_append.mp hc with h | h
    · exact Nat.ne_of_gt (hown x c h).2
    · exact Nat.ne_of_lt (clLt x c h)
  · obtain ⟨h1, _⟩ := capt_lookup hx
    rw [lk, relab_lookup, h1] at hk
    have := ok.free _ (mem_of_lookup h1) rfl
    simp [this] at hk
  · have hc : (x, c) ∈ cells := hc
    rw [hcells] at hc
    rcases List.mem_append.mp hc with h | h
    · exact ⟨_, (hown x c h).1⟩
    · exact clCell x c h
  · obtain ⟨h1, h2⟩ := capt_lookup hx
    have hm := mem_of_lookup h1
    have hkc : env.kindOf x = some .cell := by unfold Env.kindOf; rw [eo.names]; exact ok.free _ hm rfl
    obtain ⟨v, c, hv, e, ic⟩ := l'.cells x d h2 hkc
    exact ⟨v, c, hv, (lkFree x hm).trans e, ic⟩
  · cases ok.tgt with
    | name h => exact .name (slotY _ h)
    | pair h1 h2 => exact .pair (slotY _ h1) (slotY _ h2)
  · rcases slotsMem a ha with rfl | ⟨x, h⟩ | ⟨x, h⟩
    · exact .inl (List.mem_cons_self ..)
    · exact .inl (List.mem_cons_of_mem _ (List.mem_map_of_mem (f := (·.2)) h))
    · exact .inr (clSlot x a h)

end Mine
end

section
set_option Elab.async false
set_option maxRecDepth 100000
set_option linter.unusedVariables false
namespace Mine
open PySem PySem.W PyProof.Rows PySem.Calls

noncomputable def TestsP (C : Cx) (n : Nat) (sc : Kinds) (ρ : Vars) (O : List Ob) : List Expr → (Bool → Prop) → Prop
  | [], K => K true
  | [c], K => WPb C n sc ρ O c fun b O' => O' = O ∧ K b
  | _, _ => False

inductive EltP (O O' : List Ob) (d : D) (P : T → Prop) : Prop
  | intro (e : O' = O) (t' : T) (e2 : d = .val t') (h : P t')
inductive CompI (O : List Ob) (d : D) (P : List T → Prop) : Prop
  | intro (ts : List T) (h : itemsD O d = some ts) (l : ts.length ≤ sizeLine) (k : P ts)
noncomputable def CompP (C : Cx) (n : Nat) (sc : Kinds) (tgt : Expr) (ifs : List Expr) (elt : Expr) (ρ : Vars) (O : List Ob) (Φ : D → List Ob → Prop) : List T → List T → Prop
  | [], acc => Φ (.val (.list acc)) O
  | t :: ts, acc => BindP tgt t ρ fun ρ₁ => TestsP C n sc ρ₁ O ifs fun b =>
      if b = true then WPe C n sc ρ₁ O elt fun d O' => EltP O O' d fun t' => CompP C n sc tgt ifs elt ρ O Φ ts (acc ++ [t'])
      else CompP C n sc tgt ifs elt ρ O Φ ts acc

section
variable {C : Cx} {n : Nat} {sc : Kinds} {ρ : Vars} {O : List Ob}

theorem tests_ {A env H as s E ifs K} {Q : Bool → Shared → Prop} (rm : Room n A) (eo : EnvOk sc env) (M : Mem C A H as O s) (l : Loc H as env ρ s) (h : TestsP C n sc ρ O ifs K)
    (hq : ∀ b H' s', K b → Mem C A H' as O s' → Rel [] H as s H' as s' → Q b s') :
    wpC (model C.prog C.w) A (forIn ifs true fun c r => if r = true then do let ok ← isTrue c env (eval c env); pure (ForInStep.yield ok) else pure (ForInStep.yield r)) Q E s := by
  unfold TestsP at h
  split at h
  · rw [List.forIn_nil]
    exact wpC_pure (hq true H s h M Rel.refl)
  · rw [List.forIn_cons]
    simp only [if_true]
    refine wpC_bind (wpC_bind (wpC_mono (h A env H as s E rm eo M l) (fun b s' qq => qq.out fun O' H' as' ⟨hO, hK⟩ M' R' => ?_) fun _ _ x => x))
    refine wpC_pure ?_
    simp only [List.forIn_nil]
    subst hO
    have hlen : as' = as := by
      obtain ⟨more, rfl, _⟩ := R'.ext
      have h1 := M.len
      have h2 := M'.len
      have : more.length = 0 := by rw [List.length_append] at h2; (first | exact Nat.add_left_cancel (k := 0) (h2.trans h1.symm) | lia)
      rw [List.length_eq_zero_iff.mp this, List.append_nil]
    subst hlen
    exact wpC_pure (hq b H' s' hK M' R')
  · exact h.elim

theorem same_as {H as s H' as' s' X} (M : Mem C A H as O s) (M' : Mem C A H' as' O s') (R : Rel X H as s H' as' s') : as' = as := by
  obtain ⟨more, rfl, _⟩ := R.ext
  have h1 := M.len
  have h2 := M'.len
  have : more.length = 0 := by rw [List.length_append] at h2; (first | exact Nat.add_left_cancel (k := 0) (h2.trans h1.symm) | lia)
  rw [List.length_eq_zero_iff.mp this, List.append_nil]

inductive CompS (C : Cx) (A : Around) (n : Nat) (sc : Kinds) (tgt : Expr) (ifs : List Expr) (elt : Expr) (ρ : Vars) (O : List Ob) (Φ : D → List Ob → Prop) (env : Env) (H : PHeap) (as : List Addr) (s : Shared) (as₁ : List Addr) (I Da : Addr) (m : Nat) (s' : Shared) : Prop
  | intro (ts acc : List T) (H' : PHeap) (vs : Array Value) (k : Nat) (e : ts.length = m) (hF : CompP C n sc tgt ifs elt ρ O Φ ts acc) (M : Mem C A H' as₁ O s') (l : Loc H' as₁ env ρ s') (hit : ItAt H' as₁ O s'.heap I ts) (I2 : H' I = none) (D2 : H' Da = none)
      (a : s'.heap.get? Da = some (listO vs k)) (den : DenL H' acc vs.toList) (hsz : acc.length + ts.length ≤ sizeLine) (R : Rel [] H as s H' as₁ s')
inductive CompD (C : Cx) (A : Around) (ρ : Vars) (O : List Ob) (Φ : D → List Ob → Prop) (env : Env) (H : PHeap) (as : List Addr) (s : Shared) (as₁ : List Addr) (Da : Addr) (s' : Shared) : Prop
  | intro (acc' : List T) (H' : PHeap) (vs' : Array Value) (k' : Nat) (h : Φ (.val (.list acc')) O) (M : Mem C A H' as₁ O s') (l : Loc H' as₁ env ρ s') (R : Rel [] H as s H' as₁ s') (a : s'.heap.get? Da = some (listO vs' k')) (den : DenL H' acc' vs'.toList) (D2 : H' Da = none) (D1 : Da ∉ as₁)
theorem Rel.own {Y H as s H' as' s' X} (R : Rel [] H as s H' as' s') (hX : ∀ a ∈ X, s.heap.get? a = none) {H₂ as₂ s₂} (R₂ : Rel X H' as' s' H₂ as₂ s₂) : Rel Y H as s H₂ as₂ s₂ := by
  have q := (R.weaken (Y := X) (by simp)).trans R₂
  exact ⟨q.mono, q.fresh, fun a o e _ ha => q.keep a o e (fun hy => by rw [hX a hy] at e; cases e) ha, q.alive, q.ext⟩
theorem EltP.out {H as s H' as' s' d v K X O'} {P : Prop} (h : EltP O O' d K) (M : Mem C A H as O s) (M' : Mem C A H' as' O' s') (D' : DenD H' as' d v) (R : Rel X H as s H' as' s')
    (k : ∀ t', K t' → Mem C A H' as O s' → Den H' t' v → Rel X H as s H' as s' → P) : P := by
  obtain ⟨rfl, t', rfl, hP⟩ := h
  obtain rfl := same_as M M' R
  exact k t' hP M' D' R
theorem Kept.list {h : Heap} {a : Addr} {vs k} (x : Kept h a (listO vs k)) : h.get? a = some (listO vs k) := x.exact fun _ _ q => by cases q
theorem comp_code {A env H as as₁ s tgt ifs elt iter scope pos I Da Y H₁ s₁ ts acc vs k} {Φ : D → List Ob → Prop} (rm : Room n A) (h0n : 0 < n) (eo : EnvOk sc env) (hk : tgtOk sc tgt) (hF : CompP C n sc tgt ifs elt ρ O Φ ts acc)
    (M : Mem C A H₁ as₁ O s₁) (l : Loc H₁ as₁ env ρ s₁) (hit : ItAt H₁ as₁ O s₁.heap I ts) (hI : s.heap.get? I = none) (hD : s.heap.get? Da = none) (hY : ∀ a ∈ Y, s.heap.get? a = none) (hYt : TgtIn env Y tgt)
    (hne : I ≠ Da) (I1 : I ∉ as₁) (I2 : H₁ I = none) (I3 : I ∉ slots env) (D1 : Da ∉ as₁) (D2 : H₁ Da = none) (D3 : Da ∉ slots env)
    (hacc : s₁.heap.get? Da = some (listO vs k)) (hden : DenL H₁ acc vs.toList) (hsz : acc.length + ts.length ≤ sizeLine)
    (R : Rel [] H as s H₁ as₁ s₁) (hIY : I ∉ Y) (hDY : Da ∉ Y) (hρ : ∀ t ρ₁, BindR tgt t ρ ρ₁ → Sub ρ ρ₁) :
    codeC (model C.prog C.w) A (.compLoop (.ListComp elt [⟨tgt, iter, ifs, 0⟩] scope pos) 0 (.ref I) (.ref Da) env)
      (fun r s' => match r with | .ok f => CompD C A ρ O Φ env H as s as₁ Da s' | .error e => False) s₁ := by
  refine compLoop_ (CompS C A n sc tgt ifs elt ρ O Φ env H as s as₁ I Da) (fun m s' E hq => ?_) ts.length ⟨ts, acc, H₁, vs, k, rfl, hF, M, l, hit, I2, D2, hacc, hden, hsz, R⟩
  clear hF M l hit I2 D2 hacc hden hsz R
  obtain ⟨ts, acc, H', vs, k, em, hF, M, l, hit, I2, D2, hacc, hden, hsz, R⟩ := hq
  cases ts with
  | nil =>
    exact ItAt.end rm h0n M hit fun h' hs => ⟨acc, H', vs, k, hF, M.touch I2 I1 hs hit.nd, l.touch I3 hs, R.touch hI hs, hs Da _ (Ne.symm hne) hacc, hden, D2, D1⟩
  | cons t ts =>
    have em : ts.length < m := em ▸ Nat.lt_succ_self _
    refine ItAt.next rm M I1 I2 hit fun v h' tk hv hit' hs => letOwned_it (C := C) (s := { s' with heap := h', toks := tk }) hk hit' ?_
    have M1 := M.touch (tk := tk) I2 I1 hs.extBut hit.nd
    have l1 := l.touch (tk := tk) I3 hs.extBut
    have R1 := R.touch (tk := tk) hI hs.extBut
    have a1 : ({ s' with heap := h', toks := tk } : Shared).heap.get? Da = some (listO vs k) := hs.extBut Da _ (Ne.symm hne) hacc
    have hit' : ItAt H' as₁ O ({ s' with heap := h', toks := tk } : Shared).heap I ts := hit'
    clear M l R hacc hs hit
    generalize ({ s' with heap := h', toks := tk } : Shared) = s₀ at M1 l1 R1 a1 hit' ⊢
    refine hF.casesOn fun ρ₁ hb hw => assign_ rm h0n eo M1 l1 hv hk hb fun s2 M2 l2 R2 => ?_
    have R2 := R2 _ hYt
    have hit2 : ItAt H' as₁ O s2.heap I ts := hit'.rel (s := s₀) R2 I1 hIY
    have a2 := (R2.keep _ _ a1 hDY D1).list
    refine tests_ rm eo M2 l2 hw fun b H3 s3 hK M3 R3 => ?_
    have l3 := l2.rel R3
    have hit3 := hit2.rel R3 I1 List.not_mem_nil
    have a3 := (R3.keep _ _ a2 List.not_mem_nil D1).list
    have offI := R3.off hit2.live I1 I2
    have offD := R3.off ⟨_, a2⟩ D1 D2
    have RR3 : Rel [] H as s H3 as₁ s3 := (R1.own hY R2).trans R3
    have den3 := DenL.mono R3.mono _ _ hden
    clear R1 R2 R3 M1 l1 a1 M2 l2 a2 hit' hit2 hw hden hv hF
    cases b with
    | false => exact ⟨ts.length, em, ts, acc, H3, vs, k, rfl, hK, M3, l3.sub (hρ _ _ hb), hit3, offI.2, offD.2, a3, den3, by simp at hsz; (exact Nat.le_of_succ_le hsz), RR3⟩
    | true =>
      refine wpC_mono (WPe.run hK rm eo M3 l3) (fun v4 s4 qq => qq.out fun d O' H4 as4 hq M4 D4 R4 => hq.out M3 M4 D4 R4 fun t' hP M4 D4 R4 => ?_) fun _ _ x => x
      have a4 := (R4.keep _ _ a3 List.not_mem_nil D1).list
      have offI4 := R4.off hit3.live I1 offI.2
      have offD4 := R4.off ⟨_, a3⟩ D1 offD.2
      have den4 := DenL.mono R4.mono _ _ den3
      refine wpAny_list_append_plain (items := vs) ⟨k, a4⟩ (fun h5 ⟨k5, g5⟩ hs5 => ⟨ts.length, em, ts, acc ++ [t'], H4, vs.push v4, k5, rfl, hP, M4.touch (tk := s4.toks) offD4.2 D1 hs5.extBut (fun o es n e q => by rw [a4] at e; cases e; cases q),
        (l3.rel R4).touch (tk := s4.toks) D3 hs5.extBut |>.sub (hρ _ _ hb), (hit3.rel R4 I1 List.not_mem_nil).keep (fun o e => hs5.extBut I o hne e), offI4.2, offD4.2, g5, by rw [Array.toList_push]; exact den4.append (.cons D4 .nil), by simp at hsz ⊢; (first | exact z18 hsz | lia), (RR3.trans R4).touch (tk := s4.toks) hD hs5.extBut⟩)
        (by rw [← Array.length_toList, den4.length]; simp at hsz; (first | exact Nat.le_of_add_right_le hsz | lia))

theorem capt_tgt {sc : Kinds} {scope : Scope} {tgt : Expr} (ok : CompOk sc scope tgt) {ρ : Vars} : ∀ t ρ₁, BindR tgt t (capt scope.names ρ) ρ₁ → Sub (capt scope.names ρ) ρ₁ := fun t ρ₁ hb x d hx => by
  obtain ⟨h1, _⟩ := capt_lookup hx
  have hne : ∀ y, nameOk scope.names y → x ≠ y := fun y hy e => by
    subst e
    rcases hy with h | h <;> rw [h1] at h <;> cases h
  have hk := ok.tgt
  cases hb with
  | @name y p =>
    cases hk with | name hk =>
    rw [lookup_cons_ne (hne y hk)]; exact hx
  | @pair a pa b pb k p t1 t2 =>
    cases hk with | pair h1 h2 =>
    rw [lookup_cons_ne (hne b h2), lookup_cons_ne (hne a h1)]; exact hx

theorem itself_ {A H as s E I ts} {Q : Value → Shared → Prop} (M : Mem C A H as O s) (x : ItAt H as O s.heap I ts) (h : Q (.ref I) s) : wpAny (model C.prog C.w) A (pyIter (.ref I)) Q E s := by
  cases x with
  | list a b c => exact wpAny_pyIter_listiter a h
  | own a b c => exact wpAny_pyIter_listiter a h
  | range a => exact wpAny_pyIter_rangeiter a h

theorem put_mono' {H : PHeap} {a : Addr} {o : Obj} (h : H a = none) : ∀ b o', H b = some o' → H.put a o b = some o' := fun b o' e => by
  unfold PHeap.put
  split
  · rename_i q; subst q; rw [h] at e; cases e
  · exact e
theorem Mem.lay {H as s a o} (M : Mem C A H as O s) (h1 : H a = none) (h2 : a ∉ as) (h3 : s.heap.get? a = some o) (hd : ∀ es n, o.data ≠ .dict es n) : Mem C A (H.put a o) as O s := by
  have hm := put_mono' (o := o) h1
  refine ⟨fun b o' e => hm _ _ (M.base b o' e), fun b o' e => ?_, M.len, M.nodup, fun j b ob' hb ho => ?_, M.live, M.os, M.gens, ?_⟩
  rotate_right
  · obtain ⟨l, e, f⟩ := M.stk
    refine ⟨l, e, fun env he => ?_⟩
    obtain ⟨k, L, q1, q2, q3, o', es, n, q4, q5⟩ := f env he
    have hne : L ≠ a := fun q => by subst q; rw [h3] at q4; cases q4; exact hd _ _ q5
    exact ⟨k, L, q1, q2, by unfold PHeap.put; rw [if_neg hne]; exact q3, o', es, n, q4, q5⟩
  · unfold PHeap.put at e
    split at e
    · rename_i q; subst q; cases e; exact h3
    · exact M.sat _ _ e
  · have h := M.obs j b ob' hb ho
    have hne : b ≠ a := fun q => h2 (q ▸ List.mem_of_getElem? hb)
    have hn : H b = none → H.put a o b = none := fun e => by unfold PHeap.put; rw [if_neg hne]; exact e
    cases ob' with
    | gone => trivial
    | list ts => obtain ⟨h0, vs, k, h1, h2⟩ := h; exact ⟨hn h0, vs, k, h1, DenL.mono hm _ _ h2⟩
    | dict ks ts => obtain ⟨h0, es, k, h1, hk, h2⟩ := h; exact ⟨hn h0, es, k, h1, hk, DenL.mono hm _ _ h2⟩
theorem Rel.lay {X H as s H' as' s' a o} (r : Rel X H as s H' as' s') (h1 : H' a = none) (h2 : s.heap.get? a = none) : Rel X H as s (H'.put a o) as' s' :=
  ⟨fun b o' e => put_mono' h1 _ _ (r.mono b o' e), fun b o' e => by
    unfold PHeap.put at e
    split at e
    · rename_i q; subst q; exact .inr (.inl h2)
    · exact r.fresh _ _ e, r.keep, r.alive, r.ext⟩

theorem comp_all {A env H as s E tgt iter ifs elt scope pos use Q} {Φ : D → List Ob → Prop} (ok : CompOk sc scope tgt) (rm : Room n A) (h0n : 0 < n) (eo : EnvOk sc env) (M : Mem C A H as O s) (l : Loc H as env ρ s)
    (h : WPe C n sc ρ O iter fun d O' => CompI O' d fun ts => CompP C n (relab sc scope.names) tgt ifs elt (capt scope.names ρ) O' Φ ts [])
    (hs : ∀ x, foldedSetIterable iter env x = pure x)
    (hQ : ∀ acc O' H' as' s' Da Lc f, Φ (.val (.list acc)) O' → Mem C A H' as' O' s' → Den H' (.list acc) (.ref Da) → Rel [] H as s H' as' s' → (∃ m, s'.heap.Ns Lc m) → s.heap.get? Lc = none → H' Lc = none → Lc ∉ as' → Lc ∉ slots env → Loc H' as' env ρ s' →
      compPost (model C.prog C.w) A E use Q (.ref Da) Lc (.ok f) s') :
    wpC (model C.prog C.w) A (comprehension (.ListComp elt [⟨tgt, iter, ifs, 0⟩] scope pos) scope env iter.pos (newList []) false (eval iter env) use) Q E s := by
  have hnames : ∀ x ∈ scope.names, x.2 = .local → scope.names.lookup x.1 = some .local := fun x hx e => by
    obtain ⟨y, k⟩ := x
    dsimp only at e; subst e
    exact lookup_nodup ok.nodup hx
  refine wpC_comprehension (g := ⟨tgt, iter, ifs, 0⟩) (gs := []) rfl hs (comp_clos ok eo) ok.kind hnames (wpC_mono (h A env H as s E rm eo M l) (fun v s₁ qq => qq.out fun d O₁ H₁ as₁ hq M₁ D₁ R₁ => ?_) fun _ _ x => x)
  obtain ⟨ts, hi, hsz, hF⟩ := hq
  have l₁ := l.rel R₁
  refine iter_ rm M₁ hi D₁ fun I s₂ hI M₂ R₂ hk₂ h1 h2 hl hit _ => ?_
  have l₂ := l₁.rel R₂
  refine wpAny_newObj_type ?_ (by show ([] : List Value).toArray.size ≤ sizeLine; simp)
  have hDn := get?_size s₂.heap
  obtain ⟨M₃, R₃⟩ := M₂.same (s' := { s₂ with heap := s₂.heap.push (listO #[] 0) }) (fun b o e => Heap.get?_push_of_some _ e) rfl rfl
  have R₃ := R₃ []
  have l₃ := l₂.rel R₃
  have hit₃ := hit.rel R₃ h1 (by simp)
  obtain ⟨Y, eo', tok', loc', hkeep, hY, hYt, hslot, hLY⟩ := comp_env ok eo M₃ l₃
  refine newCompEnv (env := env) ?_
  have RR₃ := (R₁.trans R₂).trans R₃
  obtain ⟨M₄, R₄⟩ := M₃.same (s' := { s₂ with heap := pushCells ((s₂.heap.push (listO #[] 0)).push { cls := .type "dict", data := .dict #[] }) scope.names }) hkeep rfl rfl
  have R₄ := R₄ []
  have hsI : s.heap.get? I = none := R₁.back hI
  have hsD : s.heap.get? s₂.heap.objs.size = none := R₁.back (R₂.back hDn)
  have hsY : ∀ a ∈ Y, s.heap.get? a = none := fun a ha => RR₃.back (hY a ha)
  have hID : I ≠ s₂.heap.objs.size := by obtain ⟨o, e⟩ := hl; exact Nat.ne_of_lt (Heap.lt_size e)
  have live3 : ∀ a, Live s₂.heap a → ∀ b ∈ Y, a ≠ b := fun a ⟨o, e⟩ b hb q => by
    subst q
    have := hY a hb
    rw [Heap.get?_push_of_some _ e] at this; cases this
  have D3live : ({ s₂ with heap := s₂.heap.push (listO #[] 0) } : Shared).heap.get? s₂.heap.objs.size = some (listO #[] 0) := Heap.get?_push_size _ rfl
  have hDY : s₂.heap.objs.size ∉ Y := fun hm => by have := hY _ hm; rw [D3live] at this; cases this
  have hIY : I ∉ Y := fun hm => live3 I hl I hm rfl
  have notSlot : ∀ a, a ∉ Y → s.heap.get? a = none → ∀ q : a ∈ slots (compEnv' (relabel scope env) (cellsFrom ((s₂.heap.push (listO #[] 0)).objs.size + 1) scope.names (closL env.cells scope.names [])) (s₂.heap.push (listO #[] 0)).objs.size env), False := fun a hnY hn q => by
    rcases hslot a q with h | h
    · exact hnY h
    · obtain ⟨_, _, o, e⟩ := l.off a h
      rw [hn] at e; cases e
  have D1 : s₂.heap.objs.size ∉ as₁ := fun hm => (M₂.live _ hm).not_none hDn
  have D2 : H₁ s₂.heap.objs.size = none := M₂.fresh_none hDn
  have hLc : s.heap.get? (s₂.heap.push (listO #[] 0)).objs.size = none := RR₃.back (get?_size _)
  have loop := comp_code (C := C) (s := s) (H := H) (as := as) (tgt := tgt) (ifs := ifs) (elt := elt) (iter := iter) (scope := scope) (pos := pos) (I := I) (Da := s₂.heap.objs.size) (Y := Y) (ts := ts) (acc := []) (vs := #[]) (k := 0) (Φ := Φ)
    rm h0n eo' tok' hF M₄ loc' (hit₃.rel R₄ h1 (by simp)) hsI hsD hsY hYt hID h1 h2 (notSlot I hIY hsI) D1 D2 (notSlot _ hDY hsD) (hkeep _ _ D3live) .nil (by simpa using hsz) (RR₃.trans R₄) hIY hDY (capt_tgt ok)
  have done := codeC_mono (R' := fun r s' => compPostC (model C.prog C.w) A E use Q (.ref s₂.heap.objs.size) (s₂.heap.push (listO #[] 0)).objs.size r s') loop fun r s' hr => by
    cases r with
    | error e => exact hr.elim
    | ok f =>
      obtain ⟨acc', H', vs', k', hΦ, M', L', R', g', den', hn', hna'⟩ := hr
      have M'' := M'.lay hn' hna' g' (by intro _ _ q; cases q)
      have R'' := R'.lay (o := listO vs' k') hn' hsD
      have hLoff := L'.off _ (List.mem_cons_self ..)
      have hLne : (s₂.heap.push (listO #[] 0)).objs.size ≠ s₂.heap.objs.size := by rw [Heap.size_push]; exact Nat.ne_of_gt (Nat.lt_succ_self _)
      refine hQ acc' O₁ _ as₁ s' _ _ f hΦ M'' ?_ R'' ⟨_, L'.ns.choose_spec.1⟩ hLc ?_ hLoff.1 (fun hm => ?_) (l.rel R'')
      · unfold Den
        exact ⟨_, vs', k', rfl, PHeap.put_self, DenL.mono (put_mono' hn') _ _ den'⟩
      · unfold PHeap.put
        rw [if_neg hLne]; exact hLoff.2.1
      · obtain ⟨_, _, o, e⟩ := l.off _ hm
        rw [hLc] at e; cases e
  exact codeC_compStart_list done (itself_ M₄ (hit₃.rel R₄ h1 (by simp)) done)

theorem WPe_ListComp {tgt iter ifs elt scope pos} {Φ : D → List Ob → Prop} (ok : CompOk sc scope tgt)
    (h : WPe C n sc ρ O iter fun d O' => CompI O' d fun ts => CompP C n (relab sc scope.names) tgt ifs elt (capt scope.names ρ) O' Φ ts [])
    (hs : ∀ (env : Env) x, foldedSetIterable iter env x = pure x) (h0n : 0 < n) :
    WPe C n sc ρ O (.ListComp elt [⟨tgt, iter, ifs, 0⟩] scope pos) Φ := fun A env H as s E rm eo M l => by
  rw [eval_ListComp]
  refine comp_all (Φ := Φ) ok rm h0n eo M l h (hs env) fun acc O' H' as' s' Da Lc f hΦ M' D' R' ⟨m, hn⟩ hL1 hL2 hL3 hL4 _ => ⟨m, hn, fun h'' hs'' => ?_⟩
  exact ⟨_, O', H', as', hΦ, M'.touchA hL2 hL3 hs''.extBut (M.apart_new hL1), D', R'.touch hL1 hs''.extBut⟩

theorem exec_Assign_used {x : Str} {px : Pos} {value : Expr} {pos : Pos} {env : Env} (hs : swapsWith value (some (.Name x px)) pos.line env = pure true) : exec (.Assign [.Name x px] value pos) env = (do
    standAt pos
    evalThenUse value env (assign (.Name x px) env)
    return .next) := exec_Assign_Name_used _ _ _ _ hs

theorem WPx_AssignComp {x px tgt iter ifs elt scope cpos pos} {Ψ : Out → Prop} (ok : CompOk sc scope tgt) (hx : sc.lookup x = some .local)
    (h : WPe C n sc ρ O iter fun d O' => CompI O' d fun ts => CompP C n (relab sc scope.names) tgt ifs elt (capt scope.names ρ) O' (fun d O'' => Ψ (.next ((x, d) :: ρ) O'')) ts [])
    (hsw : ∀ env : Env, EnvOk sc env → swapsWith (.ListComp elt [⟨tgt, iter, ifs, 0⟩] scope cpos) (some (.Name x px)) pos.line env = pure true)
    (hs : ∀ (env : Env) x, foldedSetIterable iter env x = pure x) (h0n : 0 < n) :
    WPx C n sc ρ O (.Assign [.Name x px] (.ListComp elt [⟨tgt, iter, ifs, 0⟩] scope cpos) pos) Ψ := fun A env H as s E rm eo M l => by
  rw [exec_Assign_used (hsw env eo.toEnvOk)]
  refine wpC_bind (wpC_standAt (wpC_bind ?_))
  unfold evalThenUse
  refine wpC_bind ?_
  refine comp_all (Φ := fun d O'' => Ψ (.next ((x, d) :: ρ) O'')) (Q := fun _ s' => wpC (model C.prog C.w) A (pure ()) (fun _ s'' => wpC (model C.prog C.w) A (pure Flow.next) (AfterS C A env H as s Ψ) E s'') E s')
    ok rm h0n eo.toEnvOk M l h (hs env) fun acc O' H' as' s' Da Lc f hΦ M' D' R' ⟨m, hn⟩ hL1 hL2 hL3 hL4 L' => ?_
  show wpAny _ A (assign (.Name x px) env (.ref Da)) _ E s'
  refine wpAny_assign_Name (store_ (d := .val (.list acc)) eo.toEnvOk M' L' D' (.inl hx) fun s2 M2 L2 R2 => ?_)
  have R2 := R2 _ SlotIn.all
  have hne : Lc ≠ env.locals := fun q => hL4 (q ▸ List.mem_cons_self ..)
  have hLc2 : ∃ m, s2.heap.Ns Lc m := by
    exact ⟨m, Kept.ns hn fun o ho => R2.keep _ _ ho hL4 hL3⟩
  obtain ⟨m2, hn2⟩ := hLc2
  refine ⟨m2, hn2, fun h'' hs'' => ?_⟩
  refine wpC_pure (wpC_pure ⟨H', as', ?_, _, O', hΦ, M2.touchA hL2 hL3 hs''.extBut (M.apart_new hL1), L2.touch hL4 hs''.extBut⟩)
  exact (R'.up.trans R2).touch hL1 hs''.extBut
end
end Mine
end

section
set_option Elab.async false
set_option maxRecDepth 100000
set_option linter.unusedVariables false
namespace Mine
open PySem PySem.W PyProof.Rows PySem.Calls

noncomputable def Con (C : Cx) (n : Nat) (fv : Value) (O : List Ob) (ds : List D) (kws : List (Str × D)) (Φ : D → List Ob → Prop) : Prop :=
  ∀ A H as s vs kvs E, Room n A → Mem C A H as O s → DenDs H as ds vs → kvs.map (·.1) = kws.map (·.1) → DenDs H as (kws.map (·.2)) (kvs.map (·.2)) →
    wpC (model C.prog C.w) A (call fv vs kvs) (After C A [] H as s Φ) E s
noncomputable def ConB (C : Cx) (n : Nat) (fv : Value) (O : List Ob) (ds : List D) (kws : List (Str × D)) (Φ : D → List Ob → Prop) : Prop :=
  ∀ A H as s vs kvs E, Room n A → Mem C A H as O s → DenDs H as ds vs → kvs.map (·.1) = kws.map (·.1) → DenDs H as (kws.map (·.2)) (kvs.map (·.2)) →
    wpAny (model C.prog C.w) A (call fv vs kvs) (After C A [] H as s Φ) E s
theorem ConB.con {C n fv O ds kws Φ} (h : ConB C n fv O ds kws Φ) : Con C n fv O ds kws Φ := fun A H as s vs kvs E a b c d e => .of (h A H as s vs kvs E a b c d e)

section
variable {C : Cx} {n : Nat} {O : List Ob} {fv : Value}

theorem Con.mono {ds kws} {Φ Φ' : D → List Ob → Prop} (h : Con C n fv O ds kws Φ) (hi : ∀ d O', Φ d O' → Φ' d O') : Con C n fv O ds kws Φ' := fun A H as s vs kvs E rm M h1 h2 h3 =>
  wpC_mono (h A H as s vs kvs E rm M h1 h2 h3) (fun v s' qq => qq.out fun d O' H' as' h M D R => ⟨d, O', H', as', hi _ _ h, M, D, R⟩) fun _ _ x => x
theorem Con.le {m ds kws} {Φ : D → List Ob → Prop} (h : Con C m fv O ds kws Φ) (hm : m ≤ n) : Con C n fv O ds kws Φ := fun A H as s vs kvs E rm M h1 h2 h3 => h A H as s vs kvs E (rm.le hm) M h1 h2 h3

inductive RetD (O O' : List Ob) (d : D) (P : T → Prop) : Prop
  | intro (t : T) (e : d = .val t) (h : P t) (e2 : O' = O)
theorem Con.ret {ds kws O₁} {P : T → Prop} {Φ : D → List Ob → Prop} (h : Con C n fv O ds kws fun d O' => RetD O₁ O' d P) (k : ∀ t, P t → Φ (.val t) O₁) : Con C n fv O ds kws Φ :=
  h.mono fun d O' ⟨t, e, h, e2⟩ => by rw [e, e2]; exact k t h
theorem Con.retE {ds kws O₁ t₀} {Φ : D → List Ob → Prop} (h : Con C n fv O ds kws fun d O' => RetD O₁ O' d fun t => t = t₀) (k : Φ (.val t₀) O₁) : Con C n fv O ds kws Φ := h.ret fun t e => by rw [e]; exact k
theorem Con.eqE {ds kws O₁ d₁} {Φ : D → List Ob → Prop} (h : Con C n fv O ds kws fun d O' => d = d₁ ∧ O' = O₁) (k : Φ d₁ O₁) : Con C n fv O ds kws Φ := h.mono fun d O' q => by rw [q.1, q.2]; exact k
theorem lek {a b n : Nat} (h : Nat.ble a b = true) : a ≤ n + b := Nat.le_trans (Nat.le_of_ble_eq_true h) (Nat.le_add_left b n)
theorem Mem.part0 {H as s} (M : Mem C A H as O s) : Mem C A H [] [] s := ⟨M.base, M.sat, rfl, List.nodup_nil, fun i a ob h => by simp at h, fun a h => by simp at h, M.os, M.gens, M.stk.turn (fun _ _ _ => by simp) (fun _ _ h _ => h) (fun _ _ _ e => .inl e)⟩
theorem Mem.part1 {H as s a ob} {i : Nat} (M : Mem C A H as O s) (ha : as[i]? = some a) (ho : O[i]? = some ob) : Mem C A H [a] [ob] s :=
  ⟨M.base, M.sat, rfl, by simp, fun j b ob' hb hob => by
    cases j with
    | zero => simp at hb hob; subst hb; subst hob; exact M.obs i _ _ ha ho
    | succ j => simp at hb, fun b hb => by
    have : b = a := by simpa using hb
    subst this; exact M.live _ (List.mem_of_getElem? ha), M.os, M.gens, M.stk.turn (fun L h _ => by
      intro hm
      have : L = a := by simpa using hm
      subst this; exact h (List.mem_of_getElem? ha)) (fun _ _ h _ => h) (fun _ _ _ e => .inl e)⟩
theorem Mem.stk2 {C A H as O s H' as' O' s' more} (M : Mem C A H as O s) (M' : Mem C A H' (as' ++ more) O' s') : Stk A H' (as ++ more) s'.heap := by
  obtain ⟨l, e, f⟩ := M.stk
  obtain ⟨l', e', f'⟩ := M'.stk
  rw [e] at e'; cases e'
  refine ⟨l, e, fun env he => ?_⟩
  obtain ⟨k, L, h1, h2, _⟩ := f env he
  obtain ⟨_, L', h1', h2', h3', r⟩ := f' env he
  rw [h1] at h1'; cases h1'
  exact ⟨k, L, h1, fun hm => by
    rcases List.mem_append.mp hm with h | h
    · exact h2 h
    · exact h2' (List.mem_append_right _ h), h3', r⟩
noncomputable def noDict : Ob → Prop
  | .dict _ _ => False
  | _ => True
noncomputable def noDicts : List Ob → Prop
  | [] => True
  | ob :: r => noDict ob ∧ noDicts r
theorem noDicts.get : ∀ {O : List Ob}, noDicts O → ∀ {i : Nat} {ob : Ob}, O[i]? = some ob → noDict ob
  | [], _, _, _, e => by simp at e
  | _ :: _, h, 0, _, e => by simp at e; subst e; exact h.1
  | _ :: _, h, i + 1, _, e => noDicts.get h.2 (i := i) (by simpa using e)

theorem ObAt.keep {H H' : PHeap} {h h' : Heap} {a : Addr} {ob : Ob} (x : ObAt H h a ob) (nd : noDict ob) (hm : ∀ b o, H b = some o → H' b = some o) (hn : H a = none → H' a = none) (hk : ∀ o, h.get? a = some o → Kept h' a o) : ObAt H' h' a ob := by
  cases ob with
  | gone => trivial
  | list ts => obtain ⟨h0, vs, k, h1, h2⟩ := x; exact ⟨hn h0, vs, k, (hk _ h1).exact (fun _ _ q => by cases q), DenL.mono hm _ _ h2⟩
  | dict ks ts => exact nd.elim

noncomputable def up0 (k : Nat) : D → D
  | .val t => .val t
  | .ref j => .ref (k + j)
theorem DenD.up0 {H} {as more : List Addr} {d : D} {v : Value} (h : DenD H more d v) : DenD H (as ++ more) (up0 as.length d) v := by
  cases d with
  | val t => exact h
  | ref j => obtain ⟨a, ha, rfl⟩ := h; exact ⟨a, by rw [List.getElem?_append_right (Nat.le_add_right ..), Nat.add_sub_cancel_left]; exact ha, rfl⟩
theorem DenDs.vals0 {H as as'} : ∀ {ds : List D} {vs : List Value}, (∀ d ∈ ds, ∃ t, d = .val t) → DenDs H as ds vs → DenDs H as' ds vs
  | [], [], _, _ => trivial
  | d :: ds, v :: vs, hv, ⟨h, t⟩ => by
    obtain ⟨t', rfl⟩ := hv d (List.mem_cons_self ..)
    exact ⟨h, DenDs.vals0 (fun d hd => hv d (List.mem_cons_of_mem _ hd)) t⟩
  | [], _ :: _, _, h => h.elim
  | _ :: _, [], _, h => h.elim

theorem Con.frame0 {ds kws} {Φ : D → List Ob → Prop} (nd : noDicts O) (hv : ∀ d ∈ ds, ∃ t, d = .val t) (hkv : ∀ d ∈ kws.map (·.2), ∃ t, d = .val t)
    (h : Con C n fv [] ds kws fun d O' => Φ (up0 O.length d) (O ++ O')) : Con C n fv O ds kws Φ := fun A H as s vs kvs E rm M h1 h2 h3 => by
  refine wpC_mono (h A H [] s vs kvs E rm M.part0 (h1.vals0 hv) h2 (h3.vals0 hkv)) (fun v s' qq => qq.out fun d O' H' more q M' D' R' => ?_) fun _ _ x => x
  obtain ⟨more', e, hf⟩ := R'.ext
  simp only [List.nil_append] at e; subst e
  have keepAs : ∀ a ∈ as, ∀ o, s.heap.get? a = some o → Kept s'.heap a o := fun a ha o e => R'.keep a o e (by simp) (by simp)
  have offAs : ∀ a ∈ as, H a = none → H' a = none := fun a ha e => (R'.off (M.live a ha) (by simp) e).2
  refine ⟨_, _, H', as ++ more, q, ⟨M'.base, M'.sat, by simp [M.len, M'.len], ?_, fun i a ob ha ho => ?_, fun a ha => ?_, M'.os, M'.gens, M.stk2 (as' := []) M'⟩, by rw [← M.len]; exact D'.up0, ⟨R'.mono, fun a o e => (R'.fresh a o e).imp id fun e => .inl (e.elim id fun h => by simp at h), fun a o e _ ha => R'.keep a o e (by simp) (by simp), R'.alive, more, rfl, hf⟩⟩
  · refine List.nodup_append.mpr ⟨M.nodup, M'.nodup, fun x hx y hy e => ?_⟩
    subst e
    exact (M.live x hx).not_none (hf x hy)
  · by_cases hi : i < as.length
    · rw [List.getElem?_append_left hi] at ha
      rw [List.getElem?_append_left (by rw [← M.len]; exact hi)] at ho
      have hm := List.mem_of_getElem? ha
      exact (M.obs i a ob ha ho).keep (nd.get ho) R'.mono (offAs a hm) (keepAs a hm)
    · have hi := Nat.le_of_not_lt hi
      rw [List.getElem?_append_right hi] at ha
      rw [List.getElem?_append_right (by rw [← M.len]; exact hi), ← M.len] at ho
      exact M'.obs _ a ob ha ho
  · rcases List.mem_append.mp ha with ha | ha
    · obtain ⟨o, e⟩ := M.live a ha; exact (keepAs a ha o e).live
    · exact M'.live a ha

noncomputable def up1 (k i : Nat) : D → D
  | .val t => .val t
  | .ref 0 => .ref i
  | .ref (j + 1) => .ref (k + j)
theorem DenDs.down1 {H : PHeap} {as : List Addr} {a : Addr} {i : Nat} (hi : as[i]? = some a) : ∀ {ds : List D} {vs : List Value}, (∀ d ∈ ds, (∃ t, d = .val t) ∨ d = .ref 0) → DenDs H as (ds.map (up1 0 i)) vs → DenDs H [a] ds vs
  | [], [], _, _ => trivial
  | d :: ds, v :: vs, hv, ⟨h, t⟩ => by
    refine ⟨?_, DenDs.down1 hi (fun d hd => hv d (List.mem_cons_of_mem _ hd)) t⟩
    rcases hv d (List.mem_cons_self ..) with ⟨t', rfl⟩ | rfl
    · exact h
    · obtain ⟨b, hb, rfl⟩ := h
      rw [hi] at hb; cases hb
      exact ⟨a, rfl, rfl⟩
  | [], _ :: _, _, h => h.elim
  | _ :: _, [], _, h => h.elim

theorem Con.frame1 {ds kws ob} {i : Nat} {Φ : D → List Ob → Prop} (nd : noDicts O) (ho : O[i]? = some ob) (hv : ∀ d ∈ ds, (∃ t, d = .val t) ∨ d = .ref 0) (hkv : ∀ d ∈ kws.map (·.2), ∃ t, d = .val t)
    (h : Con C n fv [ob] ds kws fun d O' => ∃ ob' rest, O' = ob' :: rest ∧ Φ (up1 O.length i d) (O.set i ob' ++ rest)) : Con C n fv O (ds.map (up1 0 i)) kws Φ := fun A H as s vs kvs E rm M h1 h2 h3 => by
  have hlt : i < as.length := by rw [M.len]; exact (List.getElem?_eq_some_iff.mp ho).1
  obtain ⟨a, ha⟩ : ∃ a, as[i]? = some a := ⟨as[i], List.getElem?_eq_getElem hlt⟩
  refine wpC_mono (h A H [a] s vs kvs E rm (M.part1 ha ho) (h1.down1 ha hv) h2 (h3.vals0 hkv)) (fun v s' qq => qq.out fun d O' H' as' ⟨ob', rest, hO', q⟩ M' D' R' => ?_) fun _ _ x => x
  obtain ⟨more, e, hf⟩ := R'.ext
  subst e; subst hO'
  have ham := List.mem_of_getElem? ha
  have neA : ∀ j b, j ≠ i → as[j]? = some b → b ≠ a := fun j b hj hb q => by
    subst q
    exact hj ((List.getElem?_inj (List.getElem?_eq_some_iff.mp hb).1 M.nodup).mp (hb.trans ha.symm))
  have hlen : rest.length = more.length := by
    have := M'.len
    simp at this; (exact this.symm)
  have alive : ∀ b ∈ as, Live s'.heap b := fun b hb => R'.alive b (M.live b hb)
  refine ⟨_, _, H', as ++ more, q, ⟨M'.base, M'.sat, by simp [M.len, hlen], ?_, fun j b ob₂ hb ho₂ => ?_, fun b hb => ?_, M'.os, M'.gens, M.stk2 (as' := [a]) M'⟩, ?_, ⟨R'.mono, fun b o e => (R'.fresh b o e).imp id fun e => e.imp id fun h => by
      have : b = a := by simpa using h
      subst this; exact ham, fun b o e _ hb => R'.keep b o e (by simp) (fun h => hb (by
      have : b = a := by simpa using h
      subst this; exact ham)), R'.alive, more, rfl, hf⟩⟩
  · refine List.nodup_append.mpr ⟨M.nodup, (List.nodup_append.mp M'.nodup).2.1, fun x hx y hy e => ?_⟩
    subst e
    exact (M.live x hx).not_none (hf x hy)
  · by_cases hj : j < as.length
    · rw [List.getElem?_append_left hj] at hb
      rw [List.getElem?_append_left (by simp [← M.len]; exact hj)] at ho₂
      by_cases q : j = i
      · subst q
        rw [ha] at hb; cases hb
        rw [List.getElem?_set_self (by rw [← M.len]; exact hj)] at ho₂
        cases ho₂
        exact M'.obs 0 _ _ (by simp) (by simp)
      · rw [List.getElem?_set_ne (by (first | exact fun ze => q ze.symm | lia))] at ho₂
        have hbn := neA j b q hb
        have hbm := List.mem_of_getElem? hb
        have hoff : b ∉ [a] := by simpa using hbn
        refine (M.obs j b ob₂ hb ho₂).keep (nd.get ho₂) R'.mono (fun e => (R'.off (M.live b hbm) hoff e).2) fun o e => R'.keep b o e (by simp) hoff
    · have hj := Nat.le_of_not_lt hj
      rw [List.getElem?_append_right hj] at hb
      rw [List.getElem?_append_right (by simp [← M.len]; exact hj)] at ho₂
      simp only [List.length_set, ← M.len] at ho₂
      have hb' : ([a] ++ more)[j - as.length + 1]? = some b := by simpa using hb
      have ho' : (ob' :: rest)[j - as.length + 1]? = some ob₂ := by simpa using ho₂
      exact M'.obs _ b ob₂ hb' ho'
  · rcases List.mem_append.mp hb with hb | hb
    · exact alive b hb
    · exact M'.live b (List.mem_append_right _ hb)
  · cases d with
    | val t => exact D'
    | ref j =>
      obtain ⟨b, hb, rfl⟩ := D'
      cases j with
      | zero =>
        simp at hb; subst hb
        exact ⟨_, by rw [List.getElem?_append_left hlt]; exact ha, rfl⟩
      | succ j =>
        refine ⟨b, ?_, rfl⟩
        rw [← M.len, List.getElem?_append_right (Nat.le_add_right ..), Nat.add_sub_cancel_left]
        simpa using hb

noncomputable def BindsDen (H : PHeap) (as : List Addr) (binds : List (Str × Value)) (ρ : Vars) : Prop := binds.map (·.1) = ρ.map (·.1) ∧ DenDs H as (ρ.map (·.2)) (binds.map (·.2))

theorem BindsDen.lookup {H as} : ∀ {binds : List (Str × Value)} {ρ : Vars} {x : Str} {d : D}, BindsDen H as binds ρ → ρ.lookup x = some d → ∃ v, binds.lookup x = some v ∧ DenD H as d v
  | [], [], x, d, _, h => by simp at h
  | (y, v) :: bs, (z, d₀) :: ρ, x, d, ⟨h1, h2⟩, h => by
    simp only [List.map_cons, List.cons.injEq] at h1
    obtain ⟨rfl, h1⟩ := h1
    rw [List.lookup_cons] at h ⊢
    cases hb : x == y with
    | true => rw [hb] at h; cases h; exact ⟨v, rfl, h2.1⟩
    | false => rw [hb] at h; exact BindsDen.lookup ⟨h1, h2.2⟩ h
  | [], _ :: _, _, _, ⟨h1, _⟩, _ => by simp at h1
  | _ :: _, [], _, _, ⟨h1, _⟩, _ => by simp at h1

theorem bindL_get {k : Str → Option NameKind} : ∀ {binds : List (Str × Value)} {m : Str → Option Value} {x : Str} {v : Value}, (binds.map (·.1)).Nodup → k x = some .local → (binds.lookup x = some v ∨ (binds.lookup x = none ∧ m x = some v)) → bindL k binds m x = some v
  | [], m, x, v, _, _, h => by
    rcases h with h | ⟨_, h⟩
    · simp at h
    · exact h
  | (y, u) :: r, m, x, v, hn, hk, h => by
    rw [List.map_cons, List.nodup_cons] at hn
    unfold bindL
    refine bindL_get hn.2 hk ?_
    rw [List.lookup_cons] at h
    cases hb : x == y with
    | true =>
      have e := beq_iff_eq.mp hb
      subst e
      rw [hb] at h
      refine .inr ⟨lookup_none_of fun c hc => hn.1 (List.mem_map_of_mem (f := (·.1)) hc), ?_⟩
      rcases h with h | ⟨h, _⟩
      · cases h; simp [hk]
      · cases h
    | false =>
      rw [hb] at h
      have e : x ≠ y := fun q => by subst q; simp at hb
      rcases h with h | ⟨h1, h2⟩
      · exact .inl h
      · refine .inr ⟨h1, ?_⟩
        split
        · simp [e, h2]
        · exact h2
theorem bindC_get {k : Str → Option NameKind} : ∀ {binds : List (Str × Value)} {m : Str → Option Value} {x : Str} {v : Value}, (binds.map (·.1)).Nodup → k x = some .cell → (binds.lookup x = some v ∨ (binds.lookup x = none ∧ m x = some v)) → bindC k binds m x = some v
  | [], m, x, v, _, _, h => by
    rcases h with h | ⟨_, h⟩
    · simp at h
    · exact h
  | (y, u) :: r, m, x, v, hn, hk, h => by
    rw [List.map_cons, List.nodup_cons] at hn
    unfold bindC
    refine bindC_get hn.2 hk ?_
    rw [List.lookup_cons] at h
    cases hb : x == y with
    | true =>
      have e := beq_iff_eq.mp hb
      subst e
      rw [hb] at h
      refine .inr ⟨lookup_none_of fun c hc => hn.1 (List.mem_map_of_mem (f := (·.1)) hc), ?_⟩
      rcases h with h | ⟨h, _⟩
      · cases h; simp [hk]
      · cases h
    | false =>
      rw [hb] at h
      have e : x ≠ y := fun q => by subst q; simp at hb
      rcases h with h | ⟨h1, h2⟩
      · exact .inl h
      · refine .inr ⟨h1, ?_⟩
        split
        · exact h2
        · simp [e, h2]

structure FnOk (C : Cx) (a : Addr) (fd : FuncData) (body : List Stmt) : Prop where
  here : ∃ o, C.B.get? a = some o ∧ o.data = .func fd
  code : C.B.CodeRec fd.code fd.qualname
  body : fd.body = .stmts body
  clo : fd.closure = []
  glob : fd.globals = mainGlobals
  bi : fd.builtins = builtinsNs
  kind : fd.scope.kind = .function
  co : fd.scope.isCoroutine = false
  gen : fd.scope.isGenerator = false
  nodup : (fd.scope.names.map (·.1)).Nodup

theorem cellsFrom_nodup : ∀ (names : Kinds) (k : Nat) (acc : List (Str × Addr)), (acc.map (·.1) ++ names.map (·.1)).Nodup → ((cellsFrom k names acc).map (·.1)).Nodup
  | [], _, _, h => by unfold cellsFrom; simpa using h
  | (y, kd) :: r, k, acc, h => by
    unfold cellsFrom
    split
    · refine cellsFrom_nodup r _ _ ?_
      rw [List.map_cons]
      exact List.Perm.nodup (List.perm_middle (l₁ := acc.map (·.1)) (a := y) (l₂ := r.map (·.1))) h
    · refine cellsFrom_nodup r _ _ (List.Nodup.sublist ?_ h)
      rw [List.map_cons]
      exact List.Sublist.append_left (List.sublist_cons_self ..) _
theorem Con_def {a fd body ds kws} {ρ₀ : Vars} {Φ : D → List Ob → Prop} (F : FnOk C a fd body)
    (hbind : ∀ A H as s vs kvs, Mem C A H as O s → DenDs H as ds vs → kvs.map (·.1) = kws.map (·.1) → DenDs H as (kws.map (·.2)) (kvs.map (·.2)) → ∃ binds, BindsTo s fd ⟨vs, kvs⟩ binds ∧ BindsDen H as binds ρ₀)
    (hn : (ρ₀.map (·.1)).Nodup) (hk : ∀ x ∈ ρ₀.map (·.1), nameOk fd.scope.names x)
    (h : WPs C n fd.scope.names ρ₀ O body fun o => match o with
      | .next _ O' => Φ (.val .none) O'
      | .ret d O' => Φ d O'
      | _ => False) : Con C (n + 1) (.ref a) O ds kws Φ := fun A H as s vs kvs E rm M h1 h2 h3 => by
  obtain ⟨binds, hbt, hbd⟩ := hbind A H as s vs kvs M h1 h2 h3
  obtain ⟨o, ho, hdata⟩ := F.here
  have hbnames := hbd.1
  refine wpC_call (codeC_call_function (by have := rm.depth; show A.depth < 1000; (first | exact zLt (Nat.le_of_add_right_le this) rfl | lia)) (M.keepB _ _ ho) hdata F.co F.gen F.body (F.code.keeps M.keepB) (hbt _ _ _ _ ?_))
  rw [F.clo]
  have hkb : ∀ x ∈ binds, fd.scope.names.lookup x.1 = some .local ∨ (fd.scope.names.lookup x.1 = some .cell ∧ ((cellsFrom (s.heap.objs.size + 1) fd.scope.names []).lookup x.1).isSome = true) := fun x hx => by
    have hm : x.1 ∈ ρ₀.map (·.1) := by rw [← hbnames]; exact List.mem_map_of_mem (f := (·.1)) hx
    rcases hk x.1 hm with h | h
    · exact .inl h
    · refine .inr ⟨h, ?_⟩
      obtain ⟨c, hc⟩ := cellsFrom_has fd.scope.names (s.heap.objs.size + 1) (mem_of_lookup h)
      have hnd : ((cellsFrom (s.heap.objs.size + 1) fd.scope.names []).map (·.1)).Nodup := by
        exact cellsFrom_nodup _ _ _ (by simpa using F.nodup)
      rw [lookup_nodup hnd hc]; rfl
  refine wpAny_newFunctionEnv_cells F.kind hkb fun env he s₁ x => ?_
  have hkeep : ∀ b o, s.heap.get? b = some o → s₁.heap.get? b = some o := x.toInCall.keep
  obtain ⟨h', tk, hs₁, _⟩ := x.toInCall.done
  have hlim : s₁.heap.NoLimit := C.nolimit.keeps fun b o e => hkeep _ _ (M.keepB b o e)
  have hnames : env.scope.names = fd.scope.names := by rw [he]; rfl
  have hkind : ∀ y, env.kindOf y = fd.scope.names.lookup y := fun y => by unfold Env.kindOf; rw [hnames]
  have hcells : env.cells = cellsFrom (s.heap.objs.size + 1) fd.scope.names [] := by rw [he]; rfl
  have hloc : env.locals = s.heap.objs.size := by rw [he]; rfl
  have hfreshGe : ∀ b, s.heap.objs.size ≤ b → s.heap.get? b = none := fun b hb => by
    cases q : s.heap.get? b with
    | none => rfl
    | some o => exact absurd (Heap.lt_size q) (Nat.not_lt.mpr hb)
  have M₁ : Mem C A H as O s₁ ∧ ∀ X, Rel X H as s H as s₁ := by
    subst hs₁
    exact M.same hkeep rfl rfl
  obtain ⟨M₁, R₁⟩ := M₁
  have slotsGe : ∀ b ∈ slots env, s.heap.objs.size ≤ b := fun b hb => by
    rcases List.mem_cons.mp hb with e | hb
    · rw [e, hloc]; exact Nat.le_refl _
    · obtain ⟨p, hp, rfl⟩ := List.mem_map.mp hb
      have := x.above p.1 p.2 hp
      rw [hloc] at this; exact Nat.le_of_lt this
  have hcellsNodup : (env.cells.map (·.1)).Nodup := by
    rw [hcells]
    exact cellsFrom_nodup _ _ _ (by simpa using F.nodup)
  have cellAt : ∀ y c, (y, c) ∈ env.cells → ∃ v, s₁.heap.IsCell c v := fun y c hc => ⟨_, x.cell y c (lookup_nodup hcellsNodup hc)⟩
  have eo : EnvOk fd.scope.names env := ⟨hnames, by rw [he]; exact F.kind, by rw [he]; exact F.glob, by rw [he]; exact F.bi, fun y hy => by
    obtain ⟨c, hc⟩ := cellsFrom_has fd.scope.names (s.heap.objs.size + 1) (mem_of_lookup hy)
    exact ⟨c, by rw [hcells] at hcellsNodup ⊢; exact lookup_nodup hcellsNodup hc⟩⟩
  have hbn : (binds.map (·.1)).Nodup := by rw [hbnames]; exact hn
  have l₁ : Loc H as env ρ₀ s₁ := by
    refine ⟨fun b hb => ?_, x.apart, fun y c hc => Nat.ne_of_gt (x.above y c hc), ⟨_, x.toInCall.ns, fun y d hy hky => ?_⟩, cellAt, fun y d hy hky => ?_⟩
    · have hf := hfreshGe b (slotsGe b hb)
      refine ⟨fun hm => (M.live b hm).not_none hf, M.fresh_none hf, ?_⟩
      rcases List.mem_cons.mp hb with e | hb
      · rw [e]; obtain ⟨o, _, _, e, _⟩ := x.toInCall.ns; exact ⟨o, e⟩
      · obtain ⟨p, hp, rfl⟩ := List.mem_map.mp hb
        obtain ⟨v, o, e, _⟩ := cellAt p.1 p.2 hp
        exact ⟨o, e⟩
    · obtain ⟨v, hv, hd⟩ := hbd.lookup hy
      exact ⟨v, hd, bindL_get hbn hky (.inl hv)⟩
    · obtain ⟨v, hv, hd⟩ := hbd.lookup hy
      obtain ⟨c, hc⟩ := eo.cellsOk y (by rw [← hkind]; exact hky)
      refine ⟨v, c, hd, hc, ?_⟩
      have := x.cell y c hc
      rw [bindC_get hbn hky (.inl hv)] at this
      exact this
  refine ⟨hlim, codeC_func ?_⟩
  have rm' : Room n (A.deeper env) := ⟨fun h' => rm.handled (Nat.succ_pos _), by have := rm.depth; show A.depth + 1 + n ≤ 900; (first | exact z18 this | lia), by have := rm.units; show A.units + 3 + 60 * n ≤ 9000; (first | exact zEq (Nat.add_right_comm _ 3 _) (Nat.le_trans (Nat.add_le_add_left (Nat.le_of_ble_eq_true rfl) _) (zEq (Nat.add_assoc _ _ 60) this)) | lia)⟩
  have hap : Apart A s.heap.objs.size := M.apart_new (get?_size _)
  have M₁' : Mem C (A.deeper env) H as O s₁ := by
    refine ⟨M₁.base, M₁.sat, M₁.len, M₁.nodup, M₁.obs, M₁.live, M₁.os, M₁.gens, ?_⟩
    obtain ⟨l, e, f⟩ := M₁.stk
    refine ⟨env :: l, Around.frames_deeper e, fun env' he' => ?_⟩
    rcases List.mem_cons.mp he' with q | he'
    · rw [q]
      obtain ⟨q1, q2, _⟩ := l₁.off env.locals (List.mem_cons_self ..)
      obtain ⟨o, es, n, q3, q4, _⟩ := x.toInCall.ns
      exact ⟨by rw [eo.kind]; exact (by decide), env.locals, by rw [he]; rfl, q1, q2, o, es, n, q3, q4⟩
    · exact f env' he'
  have back : ∀ {H' as' O' s'}, Mem C (A.deeper env) H' as' O' s' → Mem C A H' as' O' s' := fun M' => by
    refine ⟨M'.base, M'.sat, M'.len, M'.nodup, M'.obs, M'.live, M'.os, M'.gens, ?_⟩
    obtain ⟨l, e, f⟩ := M₁.stk
    obtain ⟨l', e', f'⟩ := M'.stk
    rw [Around.frames_deeper e] at e'
    cases e'
    exact ⟨l, e, fun env' he' => f' env' (List.mem_cons_of_mem _ he')⟩
  refine wpC_mono (h (A.deeper env) env H as s₁ _ rm' ⟨eo, let ⟨l, e, _⟩ := M₁.stk; ⟨l, Around.frames_deeper e⟩⟩ M₁' l₁) (fun f s' qq => qq.out fun H' as' R' hf => ?_) fun _ _ x => x
  have RR : Rel [] H as s H' as' s' := by
    have q := (R₁ (slots env)).trans R'
    exact ⟨q.mono, q.fresh, fun b o e _ hb => q.keep b o e (fun hs => by rw [hfreshGe b (slotsGe b hs)] at e; cases e) hb, q.alive, q.ext⟩
  cases f with
  | next => exact hf.casesOn fun ρ' O' hΦ M' _ => ⟨_, O', H', as', hΦ, back M', by unfold DenD Den; rfl, RR⟩
  | ret v => exact hf.casesOn fun d O' hΦ M' D' => ⟨d, O', H', as', hΦ, back M', D', RR⟩
  | brk => exact hf.casesOn fun ρ' O' hΦ _ _ => hΦ.elim
  | cont => exact hf.casesOn fun ρ' O' hΦ _ _ => hΦ.elim
end

end Mine
end

section
set_option Elab.async false
set_option maxRecDepth 100000
set_option linter.unusedVariables false
namespace Mine
open PySem PySem.W PyProof.Rows PySem.Calls

noncomputable def WPk (C : Cx) (n : Nat) (sc : Kinds) (ρ : Vars) (O : List Ob) (kws : List Keyword) (Φ : List D → List Ob → Prop) : Prop :=
  ∀ A env H as s E pos, Room n A → EnvOk sc env → Mem C A H as O s → Loc H as env ρ s → wpC (model C.prog C.w) A (evalAll ((backToKw pos (keywordEach kws env)).map (·.2))) (AfterL C A H as s Φ) E s

section
variable {C : Cx} {n : Nat} {sc : Kinds} {ρ : Vars} {O : List Ob}

theorem WPk_nil {Φ : List D → List Ob → Prop} (h : Φ [] O) : WPk C n sc ρ O [] Φ := fun A env H as s E pos rm eo M l =>
  wpC_evalAll_nil ⟨[], O, H, as, h, M, trivial, Rel.refl⟩
theorem WPk_cons {x e p kws} {Φ : List D → List Ob → Prop} (h : WPe C n sc ρ O e fun d O' => WPk C n sc ρ O' kws fun ds O'' => Φ (d :: ds) O'') : WPk C n sc ρ O (⟨x, e, p⟩ :: kws) Φ := fun A env H as s E pos rm eo M l => by
  show wpC _ _ (evalAll ((do let v ← eval e env; standAt pos; pure v) :: (backToKw pos (keywordEach kws env)).map (·.2))) _ _ _
  refine wpC_evalAll_cons (wpC_bind (wpC_mono (h A env H as s E rm eo M l) (fun v s₁ qq => qq.out fun d O₁ H₁ as₁ h₁ M₁ D₁ R₁ => ?_) fun _ _ x => x))
  refine wpC_bind (wpC_standAt (wpC_pure ?_))
  refine wpC_mono (h₁ A env H₁ as₁ s₁ E pos rm eo M₁ (l.rel R₁)) (fun vs s₂ qq => qq.out fun ds O₂ H₂ as₂ h₂ M₂ D₂ R₂ => ?_) fun _ _ x => x
  exact ⟨d :: ds, O₂, H₂, as₂, h₂, M₂, ⟨D₁.rel R₂, D₂⟩, R₁.trans R₂⟩

noncomputable def kwNames (kws : List Keyword) : List Str := kws.filterMap fun k => k.arg

theorem backToKw_names (pos : Pos) (env : Env) : ∀ (kws : List Keyword), (backToKw pos (keywordEach kws env)).filterMap (·.1) = kwNames kws
  | [] => rfl
  | ⟨x, e, p⟩ :: r => by
    have ih := backToKw_names pos env r
    unfold kwNames at ih ⊢
    show ((x, _) :: backToKw pos (keywordEach r env)).filterMap (·.1) = _
    cases x with
    | none => simpa using ih
    | some x => simpa using ih
theorem backToKw_all (pos : Pos) (env : Env) : ∀ {kws : List Keyword}, kws.all (fun k => k.arg.isSome) = true → (backToKw pos (keywordEach kws env)).all (·.1.isSome) = true
  | [], _ => rfl
  | ⟨x, e, p⟩ :: r, h => by
    rw [List.all_cons, Bool.and_eq_true] at h
    show ((x, _) :: backToKw pos (keywordEach r env)).all (·.1.isSome) = true
    rw [List.all_cons, Bool.and_eq_true]
    exact ⟨h.1, backToKw_all pos env h.2⟩
theorem kwNames_length : ∀ {kws : List Keyword}, kws.all (fun k => k.arg.isSome) = true → (kwNames kws).length = kws.length
  | [], _ => rfl
  | ⟨x, e, p⟩ :: r, h => by
    rw [List.all_cons, Bool.and_eq_true] at h
    have ih := kwNames_length h.2
    obtain ⟨y, hy⟩ := Option.isSome_iff_exists.mp h.1
    dsimp only at hy; subst hy
    unfold kwNames at ih ⊢
    simp only [List.filterMap_cons, List.length_cons, ih]

noncomputable def noStars : List Expr → Prop
  | [] => True
  | e :: r => notStar e ∧ noStars r
noncomputable def starB : Expr → Bool
  | .Starred .. => true
  | _ => false
theorem notStar_of {e : Expr} (h : starB e = false) : notStar e := by
  cases e <;> first | trivial | cases h
noncomputable def noStarsB : List Expr → Bool
  | [] => true
  | e :: r => !starB e && noStarsB r
theorem ns_of : ∀ {es : List Expr}, noStarsB es = true → noStars es
  | [], _ => trivial
  | e :: r, h => by
    unfold noStarsB at h
    rw [Bool.and_eq_true, Bool.not_eq_true'] at h
    exact ⟨notStar_of h.1, ns_of h.2⟩

theorem args_ {A env H as s E pos args kws f} {K : List D → List D → List Ob → Prop} {Q : Args → Shared → Prop} (rm : Room n A) (eo : EnvOk sc env) (M : Mem C A H as O s) (l : Loc H as env ρ s) (hns : noStars args) (hall : kws.all (fun k => k.arg.isSome) = true)
    (h : WPl C n sc ρ O args fun ds O' => WPk C n sc ρ O' kws fun kds O'' => kds.length = kws.length ∧ K ds kds O'')
    (hQ : ∀ x ds kds O' H' as' s', K ds kds O' → Mem C A H' as' O' s' → DenDs H' as' ds x.pos → x.kw.map (·.1) = kwNames kws → DenDs H' as' kds (x.kw.map (·.2)) → Rel [] H as s H' as' s' → Q x s') :
    wpC (model C.prog C.w) A (evalArgs f true (backTo pos (starEach args env)) (backToKw pos (keywordEach kws env))) Q E s := by
  have fin : ∀ vs s₁ (hl : AfterL C A H as s (fun ds O' => WPk C n sc ρ O' kws fun kds O'' => kds.length = kws.length ∧ K ds kds O'') vs s₁),
      wpC (model C.prog C.w) A (evalAll ((backToKw pos (keywordEach kws env)).map (·.2))) (fun ks s₂ => Q ⟨vs, ((backToKw pos (keywordEach kws env)).filterMap (·.1)).zip ks⟩ s₂) E s₁ := by
    rintro vs s₁ ⟨ds, O₁, H₁, as₁, h₁, M₁, D₁, R₁⟩
    refine wpC_mono (h₁ A env H₁ as₁ s₁ E pos rm eo M₁ (l.rel R₁)) (fun ks s₂ qq => qq.out fun kds O₂ H₂ as₂ ⟨hlen, hK⟩ M₂ D₂ R₂ => ?_) fun _ _ x => x
    rw [backToKw_names]
    have hkl : ks.length = (kwNames kws).length := by rw [kwNames_length hall, ← hlen, D₂.length]
    refine hQ _ ds kds O₂ H₂ as₂ s₂ hK M₂ (D₁.rel R₂) ?_ ?_ (R₁.trans R₂)
    · exact List.map_fst_zip (Nat.le_of_eq hkl.symm)
    · show DenDs H₂ as₂ kds (((kwNames kws).zip ks).map (·.2))
      rw [show ((kwNames kws).zip ks).map (·.2) = ks from List.map_snd_zip (Nat.le_of_eq hkl)]
      exact D₂
  cases args with
  | nil =>
    have hsp := h A env H as s E pos rm eo M l
    have ha := backToKw_all pos env hall
    show wpC _ _ (evalArgs f true [] _) _ _ _
    unfold evalArgs
    show wpC _ A (spliced [] >>= _) Q E s
    refine wpC_bind (wpC_mono hsp (fun vs s₁ hl => ?_) fun _ _ x => x)
    refine wpC_bind (wpC_pure ?_)
    refine wpC_holding ?_
    simp only [ha, if_true]
    refine wpC_bind (wpC_mono (fin vs s₁ hl) (fun ks s₂ h₁ => ?_) fun _ _ x => x)
    exact wpC_bind (wpC_pure (wpC_pure h₁))
  | cons e es =>
    have hsp := h A env H as s E pos rm eo M l
    rw [starEach_cons hns.1] at hsp ⊢
    exact evalArgsC_kw (backToKw_all pos env hall) (wpC_mono hsp (fun vs s₁ hl => fin vs s₁ hl) fun _ _ x => x)

theorem WPe_Call {id p args kws pos a fd body} {Φ : D → List Ob → Prop} (F : FnOk C a fd body) (hns : noStars args) (hall : kws.all (fun k => k.arg.isSome) = true)
    (h : WPe C n sc ρ O (.Name id p) fun d O₁ => d = .val (.static (.ref a)) ∧ WPl C n sc ρ O₁ args fun ds O₂ => WPk C n sc ρ O₂ kws fun kds O₃ => kds.length = kws.length ∧ Con C n (.ref a) O₃ ds ((kwNames kws).zip kds) Φ) :
    WPe C n sc ρ O (.Call (.Name id p) args kws pos) Φ := fun A env H as s E rm eo M l => by
  refine wpC_Call_Name_kw (wpC_mono (h A env H as s E rm eo M l) (fun fv s₁ qq => qq.out fun d O₁ H₁ as₁ ⟨hd, h₁⟩ M₁ D₁ R₁ => ?_) fun _ _ x => x)
  subst hd
  unfold DenD Den at D₁
  subst D₁
  obtain ⟨o, ho, hdata⟩ := F.here
  refine callWithC_function_kw (o := o) (fd := fd) (args_ rm eo M₁ (l.rel R₁) hns hall (K := fun ds kds O₃ => kds.length = kws.length ∧ Con C n (.ref a) O₃ ds ((kwNames kws).zip kds) Φ) ?_ fun x ds kds O₂ H₂ as₂ s₂ ⟨hlen, hc⟩ M₂ D₂ N₂ K₂ R₂ => ⟨⟨M₂.keepB _ _ ho, hdata⟩, ?_⟩)
  · exact fun A env H as s E pos rm eo M l => wpC_mono (h₁ A env H as s E pos rm eo M l) (fun vs s' qq => qq.out fun ds O' H' as' q M' D' R' => ⟨ds, O', H', as', fun A env H as s E pos rm eo M l =>
      wpC_mono (q A env H as s E pos rm eo M l) (fun vs s' qq => qq.out fun ds O' H' as' q M D R => ⟨ds, O', H', as', ⟨q.1, q⟩, M, D, R⟩) fun _ _ x => x, M', D', R'⟩) fun _ _ x => x
  · have hkl : (kwNames kws).length = kds.length := by rw [kwNames_length hall, hlen]
    have e1 : ((kwNames kws).zip kds).map (·.1) = kwNames kws := List.map_fst_zip (Nat.le_of_eq hkl)
    have e2 : ((kwNames kws).zip kds).map (·.2) = kds := List.map_snd_zip (Nat.le_of_eq hkl.symm)
    exact wpC_mono (hc A H₂ as₂ s₂ x.pos x.kw E rm M₂ D₂ (by rw [N₂, e1]) (by rw [e2]; exact K₂)) (fun v s' h' => h'.from (R₁.trans R₂)) fun _ _ x => x

theorem noStar_any (pos : Pos) (env : Env) : ∀ {es : List Expr}, noStars es → (backTo pos (starEach es env)).any (·.1) = false
  | [], _ => rfl
  | e :: r, h => by
    rw [starEach_cons h.1]
    show (false || (backTo pos (starEach r env)).any (·.1)) = false
    rw [noStar_any pos env h.2]; rfl
theorem WPe_CallB {id p args pos fv} {Φ : D → List Ob → Prop} (hf : (∃ x, fv = .builtin x) ∨ ∃ x, fv = .type x) (hns : noStars args)
    (h : WPe C n sc ρ O (.Name id p) fun d O₁ => d = .val (.static fv) ∧ WPl C n sc ρ O₁ args fun ds O₂ => Con C n fv O₂ ds [] Φ) :
    WPe C n sc ρ O (.Call (.Name id p) args [] pos) Φ := fun A env H as s E rm eo M l => by
  refine wpC_Call_Name_kw (wpC_mono (h A env H as s E rm eo M l) (fun fv' s₁ qq => qq.out fun d O₁ H₁ as₁ ⟨hd, h₁⟩ M₁ D₁ R₁ => ?_) fun _ _ x => x)
  subst hd
  unfold DenD Den at D₁
  subst D₁
  have hns' := noStar_any pos env hns
  have goal : wpC (model C.prog C.w) A (evalArgs fv' true (backTo pos (starEach args env)) (backToKw pos (keywordEach [] env))) (fun x s₂ => wpC (model C.prog C.w) A (call fv' ([] ++ x.pos) x.kw) (After C A [] H as s Φ) E s₂) E s₁ :=
    args_ rm eo M₁ (l.rel R₁) hns rfl (K := fun ds kds O₃ => kds = [] ∧ Con C n fv' O₃ ds [] Φ)
      (fun A env H as s E pos rm eo M l => wpC_mono (h₁ A env H as s E pos rm eo M l) (fun vs s' qq => qq.out fun ds O' H' as' q M D R => ⟨ds, O', H', as', WPk_nil ⟨rfl, rfl, q⟩, M, D, R⟩) fun _ _ x => x)
      fun x ds kds O₂ H₂ as₂ s₂ ⟨hk, hc⟩ M₂ D₂ N₂ K₂ R₂ => by
        subst hk
        have hx : x.kw = [] := by
          have : x.kw.map (·.1) = [] := N₂
          simpa using this
        rw [hx]
        exact wpC_mono (hc A H₂ as₂ s₂ x.pos [] E rm M₂ D₂ rfl trivial) (fun v s' h' => h'.from (R₁.trans R₂)) fun _ _ x => x
  rcases hf with ⟨x, rfl⟩ | ⟨x, rfl⟩
  · exact callWithC_builtin hns' goal
  · exact callWithC_type hns' goal

theorem WPe_CallM {o name apos args pos T id} {Φ : D → List Ob → Prop}
    (hbase : ∀ env : Env, EnvOk sc env → attributeBase o name env (eval o env) = eval o env) (hns : noStars args) (hlen : args.length < 29) (hline : (apos.endLine == pos.line) = true)
    (pa : PlainAttrs T) (slot : Slot T name id) (hty : typeOf (.builtin id) = pure (.type "method_descriptor"))
    (h : WPe C n sc ρ O o fun d O₁ => (∀ A H as s v, Mem C A H as O₁ s → DenD H as d v → s.TypeIs v T ∧ ∀ a, v = .ref a → ∃ ob, s.heap.get? a = some ob ∧ ob.dict = none) ∧
      WPl C n sc ρ O₁ args fun ds O₂ => Con C n (.builtin id) O₂ (d :: ds) [] Φ) :
    WPe C n sc ρ O (.Call (.Attribute o name apos) args [] pos) Φ := fun A env H as s E rm eo M l => by
  have hns' := noStar_any pos env hns
  have hfew : ((backTo pos (starEach args env)).all (fun x => !x.1) && (backToKw pos (keywordEach [] env)).all (fun x => x.1.isSome)
      && decide (args.length + ([] : List Keyword).length + (if ([] : List Keyword).isEmpty then 0 else 1) < 30)) = true := by
    have h1 : (backTo pos (starEach args env)).all (fun x => !x.1) = true := by
      rw [List.all_eq_true]
      rw [List.any_eq_false] at hns'
      intro x hx
      have := hns' x hx
      simpa using this
    rw [h1]
    simp [backToKw, keywordEach]
    (exact Nat.lt_succ_of_lt hlen)
  refine wpC_Call_method (hbase env eo) hfew hline pa slot hty (wpC_mono (h A env H as s E rm eo M l) (fun ov s₁ qq => qq.out fun d O₁ H₁ as₁ ⟨hty, h₁⟩ M₁ D₁ R₁ => ?_) fun _ _ x => x)
  obtain ⟨t1, t2⟩ := hty A H₁ as₁ s₁ ov M₁ D₁
  refine ⟨t1, t2, callWithC_builtin hns' ?_⟩
  refine args_ rm eo M₁ (l.rel R₁) hns (kws := []) rfl (K := fun ds kds O₃ => kds = [] ∧ Con C n (.builtin id) O₃ (d :: ds) [] Φ)
      (fun A env H as s E pos rm eo M l => wpC_mono (h₁ A env H as s E pos rm eo M l) (fun vs s' qq => qq.out fun ds O' H' as' q M D R => ⟨ds, O', H', as', WPk_nil ⟨rfl, rfl, q⟩, M, D, R⟩) fun _ _ x => x)
      fun x ds kds O₂ H₂ as₂ s₂ ⟨hk, hc⟩ M₂ D₂ N₂ K₂ R₂ => by
        subst hk
        have hx : x.kw = [] := by
          have : x.kw.map (·.1) = [] := N₂
          simpa using this
        rw [hx]
        exact wpC_mono (hc A H₂ as₂ s₂ (ov :: x.pos) [] E rm M₂ ⟨D₁.rel R₂, D₂⟩ rfl trivial) (fun v s' h' => h'.from (R₁.trans R₂)) fun _ _ x => x
end
end Mine
end

section
set_option Elab.async false
set_option maxRecDepth 100000
set_option linter.unusedVariables false
namespace Mine
open PySem PySem.W PyProof.Rows PySem.Calls

noncomputable def notSlice : Expr → Prop
  | .Slice .. => False
  | _ => True
theorem subscripted_plain {e : Expr} {o i : Value} (h : notSlice e) : subscripted e false o i = operate [o, i] (getItem o i) := by
  cases e <;> first | exact h.elim | rfl

noncomputable def listD (O : List Ob) : D → Option (List T)
  | .val (.list ts) => some ts
  | .ref i => match O[i]? with
    | some (.list ts) => some ts
    | _ => none
  | _ => none

section
variable {C : Cx} {n : Nat} {sc : Kinds} {ρ : Vars} {O : List Ob}

theorem listD_at {H as s d v ts} (M : Mem C A H as O s) (hd : listD O d = some ts) (hv : DenD H as d v) : ∃ a vs k, v = .ref a ∧ s.heap.get? a = some (listO vs k) ∧ DenL H ts vs.toList := by
  cases d with
  | ref i =>
    obtain ⟨a, ha, rfl⟩ := hv
    have hO : O[i]? = some (.list ts) := by
      have hd : (match O[i]? with | some (.list ts) => some ts | _ => none) = some ts := hd
      cases q : O[i]? with
      | none => rw [q] at hd; cases hd
      | some ob => cases ob <;> rw [q] at hd <;> cases hd; rfl
    obtain ⟨_, vs, n, g, dl⟩ := M.obs i a _ ha hO
    exact ⟨a, vs, n, rfl, g, dl⟩
  | val t =>
    cases t with
    | list ts' =>
      cases hd
      unfold DenD Den at hv
      obtain ⟨a, vs, n, rfl, hH, dl⟩ := hv
      exact ⟨a, vs, n, rfl, M.sat _ _ hH, dl⟩
    | _ => cases hd
theorem isList_of {s : Shared} {a vs k} (g : s.heap.get? a = some (listO vs k)) : s.heap.IsList a vs := ⟨_, g, rfl, k, rfl⟩

inductive ItemP (O : List Ob) (d i : D) (P : T → Prop) : Prop
  | intro (ts : List T) (k : Int) (t : T) (h1 : listD O d = some ts) (h2 : i = .val (.int k)) (h3 : 0 ≤ k) (h4 : k < 2 ^ 63) (h5 : ts[k.toNat]? = some t) (h6 : P t)
inductive SignP (d i : D) (P : Nat → Prop) : Prop
  | intro (x : Str) (k : Int) (c : Nat) (h1 : d = .val (.str x)) (h2 : i = .val (.int k)) (h3 : 0 ≤ k) (h4 : k < 2 ^ 62) (h5 : x.cps[k.toNat]? = some c) (h6 : P c)
theorem WPe_item {value slice pos} {Φ : D → List Ob → Prop} (hs : notSlice slice)
    (h : WPe C n sc ρ O value fun d O₁ => WPe C n sc ρ O₁ slice fun i O₂ => ItemP O₂ d i fun t => Φ (.val t) O₂) :
    WPe C n sc ρ O (.Subscript value slice pos) Φ := fun A env H as s E rm eo M l => by
  refine SubscriptC_ (wpC_mono (h A env H as s E rm eo M l) (fun v₁ s₁ qq => qq.out fun d₁ O₁ H₁ as₁ h₁ M₁ D₁ R₁ =>
    wpC_mono (h₁ A env H₁ as₁ s₁ E rm eo M₁ (l.rel R₁)) (fun v₂ s₂ qq => qq.out fun d₂ O₂ H₂ as₂ hq M₂ D₂ R₂ => ?_) fun _ _ x => x) fun _ _ x => x)
  obtain ⟨ts, k, t, hl, hi, h0, h1, ht, hΦ⟩ := hq
  subst hi
  unfold DenD Den at D₂
  obtain ⟨tk, rfl⟩ := D₂
  obtain ⟨a, vs, kk, rfl, g, dl⟩ := listD_at M₂ hl (D₁.rel R₂)
  obtain ⟨v, hv, hd⟩ := dl.get ht
  have hL := isList_of g
  exact tail_any hL.typeIs slot_list_getitem.lookup (wpAny_getItem_list hL h0 h1 (by simpa using hv) ⟨.val t, O₂, H₂, as₂, hΦ, M₂, hd, R₁.trans R₂⟩) (subscripted_plain hs)

theorem WPe_sign {value slice pos} {Φ : D → List Ob → Prop} (hs : notSlice slice)
    (h : WPe C n sc ρ O value fun d O₁ => WPe C n sc ρ O₁ slice fun i O₂ => SignP d i fun c => Φ (.val (.str ⟨#[c]⟩)) O₂) :
    WPe C n sc ρ O (.Subscript value slice pos) Φ := fun A env H as s E rm eo M l => by
  refine SubscriptC_ (wpC_mono (h A env H as s E rm eo M l) (fun v₁ s₁ qq => qq.out fun d₁ O₁ H₁ as₁ h₁ M₁ D₁ R₁ =>
    wpC_mono (h₁ A env H₁ as₁ s₁ E rm eo M₁ (l.rel R₁)) (fun v₂ s₂ qq => qq.out fun d₂ O₂ H₂ as₂ hq M₂ D₂ R₂ => ?_) fun _ _ x => x) fun _ _ x => x)
  obtain ⟨x, k, c, hl, hi, h0, h1, ht, hΦ⟩ := hq
  subst hi; subst hl
  unfold DenD Den at D₁ D₂
  obtain ⟨tk, rfl⟩ := D₂
  obtain ⟨tk', rfl⟩ := D₁
  have hlt : k.toNat < x.cps.size := (Array.getElem?_eq_some_iff.mp ht).1
  have hT : s₂.TypeIs (.str x tk') "str" := typeIs_str _ _ _
  refine tail_any hT slot_str_getitem.lookup (PyProof.Rows.getItem_str (c := c) (by simp; (first | exact ⟨zLo h0, Int.lt_trans h1 (by decide)⟩ | lia)) ?_ ⟨_, O₂, H₂, as₂, hΦ, M₂.tok _, by unfold DenD Den; exact ⟨_, rfl⟩, (R₁.trans R₂).trans (Rel.tok _)⟩) (subscripted_plain hs)
  have : seqIndex? k x.length = some k.toNat := by
    unfold seqIndex?
    have hx : (k.toNat : Int) < (x.cps.size : Int) := by (first | exact Int.ofNat_lt.mpr hlt | lia)
    have hlen : x.length = x.cps.size := rfl
    rw [hlen]
    simp only [show ¬ k < 0 by (first | exact Int.not_lt_of_ge h0 | lia), if_false]
    first
      | (rw [if_pos (by lia)])
      | (simp; lia)
  rw [this]; exact ht

noncomputable def sliceT {α : Type} (xs : List α) (lo hi st : Option Int) : List α :=
  let b := sliceBounds lo hi st xs.length
  (sliceRange b.1 b.2.1 b.2.2).filterMap (xs[·]?)
theorem DenL.pick {H : PHeap} {ts : List T} {vs : List Value} (h : DenL H ts vs) : ∀ (is : List Nat), DenL H (is.filterMap (ts[·]?)) (is.filterMap (vs[·]?))
  | [] => .nil
  | i :: is => by
    rw [List.filterMap_cons, List.filterMap_cons]
    cases q : ts[i]? with
    | none => rw [h.getNone q]; exact DenL.pick h is
    | some t =>
      obtain ⟨v, hv, hd⟩ := h.get q
      rw [hv]; exact .cons hd (DenL.pick h is)
theorem slicePick_den {H : PHeap} {ts : List T} {vs : Array Value} (h : DenL H ts vs.toList) (lo hi st : Option Int) : DenL H (sliceT ts lo hi st) (slicePick vs lo hi st).toList := by
  unfold slicePick sliceT
  have e : ts.length = vs.size := by rw [← h.length, Array.length_toList]
  rw [e]
  have := h.pick (sliceRange (sliceBounds lo hi st vs.size).1 (sliceBounds lo hi st vs.size).2.1 (sliceBounds lo hi st vs.size).2.2)
  simpa using this

noncomputable def partD : D → Option (Option Int)
  | .val .none => some none
  | .val (.int i) => some (some i)
  | _ => none
theorem part_is {H as d v k} (h : partD d = some k) (hv : DenD H as d v) : IsPart v k := by
  cases d with
  | ref i => cases h
  | val t =>
    cases t with
    | none => cases h; unfold DenD Den at hv; subst hv; exact .none
    | int i => cases h; unfold DenD Den at hv; obtain ⟨t, rfl⟩ := hv; exact .int i t
    | _ => cases h

noncomputable def WPo (C : Cx) (n : Nat) (sc : Kinds) (ρ : Vars) (O : List Ob) (e : Option Expr) (Φ : D → List Ob → Prop) : Prop := match e with
  | none => Φ (.val .none) O
  | some e => WPe C n sc ρ O e Φ
theorem part_ {A env H as s E} {e : Option Expr} {Φ : D → List Ob → Prop} (rm : Room n A) (eo : EnvOk sc env) (M : Mem C A H as O s) (l : Loc H as env ρ s) (h : WPo C n sc ρ O e Φ) :
    wpC (model C.prog C.w) A (evalPart e env) (After C A [] H as s Φ) E s := by
  cases e with
  | none => exact wpC_pure ⟨_, O, H, as, h, M, by unfold DenD Den; rfl, Rel.refl⟩
  | some e => rw [evalPart_some]; exact h A env H as s E rm eo M l

inductive SliceP (O : List Ob) (d a b c : D) (P : List T → Prop) : Prop
  | intro (ts : List T) (x y z : Option Int) (h1 : listD O d = some ts) (h2 : partD a = some x) (h3 : partD b = some y) (h4 : partD c = some z) (h5 : z ≠ some 0) (h6 : ts.length ≤ sizeLine) (h7 : P (sliceT ts x y z))
theorem WPe_slice {value lo hi st p pos} {Φ : D → List Ob → Prop}
    (h : WPe C n sc ρ O value fun d O₁ => WPo C n sc ρ O₁ lo fun a O₂ => WPo C n sc ρ O₂ hi fun b O₃ => WPo C n sc ρ O₃ st fun c O₄ => SliceP O₄ d a b c fun us => Φ (.val (.list us)) O₄) :
    WPe C n sc ρ O (.Subscript value (.Slice lo hi st p) pos) Φ := fun A env H as s E rm eo M l => by
  refine SubscriptC_ (wpC_mono (h A env H as s E rm eo M l) (fun v₁ s₁ qq => qq.out fun d₁ O₁ H₁ as₁ h₁ M₁ D₁ R₁ => ?_) fun _ _ x => x)
  have l₁ := l.rel R₁
  refine wpC_Slice (wpC_mono (part_ rm eo M₁ l₁ h₁) (fun v₂ s₂ qq => qq.out fun d₂ O₂ H₂ as₂ h₂ M₂ D₂ R₂ => ?_) fun _ _ x => x)
  have l₂ := l₁.rel R₂
  refine wpC_mono (part_ rm eo M₂ l₂ h₂) (fun v₃ s₃ qq => qq.out fun d₃ O₃ H₃ as₃ h₃ M₃ D₃ R₃ => ?_) fun _ _ x => x
  have l₃ := l₂.rel R₃
  refine wpC_mono (part_ rm eo M₃ l₃ h₃) (fun v₄ s₄ qq => qq.out fun d₄ O₄ H₄ as₄ hq M₄ D₄ R₄ => ?_) fun _ _ x => x
  obtain ⟨ts, x, y, z, hl, hx, hy, hz, hz0, hsz, hΦ⟩ := hq
  obtain ⟨a, vs, kk, e, g, dl⟩ := listD_at M₄ hl (((D₁.rel R₂).rel R₃).rel R₄)
  subst e
  have px := part_is hx ((D₂.rel R₃).rel R₄)
  have py := part_is hy (D₃.rel R₄)
  have pz := part_is hz D₄
  have RR := ((R₁.trans R₂).trans R₃).trans R₄
  have hsn := get?_size s₄.heap
  obtain ⟨M₅, R₅⟩ := M₄.same (s' := { s₄ with heap := s₄.heap.push { cls := .type "slice", data := .fields #[v₂, v₃, v₄] } }) (fun b o e => Heap.get?_push_of_some _ e) rfl rfl
  have g5 : (s₄.heap.push { cls := .type "slice", data := .fields #[v₂, v₃, v₄] }).get? a = some (listO vs kk) := Heap.get?_push_of_some _ g
  have hL := isList_of (s := { s₄ with heap := s₄.heap.push { cls := .type "slice", data := .fields #[v₂, v₃, v₄] } }) g5
  obtain ⟨M₆, R₆⟩ := M₅.put (o := listO (slicePick vs x y z) 0) (s' := { s₄ with heap := (s₄.heap.push { cls := .type "slice", data := .fields #[v₂, v₃, v₄] }).push (listO (slicePick vs x y z) 0) }) (get?_size _) (Heap.get?_push_size _ rfl) (fun b o e => Heap.get?_push_of_some _ e) rfl rfl
  have goal : wpAny (model C.prog C.w) A (getItem (.ref a) (.ref s₄.heap.objs.size)) (After C A [] H as s Φ) E { s₄ with heap := s₄.heap.push { cls := .type "slice", data := .fields #[v₂, v₃, v₄] } } := by
    refine wpAny_getItem_list_slice hL (Heap.IsSliceOf.new _ _ _ _) px py pz hz0 ⟨_, O₄, _, as₄, hΦ, M₆, ?_, (RR.trans (R₅ _)).trans (R₆ _)⟩ (by rw [← Array.length_toList, dl.length]; exact hsz)
    unfold DenD Den
    exact ⟨_, _, 0, rfl, PHeap.put_self, DenL.mono (R₆ []).mono _ _ (slicePick_den dl x y z)⟩
  cases st with
  | none => exact tail_any hL.typeIs slot_list_getitem.lookup goal (ops := [.ref s₄.heap.objs.size, .ref a]) rfl
  | some e => exact tail_any hL.typeIs slot_list_getitem.lookup goal (ops := [.ref a, .ref s₄.heap.objs.size]) rfl
end
end Mine
end

section
set_option Elab.async false
set_option maxRecDepth 100000
set_option linter.unusedVariables false
namespace Mine
open PySem PySem.W PyProof.Rows PySem.Calls

noncomputable abbrev opB (op : Operator) : List Value → Sem Value := fun vs => binaryOp op (vs.getD 0 .none) (vs.getD 1 .none)
noncomputable abbrev opC (op : CmpOp) : List Value → Sem Value := fun vs => compareOp op (vs.getD 0 .none) (vs.getD 1 .none)
noncomputable abbrev opU (op : UnaryOp) : List Value → Sem Value := fun vs => unaryOp op (vs.getD 0 .none)

theorem densC {H as d ds vs} (h : DenDs H as (d :: ds) vs) : ∃ v r, vs = v :: r ∧ DenD H as d v ∧ DenDs H as ds r := by
  cases vs with
  | nil => exact h.elim
  | cons v r => exact ⟨v, r, rfl, h⟩
theorem densN {H as vs} (h : DenDs H as [] vs) : vs = [] := by
  cases vs with
  | nil => rfl
  | cons v r => exact h.elim
theorem dens1 {H as d vs} (h : DenDs H as [d] vs) : ∃ v, vs = [v] ∧ DenD H as d v := by
  obtain ⟨v, r, e, h1, h2⟩ := densC h
  exact ⟨v, by rw [e, densN h2], h1⟩
theorem dens2 {H as d e vs} (h : DenDs H as [d, e] vs) : ∃ v u, vs = [v, u] ∧ DenD H as d v ∧ DenD H as e u := by
  obtain ⟨v, r, q, h1, h2⟩ := densC h
  obtain ⟨u, q', h2⟩ := dens1 h2
  exact ⟨v, u, by rw [q, q'], h1, h2⟩
theorem dens3 {H as d e f vs} (h : DenDs H as [d, e, f] vs) : ∃ v u w, vs = [v, u, w] ∧ DenD H as d v ∧ DenD H as e u ∧ DenD H as f w := by
  obtain ⟨v, r, q, h1, h2⟩ := densC h
  obtain ⟨u, w, q', h2, h3⟩ := dens2 h2
  exact ⟨v, u, w, by rw [q, q'], h1, h2, h3⟩

section
variable {C : Cx} {n : Nat} {O : List Ob} {Φ : D → List Ob → Prop} {a b : Int} {x y : Str}

theorem denInt {H as i v} (h : DenD H as (.val (.int i)) v) : ∃ t, v = .int i t := by unfold DenD Den at h; exact h
theorem denStr {H as} {x : Str} {v} (h : DenD H as (.val (.str x)) v) : ∃ t, v = .str x t := by unfold DenD Den at h; exact h
theorem denBool {H as b v} (h : DenD H as (.val (.bool b)) v) : v = .bool b := by unfold DenD Den at h; exact h
theorem denNone {H as v} (h : DenD H as (.val .none) v) : v = .none := by unfold DenD Den at h; exact h
theorem denStatic {H as u v} (h : DenD H as (.val (.static u)) v) : v = u := by unfold DenD Den at h; exact h
theorem isInt {H as} {i : Int} {t : Tok} : DenD H as (.val (.int i)) (.int i t) := by unfold DenD Den; exact ⟨_, rfl⟩
theorem isStr {H as} {x : Str} {t : Tok} : DenD H as (.val (.str x)) (.str x t) := by unfold DenD Den; exact ⟨_, rfl⟩
theorem isBool {H as} {b : Bool} : DenD H as (.val (.bool b)) (.bool b) := by unfold DenD Den; rfl
theorem isNone {H as} : DenD H as (.val .none) .none := by unfold DenD Den; rfl

theorem WPt_1 {d f} (h : ∀ A H as s E v, Room n A → Mem C A H as O s → DenD H as d v → wpAny (model C.prog C.w) A (f [v]) (After C A [] H as s Φ) E s) : WPt C n O [d] f Φ := fun A H as s vs E rm M hv => by
  obtain ⟨v, rfl, h1⟩ := dens1 hv
  exact h A H as s E v rm M h1
theorem WPt_2 {d e f} (h : ∀ A H as s E v u, Room n A → Mem C A H as O s → DenD H as d v → DenD H as e u → wpAny (model C.prog C.w) A (f [v, u]) (After C A [] H as s Φ) E s) : WPt C n O [d, e] f Φ := fun A H as s vs E rm M hv => by
  obtain ⟨v, u, rfl, h1, h2⟩ := dens2 hv
  exact h A H as s E v u rm M h1 h2
theorem WPt_ii {f} (h : ∀ A H as s E t t', Mem C A H as O s → wpAny (model C.prog C.w) A (f [.int a t, .int b t']) (After C A [] H as s Φ) E s) : WPt C n O [.val (.int a), .val (.int b)] f Φ := WPt_2 fun A H as s E v u rm M h1 h2 => by
  obtain ⟨t, rfl⟩ := denInt h1
  obtain ⟨t', rfl⟩ := denInt h2
  exact h A H as s E t t' M
theorem WPt_ss {f} (h : ∀ A H as s E t t', Mem C A H as O s → wpAny (model C.prog C.w) A (f [.str x t, .str y t']) (After C A [] H as s Φ) E s) : WPt C n O [.val (.str x), .val (.str y)] f Φ := WPt_2 fun A H as s E v u rm M h1 h2 => by
  obtain ⟨t, rfl⟩ := denStr h1
  obtain ⟨t', rfl⟩ := denStr h2
  exact h A H as s E t t' M

theorem after_int {X H as s i t} (M : Mem C A H as O s) (h : Φ (.val (.int i)) O) {k : Nat} : After C A X H as s Φ (.int i t) { s with toks := k } := ⟨_, O, H, as, h, M.tok _, isInt, Rel.tok _⟩
theorem after_str {X H as s x t} (M : Mem C A H as O s) (h : Φ (.val (.str x)) O) {k : Nat} : After C A X H as s Φ (.str x t) { s with toks := k } := ⟨_, O, H, as, h, M.tok _, isStr, Rel.tok _⟩
theorem after_bool {X H as s b} (M : Mem C A H as O s) (h : Φ (.val (.bool b)) O) : After C A X H as s Φ (.bool b) s := ⟨_, O, H, as, h, M, isBool, Rel.refl⟩

theorem B_add (h : Φ (.val (.int (a + b))) O) : WPt C n O [.val (.int a), .val (.int b)] (opB .Add) Φ := WPt_ii fun A H as s E t t' M => wpAny_add_int (after_int M h)
theorem B_sub (h : Φ (.val (.int (a - b))) O) : WPt C n O [.val (.int a), .val (.int b)] (opB .Sub) Φ := WPt_ii fun A H as s E t t' M => sub_int' (after_int M h)
theorem B_mul (hb : -(2 ^ 62) < a ∧ a < 2 ^ 62 ∨ -(2 ^ 62) < b ∧ b < 2 ^ 62) (h : Φ (.val (.int (a * b))) O) : WPt C n O [.val (.int a), .val (.int b)] (opB .Mult) Φ := WPt_ii fun A H as s E t t' M => by
  refine P.mul_int (after_int M h) ?_
  rcases hb with hb | hb
  · exact IntMulOk.of_left (intBits_le_64 (by (first | exact Int.lt_trans (by decide) hb.1 | lia)) (by (first | exact Int.lt_trans hb.2 (by decide) | lia)))
  · exact IntMulOk.of_right (intBits_le_64 (by (first | exact Int.lt_trans (by decide) hb.1 | lia)) (by (first | exact Int.lt_trans hb.2 (by decide) | lia)))
theorem B_floordiv (hb : b ≠ 0) (hs : b.natAbs < 1073741824) (h : Φ (.val (.int (a.fdiv b))) O) : WPt C n O [.val (.int a), .val (.int b)] (opB .FloorDiv) Φ := WPt_ii fun A H as s E t t' M => floordiv_int hb (after_int M h) (.inl (PyProof.noPylong_small hs))
theorem B_mod (hb : b ≠ 0) (h : Φ (.val (.int (a.fmod b))) O) : WPt C n O [.val (.int a), .val (.int b)] (opB .Mod) Φ := WPt_ii fun A H as s E t t' M => mod_int' hb (after_int M h)
theorem U_neg (h : Φ (.val (.int (-a))) O) : WPt C n O [.val (.int a)] (opU .USub) Φ := WPt_1 fun A H as s E v rm M h1 => by
  obtain ⟨t, rfl⟩ := denInt h1
  exact P.neg_int (after_int M h)

theorem B_addS (hs : x.length + y.length ≤ sizeLine) (h : Φ (.val (.str (x ++ y))) O) : WPt C n O [.val (.str x), .val (.str y)] (opB .Add) Φ := WPt_ss fun A H as s E t t' M => SBL.add (fun t' k _ => after_str M h) hs

noncomputable def repStr (x : Str) (k : Nat) : Str := ⟨(List.replicate k x.cps.toList).flatten.toArray⟩
theorem foldl_append_flatten {α : Type} : ∀ (l : List (Array α)) (acc : Array α), List.foldl (fun x y => x ++ y) acc l = acc ++ (l.map Array.toList).flatten.toArray
  | [], acc => by simp
  | x :: r, acc => by
    rw [List.foldl_cons, foldl_append_flatten r]
    apply Array.toList_inj.mp
    simp
theorem B_mulS (h0 : 0 ≤ b) (h1 : b < 2 ^ 20) (hx : x.length < 2 ^ 20) (hs : x.length * b.toNat ≤ sizeLine) (h : Φ (.val (.str (repStr x b.toNat))) O) : WPt C n O [.val (.str x), .val (.int b)] (opB .Mult) Φ := WPt_2 fun A H as s E v u rm M h1' h2 => by
  obtain ⟨t, rfl⟩ := denStr h1'
  obtain ⟨t', rfl⟩ := denInt h2
  have key : (if b < 1 then Made.str Str.empty else if (b == 1 || x.length == 0) = true then Made.val (Value.str x t) else Made.str { cps := List.foldl (fun x1 x2 => x1 ++ x2) #[] (List.replicate b.toNat x.cps) }).post
      (After C A [] H as s Φ) s := by
    have e2 : ∀ k, ({ cps := List.foldl (fun x1 x2 => x1 ++ x2) #[] (List.replicate k x.cps) } : Str) = repStr x k := fun k => by
      unfold repStr
      rw [foldl_append_flatten]; simp
    have rl : (repStr x b.toNat).length ≤ sizeLine := by
      have : (repStr x b.toNat).length = b.toNat * x.length := by
        unfold repStr Str.length; simp
      rw [this, Nat.mul_comm]; exact hs
    split
    · have e : b = 0 := by (first | exact Int.le_antisymm (Int.le_of_lt_add_one (by assumption)) h0 | lia)
      subst e
      have e1 : repStr x (0 : Int).toNat = Str.empty := by unfold repStr; rfl
      rw [e1] at h
      exact ⟨by decide, after_str M h⟩
    · split
      · rename_i hb hc
        rw [Bool.or_eq_true] at hc
        have e1 : repStr x b.toNat = x := by
          rcases hc with hc | hc
          · have e : b = 1 := by simpa using hc
            subst e
            unfold repStr; simp
          · have e : x.cps.size = 0 := by
              have : x.length = 0 := by simpa using hc
              exact this
            have e' : x.cps = #[] := Array.eq_empty_of_size_eq_zero e
            unfold repStr; rw [e']
            obtain ⟨c⟩ := x
            dsimp only at e' ⊢
            subst e'
            simp
        rw [e1] at h
        exact ⟨_, O, H, as, h, M, isStr, Rel.refl⟩
      · rw [e2]
        exact ⟨rl, after_str M h⟩
  refine P.mul_str (by simp; (first | exact ⟨zLo h0, Int.lt_trans h1 (by decide)⟩ | lia)) (fun _ _ => ?_) (fun _ _ => ?_) key
  · have hb : 1 ≤ b := by (first | exact Int.not_lt.mp (by assumption) | lia)
    have : (2 ^ 43 : Int) ≤ (2 ^ 63 - 1) / b := Int.le_ediv_of_mul_le (by (first | exact Int.lt_of_lt_of_le Int.zero_lt_one (Int.not_lt.mp (by assumption)) | omega)) (by lia)
    have hx' : (x.length : Int) < 2 ^ 20 := by (first | exact Int.ofNat_lt.mpr hx | lia)
    lia
  · unfold Builtin.Str.tooLong
    simp only [decide_eq_false_iff_not]
    (first | exact Nat.not_lt.mpr hs | lia)

theorem B_addL {ts us : List T} (hs : ts.length + us.length ≤ sizeLine) {d e : D} (hd : listD O d = some ts) (he : listD O e = some us) (h : Φ (.val (.list (ts ++ us))) O) : WPt C n O [d, e] (opB .Add) Φ := WPt_2 fun A H as s E v u rm M h1 h2 => by
  obtain ⟨a, vs, k, rfl, g, dl⟩ := listD_at M hd h1
  obtain ⟨b, us, j, rfl, g', dl'⟩ := listD_at M he h2
  have hsz : vs.size + us.size ≤ sizeLine := by rw [← Array.length_toList, ← Array.length_toList, dl.length, dl'.length]; exact hs
  refine concat_meets ⟨_, g, rfl⟩ ⟨_, g', rfl⟩ noFill_list_add seq_list_add PySem.F.slot_list_add PySem.F.entry_list_add (PySem.F.args_list_add_2 _ _) (list_addW a b vs us k j none none #[] #[] hsz) ⟨g, g', ?_⟩
  obtain ⟨M₂, R₂⟩ := M.put (o := listO (vs ++ us) 0) (s' := { s with heap := s.heap.push (listO (vs ++ us) 0) }) (get?_size _) (Heap.get?_push_size _ rfl) (fun b o e => Heap.get?_push_of_some _ e) rfl rfl
  refine ⟨_, O, _, as, h, M₂, ?_, R₂ _⟩
  unfold DenD Den
  refine ⟨_, _, 0, rfl, PHeap.put_self, ?_⟩
  rw [Array.toList_append]
  exact (DenL.mono (R₂ []).mono _ _ dl).append (DenL.mono (R₂ []).mono _ _ dl')

noncomputable def repL {α : Type} (k : Nat) (ts : List α) : List α := (List.replicate k ts).flatten
theorem DenL.rep {H : PHeap} {ts : List T} {vs : List Value} (h : DenL H ts vs) : ∀ k, DenL H (repL k ts) (repL k vs)
  | 0 => by unfold repL; simp; exact .nil
  | k + 1 => by
    unfold repL
    rw [List.replicate_succ, List.replicate_succ, List.flatten_cons, List.flatten_cons]
    exact h.append (DenL.rep h k)
theorem B_mulL {ts : List T} (hlo : -(2 ^ 20) ≤ b) (hhi : b < 2 ^ 20) (hs : ts.length * b.toNat ≤ 2 ^ 24) {d : D} (hd : listD O d = some ts) (h : Φ (.val (.list (repL b.toNat ts))) O) : WPt C n O [d, .val (.int b)] (opB .Mult) Φ := WPt_2 fun A H as s E v u rm M h1 h2 => by
  obtain ⟨a, items, k, rfl, hl, dl⟩ := listD_at M hd h1
  obtain ⟨u, rfl⟩ := denInt h2
  have hsz : items.size * b.toNat ≤ 2 ^ 24 := by rw [← Array.length_toList, dl.length]; exact hs
  refine wpAny_binaryOp_repeat_ref (T := "list") (U := "int") (by decide) ⟨_, hl, rfl⟩ (fun s' => typeIs_int s' b u) noFill_list_mul F.fills_int_mul F.slot_int_rmul repeat_list F.slot_int_index.lookup
    (call_meets F.slot_int_rmul (typeIs_int s b u) F.entry_int_rmul (F.args_int_rmul_2 _ _) (int___rmul___int_list b u a items k)
      ⟨hl, rfl, ⟨_, hl, rfl⟩, call_meets F.slot_list_mul ⟨_, hl, rfl⟩ F.entry_list_mul (F.args_list_mul_2 _ _)
        (AutoListH.list___mul___list_int_3 a items k b u (by simp [Builtin.List.listFitsIndex]; (first | exact ⟨Int.le_trans (by decide) hlo, Int.lt_trans hhi (by decide)⟩ | lia)) (by (first | exact Nat.not_lt.mpr (zLe hsz rfl) | lia)) (by simp [Builtin.List.listTooLong, sizeLine]; omega))
        ⟨hl, ?_⟩⟩)
  have e : (List.foldl (fun x1 x2 => x1 ++ x2) #[] (List.replicate (if items.isEmpty = true then 0 else b.toNat) items)) = (repL b.toNat items.toList).toArray := by
    rw [foldl_append_flatten]
    split
    · rename_i hi
      have : items = #[] := Array.isEmpty_iff.mp hi
      subst this
      unfold repL; simp
    · unfold repL; simp
  rw [e]
  obtain ⟨M₂, R₂⟩ := M.put (o := listO (repL b.toNat items.toList).toArray 0) (s' := { s with heap := s.heap.push (listO (repL b.toNat items.toList).toArray 0) }) (get?_size _) (Heap.get?_push_size _ rfl) (fun b o e => Heap.get?_push_of_some _ e) rfl rfl
  refine ⟨_, O, _, as, h, M₂, ?_, R₂ _⟩
  unfold DenD Den
  exact ⟨_, _, 0, rfl, PHeap.put_self, DenL.mono (R₂ []).mono _ _ (dl.rep _)⟩

-- comparisons of ints and texts
theorem C_eqI (h : Φ (.val (.bool (a == b))) O) : WPt C n O [.val (.int a), .val (.int b)] (opC .Eq) Φ := WPt_ii fun A H as s E t t' M => eq_int (after_bool M h)
theorem C_ltI (h : Φ (.val (.bool (decide (a < b)))) O) : WPt C n O [.val (.int a), .val (.int b)] (opC .Lt) Φ := WPt_ii fun A H as s E t t' M => lt_int (after_bool M h)
theorem C_eqS (h : Φ (.val (.bool (x == y))) O) : WPt C n O [.val (.str x), .val (.str y)] (opC .Eq) Φ := WPt_ss fun A H as s E t t' M => eq_str (after_bool M h)
noncomputable def isNoneD : D → Bool
  | .val .none => true
  | _ => false
theorem none_eq {H as d v} (hv : DenD H as d v) (hd : ∀ u, d = .val (.static u) → u ≠ .none) : (v == Value.none) = isNoneD d := by
  have beqNone : ∀ v : Value, v ≠ .none → (v == Value.none) = false := fun v h => by simpa using h
  cases d with
  | ref i => obtain ⟨a, _, rfl⟩ := hv; exact beqNone _ (by simp)
  | val t =>
    cases t with
    | none => have := denNone hv; subst this; simp [isNoneD]
    | bool b => have := denBool hv; subst this; exact beqNone _ (by simp)
    | int i => obtain ⟨t, rfl⟩ := denInt hv; exact beqNone _ (by simp)
    | str x => obtain ⟨t, rfl⟩ := denStr hv; exact beqNone _ (by simp)
    | static u => have := denStatic hv; subst this; exact beqNone _ (hd _ rfl)
    | list ts => unfold DenD Den at hv; obtain ⟨a, vs, k, rfl, _⟩ := hv; exact beqNone _ (by simp)
    | tup ts => unfold DenD Den at hv; obtain ⟨a, vs, k, rfl, _⟩ := hv; exact beqNone _ (by simp)
    | dict ks ts => unfold DenD Den at hv; obtain ⟨a, vs, k, rfl, _⟩ := hv; exact beqNone _ (by simp)
    | range a b c => unfold DenD Den at hv; obtain ⟨r, t, u, w, rfl, _⟩ := hv; exact beqNone _ (by simp)
theorem C_isNone {d : D} (hd : ∀ u, d = .val (.static u) → u ≠ .none) (h : Φ (.val (.bool (isNoneD d))) O) : WPt C n O [d, .val .none] (opC .Is) Φ := WPt_2 fun A H as s E v u rm M h1 h2 => by
  have e := denNone h2
  subst e
  refine PySem.is_none ?_
  show After C A [] H as s Φ (Value.bool (v == Value.none)) s
  rw [none_eq h1 hd]
  exact after_bool M h
theorem C_isNotNone {d : D} (hd : ∀ u, d = .val (.static u) → u ≠ .none) (h : Φ (.val (.bool (!isNoneD d))) O) : WPt C n O [d, .val .none] (opC .IsNot) Φ := WPt_2 fun A H as s E v u rm M h1 h2 => by
  have e := denNone h2
  subst e
  refine PySem.isNot_none ?_
  show After C A [] H as s Φ (Value.bool (!(v == Value.none))) s
  rw [none_eq h1 hd]
  exact after_bool M h
end
end Mine
end

section
set_option Elab.async false
set_option maxRecDepth 100000
set_option linter.unusedVariables false
namespace Mine
open PySem PySem.W PyProof.Rows PySem.Calls PySem.SeqAt
open AutoSeq1 (wpAny_loadPart')
open MeetsSeq MeetsSeq2 MeetsSeq3 SeqRoads2

mutual
noncomputable def eqT : T → T → Bool
  | .int a, .int b => a == b
  | .str x, .str y => x == y
  | .list ts, .list us => eqTs ts us
  | _, _ => false
noncomputable def eqTs : List T → List T → Bool
  | [], [] => true
  | t :: ts, u :: us => eqT t u && eqTs ts us
  | _, _ => false
end
mutual
noncomputable def datT : T → Bool
  | .int _ => true
  | .str _ => true
  | .list ts => datTs ts
  | _ => false
noncomputable def datTs : List T → Bool
  | [] => true
  | t :: ts => datT t && datTs ts
end
mutual
noncomputable def depT : T → Nat
  | .list ts => depTs ts + 1
  | _ => 0
noncomputable def depTs : List T → Nat
  | [] => 0
  | t :: ts => max (depT t) (depTs ts)
end

mutual
theorem Den.inj {H : PHeap} : ∀ (t u : T) (v : Value), datT t = true → datT u = true → Den H t v → Den H u v → t = u
  | .int i, u, v, _, hu, h1, h2 => by
    unfold Den at h1
    obtain ⟨t, rfl⟩ := h1
    cases u with
    | int j => unfold Den at h2; obtain ⟨t', e⟩ := h2; cases e; rfl
    | str y => unfold Den at h2; obtain ⟨t', e⟩ := h2; cases e
    | list us => unfold Den at h2; obtain ⟨a, vs, k, e, _⟩ := h2; cases e
    | _ => cases hu
  | .str x, u, v, _, hu, h1, h2 => by
    unfold Den at h1
    obtain ⟨t, rfl⟩ := h1
    cases u with
    | int j => unfold Den at h2; obtain ⟨t', e⟩ := h2; cases e
    | str y => unfold Den at h2; obtain ⟨t', e⟩ := h2; cases e; rfl
    | list us => unfold Den at h2; obtain ⟨a, vs, k, e, _⟩ := h2; cases e
    | _ => cases hu
  | .list ts, u, v, ht, hu, h1, h2 => by
    unfold Den at h1
    obtain ⟨a, vs, k, rfl, hH, dl⟩ := h1
    cases u with
    | int j => unfold Den at h2; obtain ⟨t', e⟩ := h2; cases e
    | str y => unfold Den at h2; obtain ⟨t', e⟩ := h2; cases e
    | list us =>
      unfold Den at h2
      obtain ⟨a', vs', k', e, hH', dl'⟩ := h2
      cases e
      rw [hH] at hH'
      cases hH'
      unfold datT at ht hu
      rw [DenL.inj ts us _ ht hu dl dl']
    | _ => cases hu
  | .none, _, _, h, _, _, _ => by cases h
  | .bool _, _, _, h, _, _, _ => by cases h
  | .static _, _, _, h, _, _, _ => by cases h
  | .tup _, _, _, h, _, _, _ => by cases h
  | .dict _ _, _, _, h, _, _, _ => by cases h
  | .range _ _ _, _, _, h, _, _, _ => by cases h
theorem DenL.inj {H : PHeap} : ∀ (ts us : List T) (vs : List Value), datTs ts = true → datTs us = true → DenL H ts vs → DenL H us vs → ts = us
  | [], [], _, _, _, _, _ => rfl
  | [], u :: us, vs, _, _, h1, h2 => by
    rw [DenL.nil_iff] at h1; subst h1
    rw [DenL.cons_iff] at h2; obtain ⟨v, r, e, _⟩ := h2; cases e
  | t :: ts, [], vs, _, _, h1, h2 => by
    rw [DenL.nil_iff] at h2; subst h2
    rw [DenL.cons_iff] at h1; obtain ⟨v, r, e, _⟩ := h1; cases e
  | t :: ts, u :: us, vs, ht, hu, h1, h2 => by
    unfold datTs at ht hu
    rw [Bool.and_eq_true] at ht hu
    rw [DenL.cons_iff] at h1 h2
    obtain ⟨v, r, rfl, d1, l1⟩ := h1
    obtain ⟨v', r', e, d2, l2⟩ := h2
    cases e
    rw [Den.inj t u v ht.1 hu.1 d1 d2, DenL.inj ts us r ht.2 hu.2 l1 l2]
end
mutual
theorem eqT_refl : ∀ t : T, datT t = true → eqT t t = true
  | .int i, _ => by unfold eqT; simp
  | .str x, _ => by unfold eqT; simp
  | .list ts, h => by unfold eqT; exact eqTs_refl ts h
  | .none, h => by cases h
  | .bool _, h => by cases h
  | .static _, h => by cases h
  | .tup _, h => by cases h
  | .dict _ _, h => by cases h
  | .range _ _ _, h => by cases h
theorem eqTs_refl : ∀ ts : List T, datTs ts = true → eqTs ts ts = true
  | [], _ => rfl
  | t :: ts, h => by
    unfold datTs at h
    rw [Bool.and_eq_true] at h
    unfold eqTs
    rw [eqT_refl t h.1, eqTs_refl ts h.2]; rfl
end
mutual
theorem eqT_eq : ∀ t u : T, eqT t u = true → t = u
  | .int a, .int b, h => by unfold eqT at h; rw [beq_iff_eq.mp h]
  | .str a, .str b, h => by unfold eqT at h; rw [beq_iff_eq.mp h]
  | .list ts, .list us, h => by unfold eqT at h; rw [eqTs_eq ts us h]
  | .none, _, h => by simp [eqT] at h
  | .bool _, _, h => by simp [eqT] at h
  | .static _, _, h => by simp [eqT] at h
  | .tup _, _, h => by simp [eqT] at h
  | .dict _ _, _, h => by simp [eqT] at h
  | .range _ _ _, _, h => by simp [eqT] at h
  | .int _, .none, h => by simp [eqT] at h
  | .int _, .bool _, h => by simp [eqT] at h
  | .int _, .str _, h => by simp [eqT] at h
  | .int _, .static _, h => by simp [eqT] at h
  | .int _, .list _, h => by simp [eqT] at h
  | .int _, .tup _, h => by simp [eqT] at h
  | .int _, .dict _ _, h => by simp [eqT] at h
  | .int _, .range _ _ _, h => by simp [eqT] at h
  | .str _, .none, h => by simp [eqT] at h
  | .str _, .bool _, h => by simp [eqT] at h
  | .str _, .int _, h => by simp [eqT] at h
  | .str _, .static _, h => by simp [eqT] at h
  | .str _, .list _, h => by simp [eqT] at h
  | .str _, .tup _, h => by simp [eqT] at h
  | .str _, .dict _ _, h => by simp [eqT] at h
  | .str _, .range _ _ _, h => by simp [eqT] at h
  | .list _, .none, h => by simp [eqT] at h
  | .list _, .bool _, h => by simp [eqT] at h
  | .list _, .int _, h => by simp [eqT] at h
  | .list _, .str _, h => by simp [eqT] at h
  | .list _, .static _, h => by simp [eqT] at h
  | .list _, .tup _, h => by simp [eqT] at h
  | .list _, .dict _ _, h => by simp [eqT] at h
  | .list _, .range _ _ _, h => by simp [eqT] at h
theorem eqTs_eq : ∀ ts us : List T, eqTs ts us = true → ts = us
  | [], [], _ => rfl
  | t :: ts, u :: us, h => by
    unfold eqTs at h
    rw [Bool.and_eq_true] at h
    rw [eqT_eq t u h.1, eqTs_eq ts us h.2]
  | [], _ :: _, h => by simp [eqTs] at h
  | _ :: _, [], h => by simp [eqTs] at h
end

theorem eqTs_all : ∀ (ts us : List T), ts.length = us.length → (List.range ts.length).all (fun j => eqT (ts.getD j .none) (us.getD j .none)) = eqTs ts us
  | [], [], _ => rfl
  | t :: ts, u :: us, h => by
    have ih := eqTs_all ts us (by simpa using h)
    unfold eqTs
    rw [← ih, List.length_cons, List.range_succ_eq_map, List.all_cons, List.all_map]
    rfl
  | [], _ :: _, h => by simp at h
  | _ :: _, [], h => by simp at h
theorem eqTs_len : ∀ (ts us : List T), ts.length ≠ us.length → eqTs ts us = false
  | [], [], h => by simp at h
  | [], _ :: _, _ => rfl
  | _ :: _, [], _ => rfl
  | t :: ts, u :: us, h => by
    unfold eqTs
    rw [eqTs_len ts us (by simpa using h), Bool.and_false]
theorem datTs_get : ∀ {ts : List T} {j : Nat}, datTs ts = true → j < ts.length → datT (ts.getD j .none) = true
  | t :: ts, 0, h, _ => by unfold datTs at h; rw [Bool.and_eq_true] at h; exact h.1
  | t :: ts, j + 1, h, hj => by
    unfold datTs at h; rw [Bool.and_eq_true] at h
    exact datTs_get (ts := ts) (j := j) h.2 (by simpa using hj)
theorem depTs_get : ∀ {ts : List T} {j : Nat}, j < ts.length → depT (ts.getD j .none) ≤ depTs ts
  | t :: ts, 0, _ => by rw [depTs]; exact Nat.le_max_left ..
  | t :: ts, j + 1, hj => by
    rw [depTs]
    exact Nat.le_trans (depTs_get (ts := ts) (j := j) (by simpa using hj)) (Nat.le_max_right ..)
theorem DenL.getD {H : PHeap} {ts : List T} {vs : Array Value} (h : DenL H ts vs.toList) {j : Nat} (h1 : j < vs.size) : Den H (ts.getD j .none) vs[j] := by
  have hl : j < ts.length := by rw [← h.length, Array.length_toList]; exact h1
  obtain ⟨v, hv, d⟩ := h.get (List.getElem?_eq_getElem hl)
  have e : vs[j] = v := by
    rw [Array.getElem?_toList, Array.getElem?_eq_getElem h1] at hv
    exact Option.some.inj hv
  rw [e]
  have e2 : ts.getD j .none = ts[j] := by simp [List.getD, hl]
  rw [e2]; exact d
theorem DenL.size {H : PHeap} {ts : List T} {vs : Array Value} (h : DenL H ts vs.toList) : vs.size = ts.length := by rw [← h.length, Array.length_toList]

theorem sizeT_getD : ∀ {ts : List T} {j : Nat}, j < ts.length → sizeOf (ts.getD j .none) < sizeOf ts
  | t :: ts, 0, _ => by
    show sizeOf t < 1 + sizeOf t + sizeOf ts
    (first | exact Nat.lt_of_lt_of_le (Nat.lt_succ_self _) (zEq (Nat.add_comm _ 1) (Nat.le_add_right _ _)) | lia)
  | t :: ts, j + 1, h => by
    have := sizeT_getD (ts := ts) (j := j) (by simpa using h)
    show sizeOf (ts.getD j .none) < 1 + sizeOf t + sizeOf ts
    (first | exact Nat.lt_add_left _ this | lia)

theorem eqAt_den {H : PHeap} : ∀ (k : Nat) (t u : T), sizeOf t ≤ k → ∀ (A : Around) (s : Shared) (v w : Value), (∀ a o, H a = some o → s.heap.get? a = some o) → Den H t v → Den H u w → datT t = true → datT u = true →
    A.units + depT t < cLine → EqAt A s v w (eqT t u)
  | 0, t, u, hk, A, s, v, w, hs, h1, h2, d1, d2, hu => by cases t <;> simp at hk
  | k + 1, .int i, u, hk, A, s, v, w, hs, h1, h2, d1, d2, hu => by
    unfold Den at h1
    obtain ⟨t, rfl⟩ := h1
    cases u with
    | int j => unfold Den at h2; obtain ⟨t', rfl⟩ := h2; unfold eqT; exact EqAt.int_int i t j t'
    | str y => unfold Den at h2; obtain ⟨t', rfl⟩ := h2; unfold eqT; exact EqAt.int_str i t y t'
    | list us =>
      unfold Den at h2; obtain ⟨a, vs, n, rfl, hH, dl⟩ := h2; unfold eqT
      exact EqAt.int_list i t (isList_of (hs _ _ hH)) (by (exact hu))
    | _ => cases d2
  | k + 1, .str x, u, hk, A, s, v, w, hs, h1, h2, d1, d2, hu => by
    unfold Den at h1
    obtain ⟨t, rfl⟩ := h1
    cases u with
    | int j => unfold Den at h2; obtain ⟨t', rfl⟩ := h2; unfold eqT; exact EqAt.str_int x t j t'
    | str y => unfold Den at h2; obtain ⟨t', rfl⟩ := h2; unfold eqT; exact EqAt.str_str x t y t'
    | list us =>
      unfold Den at h2; obtain ⟨a, vs, n, rfl, hH, dl⟩ := h2; unfold eqT
      exact EqAt.str_list x t (isList_of (hs _ _ hH)) (by (exact hu))
    | _ => cases d2
  | k + 1, .list ts, u, hk, A, s, v, w, hs, h1, h2, d1, d2, hu => by
    have h1' := h1
    unfold Den at h1
    obtain ⟨a, vs, n, rfl, hH, dl⟩ := h1
    have hL := isList_of (hs _ _ hH)
    unfold depT at hu
    cases u with
    | int j => unfold Den at h2; obtain ⟨t', rfl⟩ := h2; unfold eqT; exact EqAt.list_int j t' hL (by (first | exact Nat.lt_of_add_right_lt hu | lia))
    | str y => unfold Den at h2; obtain ⟨t', rfl⟩ := h2; unfold eqT; exact EqAt.list_str y t' hL (by (first | exact Nat.lt_of_add_right_lt hu | lia))
    | list us =>
      have h2' := h2
      unfold Den at h2
      obtain ⟨b, ws, m, rfl, hH', dl'⟩ := h2
      have hL' := isList_of (hs _ _ hH')
      by_cases hab : a = b
      · subst hab
        have e := Den.inj _ _ _ d1 d2 h1' h2'
        rw [e, eqT_refl _ d2]
        exact EqAt.same _
      · unfold eqT
        unfold datT at d1 d2
        by_cases hsz : vs.size = ws.size
        · have hlen : ts.length = us.length := by rw [← dl.size, ← dl'.size]; exact hsz
          rw [← eqTs_all ts us hlen, ← dl.size]
          refine EqAt.of_refs hab (RcAt.lists hL hL' hsz (by (first | exact Nat.lt_of_add_right_lt hu | lia)) fun j j1 j2 => ?_)
          have jt : j < ts.length := by rw [← dl.size]; exact j1
          have ju : j < us.length := by rw [← dl'.size]; exact j2
          refine eqAt_den k _ _ ?_ A.in1 s _ _ hs (dl.getD j1) (dl'.getD j2) (datTs_get d1 jt) (datTs_get d2 ju) ?_
          · have := sizeT_getD jt
            simp at hk; (first | exact om81 hk this | lia)
          · have := depTs_get jt
            show A.units + 1 + _ < _
            (first | exact om38 hu this | lia)
        · rw [eqTs_len ts us (by rw [← dl.size, ← dl'.size]; exact hsz)]
          exact EqAt.of_refs hab (RcAt.lists_lengths hL hL' (by simpa using hsz) (by (first | exact Nat.lt_of_add_right_lt hu | lia)))
    | _ => cases d2
  | k + 1, .none, _, _, _, _, _, _, _, _, _, h, _, _ => by cases h
  | k + 1, .bool _, _, _, _, _, _, _, _, _, _, h, _, _ => by cases h
  | k + 1, .static _, _, _, _, _, _, _, _, _, _, h, _, _ => by cases h
  | k + 1, .tup _, _, _, _, _, _, _, _, _, _, h, _, _ => by cases h
  | k + 1, .dict _ _, _, _, _, _, _, _, _, _, _, h, _, _ => by cases h
  | k + 1, .range _ _ _, _, _, _, _, _, _, _, _, _, h, _, _ => by cases h

-- the order of lists
noncomputable def LtAt (A : Around) (s : Shared) (y x : Value) (b : Bool) : Prop :=
  ∀ (prog : Program) (w : World) (E : Value → Shared → Prop) (Q : Value → Shared → Prop), Q (.bool b) s → wpAny (model prog w) A (richCompare .Lt y x) Q E s

noncomputable def ltGo (e c : Nat → Bool) (n1 n2 : Nat) : Nat → Nat → Bool
  | 0, _ => decide (n1 < n2)
  | k + 1, i => if i < n1 ∧ i < n2 then (if e i then ltGo e c n1 n2 k (i + 1) else c i) else decide (n1 < n2)

theorem lt_loopAt (l b : Addr) (items items2 : Array Value) (n n2 : Nat) (dd dd2 : Option Addr) (sl sl2 : Array (Option Value)) (e c : Nat → Bool) (k : Nat) :
    ∀ i : Nat, items.size - i = k → (∀ j, j < i → e j = true) → Meets (Builtin.«list.__eq__.loop» ⟨[.ref l, .ref b, rawInt i, rawInt 0], []⟩)
      (fun A R s => s.heap.get? l = some { cls := .type "list", dict := dd, data := .seq items n, slots := sl } ∧ s.heap.get? b = some { cls := .type "list", dict := dd2, data := .seq items2 n2, slots := sl2 } ∧
        (∀ j (h1 : j < items.size) (h2 : j < items2.size), EqAt A.in1 s items[j] items2[j] (e j)) ∧
        (∀ j (h1 : j < items.size) (h2 : j < items2.size), (∀ j', j' < j → e j' = true) → e j = false → LtAt A.in1 s items[j] items2[j] (c j)) ∧
        R (.ok (.ret (.bool (ltGo e c items.size items2.size k i)))) s) := by
  have atEnd : ∀ i k : Nat, ¬ (i < items.size ∧ i < items2.size) → Meets (Builtin.«list.__eq__.loop» ⟨[.ref l, .ref b, rawInt i, rawInt 0], []⟩)
      (fun A R s => s.heap.get? l = some { cls := .type "list", dict := dd, data := .seq items n, slots := sl } ∧ s.heap.get? b = some { cls := .type "list", dict := dd2, data := .seq items2 n2, slots := sl2 } ∧
        (∀ j (h1 : j < items.size) (h2 : j < items2.size), EqAt A.in1 s items[j] items2[j] (e j)) ∧
        (∀ j (h1 : j < items.size) (h2 : j < items2.size), (∀ j', j' < j → e j' = true) → e j = false → LtAt A.in1 s items[j] items2[j] (c j)) ∧
        R (.ok (.ret (.bool (decide (items.size < items2.size))))) s) := by
    intro i k hi prog w A R s h
    obtain ⟨hp, g, d, tk, os⟩ := s; obtain ⟨hl, hb, he, hc, h⟩ := h
    wp_walk using wpAny_loadPart' hl, wpAny_loadPart' hb
    have hn : (items[((i : Nat) : Int).toNat]? = none) ∨ (items2[((i : Nat) : Int).toNat]? = none) := by
      by_cases h1 : i < items.size
      · exact .inr (by simp; (first | exact Nat.le_of_not_lt fun zz => hi ⟨h1, zz⟩ | lia))
      · exact .inl (by simp; (exact Nat.le_of_not_lt h1))
    cases q1 : items[((i : Nat) : Int).toNat]? with
    | none =>
      wp_walk using wpAny_loadPart' hl, wpAny_loadPart' hb
      exact h
    | some x =>
      cases q2 : items2[((i : Nat) : Int).toNat]? with
      | none =>
        wp_walk using wpAny_loadPart' hl, wpAny_loadPart' hb
        exact h
      | some y => rw [q1, q2] at hn; rcases hn with hn | hn <;> cases hn
  induction k with
  | zero =>
    intro i hk _
    exact atEnd i 0 (by (first | exact fun zz => Nat.not_le_of_lt zz.1 (Nat.le_of_sub_eq_zero hk) | lia))
  | succ k ih =>
    intro i hk hpre
    by_cases hin : i < items2.size
    · intro prog w A R s h
      obtain ⟨hp, g, d, tk, os⟩ := s; obtain ⟨hl, hb, he, hc, h⟩ := h
      wp_walk using wpAny_loadPart' hl, wpAny_loadPart' hb
      have hlt : i < items.size := by (first | exact Nat.lt_of_sub_eq_succ hk | omega)
      have hlt2 : i < items2.size := hin
      have hi1 : items[((i : Nat) : Int).toNat]? = some items[i] := by simp [hlt]
      have hi2 : items2[((i : Nat) : Int).toNat]? = some items2[i] := by simp [hlt2]
      have hc1 : ((i : Int) + 1) = ((i + 1 : Nat) : Int) := by push_cast; rfl
      unfold ltGo at h
      rw [if_pos ⟨hlt, hlt2⟩] at h
      rw [hi1, hi2]
      refine wpAny_bind (he i hlt hlt2 prog w _ _ ?_)
      cases hb' : e i with
      | true =>
        rw [hb'] at h
        wp_walk
        rw [hc1]
        exact ⟨plainId_quiet plain_eq_loop _, codeAny_builtin entry_eq_loop (by
          rw [Around.under_plainId plain_eq_loop _]
          exact ih (i + 1) (by (first | exact congrArg Nat.pred hk | lia)) (fun j hj => by
            rcases Nat.lt_succ_iff_lt_or_eq.mp hj with h | h
            · exact hpre j h
            · rw [h]; exact hb') prog w A R _ ⟨hl, hb, he, hc, by simpa using h⟩)⟩
      | false =>
        rw [hb'] at h
        wp_walk using wpAny_loadPart' hl, wpAny_loadPart' hb
        rw [hi1, hi2]
        refine wpAny_bind (hc i hlt hlt2 hpre hb' prog w _ _ ?_)
        wp_walk
        simpa using h
    · have := atEnd i (k + 1) (by (first | exact fun zz => hin zz.2 | lia))
      unfold ltGo
      rw [if_neg (by (first | exact fun zz => hin zz.2 | lia))]
      exact this

theorem list_ltAt (l b : Addr) (items items2 : Array Value) (n n2 : Nat) (dd dd2 : Option Addr) (sl sl2 : Array (Option Value)) (e c : Nat → Bool) :
    Meets (Builtin.«list.__lt__» ⟨[.ref l, .ref b], []⟩)
      (fun A R s => s.heap.get? l = some { cls := .type "list", dict := dd, data := .seq items n, slots := sl } ∧ s.heap.get? b = some { cls := .type "list", dict := dd2, data := .seq items2 n2, slots := sl2 } ∧
        (∀ j (h1 : j < items.size) (h2 : j < items2.size), EqAt A.in1 s items[j] items2[j] (e j)) ∧
        (∀ j (h1 : j < items.size) (h2 : j < items2.size), (∀ j', j' < j → e j' = true) → e j = false → LtAt A.in1 s items[j] items2[j] (c j)) ∧
        R (.ok (.ret (.bool (ltGo e c items.size items2.size items.size 0)))) s) := by
  intro prog w A R s h
  obtain ⟨hp, g, d, tk, os⟩ := s; obtain ⟨hl, hb, he, hc, h⟩ := h
  have f3 := AutoSeq1.sub_list_list
  wp_walk using wpAny_loadPart' hl, wpAny_loadPart' hb
  exact ⟨plainId_quiet plain_eq_loop _, codeAny_builtin entry_eq_loop (by
    rw [Around.under_plainId plain_eq_loop _]
    exact lt_loopAt l b items items2 n n2 dd dd2 sl sl2 e c _ 0 rfl (fun j hj => by lia) prog w A R _ ⟨hl, hb, he, hc, by simpa using h⟩)⟩

theorem LtAt.lists {A : Around} {s : Shared} {l b : Addr} {items items2 : Array Value} {e c : Nat → Bool} (hl : s.heap.IsList l items) (hb : s.heap.IsList b items2) (hu : A.units < cLine)
    (he : ∀ j (h1 : j < items.size) (h2 : j < items2.size), EqAt A.in1 s items[j] items2[j] (e j))
    (hc : ∀ j (h1 : j < items.size) (h2 : j < items2.size), (∀ j', j' < j → e j' = true) → e j = false → LtAt A.in1 s items[j] items2[j] (c j)) :
    LtAt A s (.ref l) (.ref b) (ltGo e c items.size items2.size items.size 0) := fun prog w E Q h => by
  obtain ⟨⟨cls, dd, data, sl⟩, ho, hcl, n, hd⟩ := id hl
  obtain ⟨⟨cls2, dd2, data2, sl2⟩, ho2, hc2, n2, hd2⟩ := id hb
  simp only at hcl hd hc2 hd2
  subst hcl hd hc2 hd2
  exact richCompare_meets_room (op := .Lt) ⟨_, ho, rfl⟩ ⟨_, ho2, rfl⟩ F.slot_list_lt F.entry_list_lt (F.args_list_lt_2 _ _) (list_ltAt l b items items2 n n2 dd dd2 sl sl2 e c)
    ⟨ho, ho2, he, hc, show Value.bool _ ≠ Value.notImplemented ∧ Q (.bool _) s from ⟨(fun x => nomatch x), h⟩⟩ hu

end Mine
end

section
set_option Elab.async false
set_option maxRecDepth 100000
set_option linter.unusedVariables false
namespace Mine
open PySem PySem.W PyProof.Rows PySem.Calls PySem.SeqAt

mutual
noncomputable def ltT : T → T → Bool
  | .int a, .int b => decide (a < b)
  | .str x, .str y => decide (x.cps.toList < y.cps.toList)
  | .list ts, .list us => ltTs ts us
  | _, _ => false
noncomputable def ltTs : List T → List T → Bool
  | [], us => decide (0 < us.length)
  | _ :: _, [] => false
  | t :: ts, u :: us => if eqT t u then ltTs ts us else ltT t u
end
mutual
noncomputable def cmpT : T → T → Bool
  | .int _, .int _ => true
  | .str _, .str _ => true
  | .list ts, .list us => cmpTs ts us
  | _, _ => false
noncomputable def cmpTs : List T → List T → Bool
  | t :: ts, u :: us => if eqT t u then cmpTs ts us else cmpT t u
  | _, _ => true
end

theorem ltGo_eq : ∀ (k : Nat) (ts us : List T) (i : Nat), ts.length - i = k →
    ltGo (fun j => eqT (ts.getD j .none) (us.getD j .none)) (fun j => ltT (ts.getD j .none) (us.getD j .none)) ts.length us.length k i = (if ts.length ≤ i ∧ us.length ≤ i then decide (ts.length < us.length) else ltTs (ts.drop i) (us.drop i))
  | 0, ts, us, i, hk => by
    unfold ltGo
    split
    · rfl
    · rename_i h
      have h1 : ts.length ≤ i := Nat.le_of_sub_eq_zero hk
      have h2 : i < us.length := Nat.lt_of_not_le fun q => h ⟨h1, q⟩
      have hd : ts.drop i = [] := List.drop_eq_nil_of_le h1
      rw [hd]
      unfold ltTs
      rw [List.length_drop]
      exact decide_eq_decide.mpr (iff_of_true (Nat.lt_of_le_of_lt h1 h2) (Nat.sub_pos_of_lt h2))
  | k + 1, ts, us, i, hk => by
    have hi : i < ts.length := Nat.lt_of_sub_eq_succ hk
    have hr : (if ts.length ≤ i ∧ us.length ≤ i then decide (ts.length < us.length) else ltTs (ts.drop i) (us.drop i)) = ltTs (ts.drop i) (us.drop i) := if_neg fun q => Nat.not_le.mpr hi q.1
    rw [hr]
    unfold ltGo
    have hd : ts.drop i = ts[i] :: ts.drop (i + 1) := List.drop_eq_getElem_cons hi
    by_cases hu : i < us.length
    · rw [if_pos ⟨hi, hu⟩]
      have hd2 : us.drop i = us[i] :: us.drop (i + 1) := List.drop_eq_getElem_cons hu
      have g1 : ts.getD i .none = ts[i] := by simp [List.getD, hi]
      have g2 : us.getD i .none = us[i] := by simp [List.getD, hu]
      rw [hd, hd2, g1, g2]
      rw [ltTs]
      split
      · rw [ltGo_eq k ts us (i + 1) (by (first | exact congrArg Nat.pred hk | omega))]
        split
        · rename_i h
          have e1 : ts.drop (i + 1) = [] := List.drop_eq_nil_of_le h.1
          have e2 : us.drop (i + 1) = [] := List.drop_eq_nil_of_le h.2
          rw [e1, e2]
          have : ¬ ts.length < us.length := Nat.not_lt.mpr (Nat.le_trans h.2 hi)
          rw [decide_eq_false this]; rfl
        · rfl
      · rfl
    · rw [if_neg fun q => hu q.2]
      have hd2 : us.drop i = [] := List.drop_eq_nil_of_le (Nat.le_of_not_lt hu)
      rw [hd, hd2, ltTs]
      exact decide_eq_false (Nat.not_lt.mpr (Nat.le_trans (Nat.le_of_not_lt hu) (Nat.le_of_lt hi)))
theorem ltGo_all (ts us : List T) : ltGo (fun j => eqT (ts.getD j .none) (us.getD j .none)) (fun j => ltT (ts.getD j .none) (us.getD j .none)) ts.length us.length ts.length 0 = ltTs ts us := by
  rw [ltGo_eq _ ts us 0 (by rfl)]
  split
  · rename_i h
    have e1 : ts = [] := List.length_eq_zero_iff.mp (by (first | exact Nat.le_zero.mp h.1 | lia))
    have e2 : us = [] := List.length_eq_zero_iff.mp (by (first | exact Nat.le_zero.mp h.2 | lia))
    subst e1; subst e2; rfl
  · rfl

theorem cmpTs_get : ∀ {ts us : List T} {j : Nat}, cmpTs ts us = true → j < ts.length → j < us.length → (∀ j', j' < j → eqT (ts.getD j' .none) (us.getD j' .none) = true) → eqT (ts.getD j .none) (us.getD j .none) = false → cmpT (ts.getD j .none) (us.getD j .none) = true
  | t :: ts, u :: us, 0, h, _, _, _, he => by
    have he : eqT t u = false := he
    unfold cmpTs at h
    rw [he] at h
    simpa using h
  | t :: ts, u :: us, j + 1, h, h1, h2, hp, he => by
    unfold cmpTs at h
    have h0 : eqT t u = true := hp 0 (by (exact Nat.succ_pos _))
    rw [h0, if_pos rfl] at h
    exact cmpTs_get (ts := ts) (us := us) (j := j) h (by simpa using h1) (by simpa using h2) (fun j' hj' => hp (j' + 1) (by (exact Nat.lt_succ_of_le hj'))) he

theorem ltAt_den {H : PHeap} : ∀ (k : Nat) (t u : T), sizeOf t ≤ k → ∀ (A : Around) (s : Shared) (v w : Value), (∀ a o, H a = some o → s.heap.get? a = some o) → Den H t v → Den H u w → datT t = true → datT u = true → cmpT t u = true →
    A.units + depT t < cLine → LtAt A s v w (ltT t u)
  | 0, t, u, hk, A, s, v, w, hs, h1, h2, d1, d2, hc, hu => by cases t <;> simp at hk
  | k + 1, .int i, .int j, hk, A, s, v, w, hs, h1, h2, d1, d2, hc, hu => by
    unfold Den at h1 h2
    obtain ⟨t, rfl⟩ := h1
    obtain ⟨t', rfl⟩ := h2
    intro prog w E Q hq
    unfold ltT at hq
    exact lt_int hq
  | k + 1, .str x, .str y, hk, A, s, v, w, hs, h1, h2, d1, d2, hc, hu => by
    unfold Den at h1 h2
    obtain ⟨t, rfl⟩ := h1
    obtain ⟨t', rfl⟩ := h2
    intro prog w E Q hq
    unfold ltT at hq
    exact lt_str hq
  | k + 1, .list ts, .list us, hk, A, s, v, w, hs, h1, h2, d1, d2, hc, hu => by
    unfold Den at h1 h2
    obtain ⟨a, vs, n, rfl, hH, dl⟩ := h1
    obtain ⟨b, ws, m, rfl, hH', dl'⟩ := h2
    have hL := isList_of (hs _ _ hH)
    have hL' := isList_of (hs _ _ hH')
    unfold depT at hu
    unfold datT at d1 d2
    unfold cmpT at hc
    unfold ltT
    rw [← ltGo_all ts us]
    have e1 := dl.size
    have e2 := dl'.size
    rw [← e1, ← e2]
    refine LtAt.lists hL hL' (by (first | exact Nat.lt_of_add_right_lt hu | lia)) (fun j j1 j2 => ?_) fun j j1 j2 hp he => ?_
    · have jt : j < ts.length := by (first | exact Nat.lt_of_lt_of_eq j1 e1 | lia)
      have ju : j < us.length := by (first | exact Nat.lt_of_lt_of_eq j2 e2 | lia)
      refine eqAt_den _ _ _ (Nat.le_refl _) A.in1 s _ _ hs (dl.getD j1) (dl'.getD j2) (datTs_get d1 jt) (datTs_get d2 ju) ?_
      have := depTs_get jt
      show A.units + 1 + _ < _
      (first | exact om38 hu this | lia)
    · have jt : j < ts.length := by (first | exact Nat.lt_of_lt_of_eq j1 e1 | lia)
      have ju : j < us.length := by (first | exact Nat.lt_of_lt_of_eq j2 e2 | lia)
      refine ltAt_den k _ _ ?_ A.in1 s _ _ hs (dl.getD j1) (dl'.getD j2) (datTs_get d1 jt) (datTs_get d2 ju) (cmpTs_get hc jt ju hp he) ?_
      · have := sizeT_getD jt
        simp at hk; (first | exact om81 hk this | lia)
      · have := depTs_get jt
        show A.units + 1 + _ < _
        (first | exact om38 hu this | lia)
  | k + 1, .int _, .str _, _, _, _, _, _, _, _, _, _, _, hc, _ => by simp [cmpT] at hc
  | k + 1, .int _, .list _, _, _, _, _, _, _, _, _, _, _, hc, _ => by simp [cmpT] at hc
  | k + 1, .str _, .int _, _, _, _, _, _, _, _, _, _, _, hc, _ => by simp [cmpT] at hc
  | k + 1, .str _, .list _, _, _, _, _, _, _, _, _, _, _, hc, _ => by simp [cmpT] at hc
  | k + 1, .list _, .int _, _, _, _, _, _, _, _, _, _, _, hc, _ => by simp [cmpT] at hc
  | k + 1, .list _, .str _, _, _, _, _, _, _, _, _, _, _, hc, _ => by simp [cmpT] at hc
  | k + 1, .none, _, _, _, _, _, _, _, _, _, h, _, _, _ => by cases h
  | k + 1, .bool _, _, _, _, _, _, _, _, _, _, h, _, _, _ => by cases h
  | k + 1, .static _, _, _, _, _, _, _, _, _, _, h, _, _, _ => by cases h
  | k + 1, .tup _, _, _, _, _, _, _, _, _, _, h, _, _, _ => by cases h
  | k + 1, .dict _ _, _, _, _, _, _, _, _, _, _, h, _, _, _ => by cases h
  | k + 1, .range _ _ _, _, _, _, _, _, _, _, _, _, h, _, _, _ => by cases h
  | k + 1, .int _, .none, _, _, _, _, _, _, _, _, _, h, _, _ => by cases h
  | k + 1, .int _, .bool _, _, _, _, _, _, _, _, _, _, h, _, _ => by cases h
  | k + 1, .int _, .static _, _, _, _, _, _, _, _, _, _, h, _, _ => by cases h
  | k + 1, .int _, .tup _, _, _, _, _, _, _, _, _, _, h, _, _ => by cases h
  | k + 1, .int _, .dict _ _, _, _, _, _, _, _, _, _, _, h, _, _ => by cases h
  | k + 1, .int _, .range _ _ _, _, _, _, _, _, _, _, _, _, h, _, _ => by cases h
  | k + 1, .str _, .none, _, _, _, _, _, _, _, _, _, h, _, _ => by cases h
  | k + 1, .str _, .bool _, _, _, _, _, _, _, _, _, _, h, _, _ => by cases h
  | k + 1, .str _, .static _, _, _, _, _, _, _, _, _, _, h, _, _ => by cases h
  | k + 1, .str _, .tup _, _, _, _, _, _, _, _, _, _, h, _, _ => by cases h
  | k + 1, .str _, .dict _ _, _, _, _, _, _, _, _, _, _, h, _, _ => by cases h
  | k + 1, .str _, .range _ _ _, _, _, _, _, _, _, _, _, _, h, _, _ => by cases h
  | k + 1, .list _, .none, _, _, _, _, _, _, _, _, _, h, _, _ => by cases h
  | k + 1, .list _, .bool _, _, _, _, _, _, _, _, _, _, h, _, _ => by cases h
  | k + 1, .list _, .static _, _, _, _, _, _, _, _, _, _, h, _, _ => by cases h
  | k + 1, .list _, .tup _, _, _, _, _, _, _, _, _, _, h, _, _ => by cases h
  | k + 1, .list _, .dict _ _, _, _, _, _, _, _, _, _, _, h, _, _ => by cases h
  | k + 1, .list _, .range _ _ _, _, _, _, _, _, _, _, _, _, h, _, _ => by cases h

section
variable {C : Cx} {n : Nat} {O : List Ob} {Φ : D → List Ob → Prop} {t u : T}

theorem room_units {A : Around} (rm : Room n A) {d : Nat} (hd : d ≤ 60) : A.units + d < cLine := by
  have := rm.units
  have e : cLine = 9900 := rfl
  (first | exact Nat.lt_of_lt_of_eq (zLt (Nat.add_le_add (Nat.le_of_add_right_le this) hd) rfl) e.symm | lia)

theorem C_lt (d1 : datT t = true) (d2 : datT u = true) (hc : cmpT t u = true) (hd : depT t ≤ 60) (h : Φ (.val (.bool (ltT t u))) O) : WPt C n O [.val t, .val u] (opC .Lt) Φ := WPt_2 fun A H as s E v w rm M h1 h2 => by
  exact cmp_ofLt (ltAt_den _ t u (Nat.le_refl _) A s v w M.sat h1 h2 d1 d2 hc (room_units rm hd) _ _ _ _ (after_bool M h))

theorem C_eqL {ts us : List T} (d1 : datTs ts = true) (d2 : datTs us = true) (hd : depTs ts ≤ 40) (h : Φ (.val (.bool (eqTs ts us))) O) : WPt C n O [.val (.list ts), .val (.list us)] (opC .Eq) Φ := WPt_2 fun A H as s E v w rm M h1 h2 => by
  unfold DenD Den at h1 h2
  obtain ⟨a, vs, n, rfl, hH, dl⟩ := h1
  obtain ⟨b, ws, m, rfl, hH', dl'⟩ := h2
  have hL := isList_of (M.sat _ _ hH)
  have hL' := isList_of (M.sat _ _ hH')
  have e1 := dl.size
  have e2 := dl'.size
  refine cmp_ofEq ?_
  by_cases hsz : vs.size = ws.size
  · have hlen : ts.length = us.length := by (first | exact e1.symm.trans (hsz.trans e2) | lia)
    refine RcAt.lists (e := fun j => eqT (ts.getD j .none) (us.getD j .none)) hL hL' hsz (room_units rm (d := 0) (by (exact Nat.le_add_left _ _))) (fun j j1 j2 => ?_) _ _ _ _ ?_
    · have jt : j < ts.length := by (first | exact Nat.lt_of_lt_of_eq j1 e1 | lia)
      have ju : j < us.length := by (first | exact Nat.lt_of_lt_of_eq j1 (hsz.trans e2) | lia)
      refine eqAt_den _ _ _ (Nat.le_refl _) A.in1 s _ _ M.sat (dl.getD j1) (dl'.getD j2) (datTs_get d1 jt) (datTs_get d2 ju) ?_
      have := depTs_get jt
      have := room_units rm (d := 60) (by (exact Nat.le_refl _))
      show A.units + 1 + _ < _
      (first | exact om120 this hd (by assumption) | lia)
    · rw [e1, eqTs_all ts us hlen]
      exact after_bool M h
  · refine RcAt.lists_lengths hL hL' (by simpa using hsz) (room_units rm (d := 0) (by (exact Nat.le_add_left _ _))) _ _ _ _ ?_
    rw [eqTs_len ts us (by (first | exact fun ze => hsz (e1.trans (ze.trans e2.symm)) | lia))] at h
    exact after_bool M h
theorem C_neL {ts us : List T} (d1 : datTs ts = true) (d2 : datTs us = true) (hd : depTs ts ≤ 40) (h : Φ (.val (.bool (!eqTs ts us))) O) : WPt C n O [.val (.list ts), .val (.list us)] (opC .NotEq) Φ := WPt_2 fun A H as s E v w rm M h1 h2 => by
  unfold DenD Den at h1 h2
  obtain ⟨a, vs, n, rfl, hH, dl⟩ := h1
  obtain ⟨b, ws, m, rfl, hH', dl'⟩ := h2
  have hL := isList_of (M.sat _ _ hH)
  have hL' := isList_of (M.sat _ _ hH')
  have e1 := dl.size
  have e2 := dl'.size
  refine cmp_ofNotEq ?_
  by_cases hsz : vs.size = ws.size
  · have hlen : ts.length = us.length := by (first | exact e1.symm.trans (hsz.trans e2) | lia)
    refine RcNeAt.lists (e := fun j => eqT (ts.getD j .none) (us.getD j .none)) hL hL' hsz (room_units rm (d := 0) (by (exact Nat.le_add_left _ _))) (fun j j1 j2 => ?_) _ _ _ _ ?_
    · have jt : j < ts.length := by (first | exact Nat.lt_of_lt_of_eq j1 e1 | lia)
      have ju : j < us.length := by (first | exact Nat.lt_of_lt_of_eq j1 (hsz.trans e2) | lia)
      refine eqAt_den _ _ _ (Nat.le_refl _) A.in1 s _ _ M.sat (dl.getD j1) (dl'.getD j2) (datTs_get d1 jt) (datTs_get d2 ju) ?_
      have := depTs_get jt
      have := room_units rm (d := 60) (by (exact Nat.le_refl _))
      show A.units + 1 + _ < _
      (first | exact om120 this hd (by assumption) | lia)
    · rw [e1, eqTs_all ts us hlen]
      exact after_bool M h
  · refine RcNeAt.lists_lengths hL hL' (by simpa using hsz) (room_units rm (d := 0) (by (first | exact Nat.zero_le _ | lia))) _ _ _ _ ?_
    rw [eqTs_len ts us (by (first | exact fun ze => hsz (e1.trans (ze.trans e2.symm)) | lia))] at h
    exact after_bool M h

theorem any_den {H : PHeap} {x : T} (dx : datT x = true) {e : Value → Bool} (he : ∀ y t, Den H t y → datT t = true → e y = eqT t x) : ∀ {ts : List T} {vs : List Value}, DenL H ts vs → datTs ts = true → vs.any e = ts.any (fun t => eqT t x)
  | [], vs, h, _ => by rw [DenL.nil_iff] at h; subst h; rfl
  | t :: ts, vs, h, hd => by
    unfold datTs at hd
    rw [Bool.and_eq_true] at hd
    rw [DenL.cons_iff] at h
    obtain ⟨v, r, rfl, h1, h2⟩ := h
    rw [List.any_cons, List.any_cons, he v t h1 hd.1, any_den dx he h2 hd.2]
open Classical in
theorem C_inGen {ts : List T} {d : D} {x : T} (dx : datT x = true) (dt : datTs ts = true) (hd : depTs ts ≤ 40) (hl : listD O d = some ts) {A H as s v w} (rm : Room n A) (M : Mem C A H as O s) (h1 : DenD H as (.val x) v) (h2 : DenD H as d w) :
    ∃ l items e, w = .ref l ∧ s.heap.IsList l items ∧ (∀ y, y ∈ items → EqAt A.in1 s y v (e y)) ∧ items.any e = ts.any (fun t => eqT t x) := by
  obtain ⟨a, vs, k, rfl, g, dl⟩ := listD_at M hl h2
  let e : Value → Bool := fun y => decide (∃ t, Den H t y ∧ datT t = true ∧ eqT t x = true)
  have he : ∀ y t, Den H t y → datT t = true → e y = eqT t x := fun y t hy hdt => by
    cases q : eqT t x with
    | true => exact decide_eq_true ⟨t, hy, hdt, q⟩
    | false =>
      refine decide_eq_false ?_
      rintro ⟨t', hy', hdt', q'⟩
      rw [Den.inj t' t y hdt' hdt hy' hy, q] at q'; cases q'
  refine ⟨a, vs, e, rfl, isList_of g, fun y hy => ?_, ?_⟩
  · obtain ⟨j, hj, rfl⟩ := Array.getElem_of_mem hy
    have jt : j < ts.length := by rw [← dl.size]; exact hj
    rw [he _ _ (dl.getD hj) (datTs_get dt jt)]
    refine eqAt_den _ _ _ (Nat.le_refl _) A.in1 s _ _ M.sat (dl.getD hj) h1 (datTs_get dt jt) dx ?_
    have := depTs_get jt
    have := room_units rm (d := 60) (by (exact Nat.le_refl _))
    show A.units + 1 + _ < _
    (first | exact om120 this hd (by assumption) | lia)
  · rw [← Array.any_toList]
    exact any_den dx he dl dt
theorem C_in {ts : List T} {d : D} {x : T} (dx : datT x = true) (dt : datTs ts = true) (hd : depTs ts ≤ 40) (hl : listD O d = some ts) (h : Φ (.val (.bool (ts.any fun t => eqT t x))) O) : WPt C n O [.val x, d] (opC .In) Φ := WPt_2 fun A H as s E v w rm M h1 h2 => by
  obtain ⟨l, items, e, rfl, hL, he, ha⟩ := C_inGen dx dt hd hl rm M h1 h2
  refine in_listAt e hL he ?_
  rw [ha]
  exact after_bool M h
end
end Mine
end

section
set_option Elab.async false
set_option maxRecDepth 100000
set_option linter.unusedVariables false
namespace Mine
open PySem PySem.W PyProof.Rows PySem.Calls

section
variable {C : Cx} {n : Nat} {O : List Ob} {Φ : D → List Ob → Prop}

theorem kws_nil {kvs : List (Str × Value)} (h : kvs.map (·.1) = ([] : List (Str × D)).map (·.1)) : kvs = [] := by simpa using h

theorem ConB_1 {fv d} (h : ∀ A H as s E v, Room n A → Mem C A H as O s → DenD H as d v → wpAny (model C.prog C.w) A (call fv [v] []) (After C A [] H as s Φ) E s) : ConB C n fv O [d] [] Φ := fun A H as s vs kvs E rm M h1 h2 h3 => by
  obtain rfl := kws_nil h2
  obtain ⟨v, rfl, d1⟩ := dens1 h1
  exact h A H as s E v rm M d1
theorem ConB_2 {fv d e} (h : ∀ A H as s E v u, Room n A → Mem C A H as O s → DenD H as d v → DenD H as e u → wpAny (model C.prog C.w) A (call fv [v, u] []) (After C A [] H as s Φ) E s) : ConB C n fv O [d, e] [] Φ := fun A H as s vs kvs E rm M h1 h2 h3 => by
  obtain rfl := kws_nil h2
  obtain ⟨v, u, rfl, d1, d2⟩ := dens2 h1
  exact h A H as s E v u rm M d1 d2
theorem ConB_3 {fv d e f} (h : ∀ A H as s E v u w, Room n A → Mem C A H as O s → DenD H as d v → DenD H as e u → DenD H as f w → wpAny (model C.prog C.w) A (call fv [v, u, w] []) (After C A [] H as s Φ) E s) : ConB C n fv O [d, e, f] [] Φ := fun A H as s vs kvs E rm M h1 h2 h3 => by
  obtain rfl := kws_nil h2
  obtain ⟨v, u, w, rfl, d1, d2, d3⟩ := dens3 h1
  exact h A H as s E v u w rm M d1 d2 d3

theorem upd_list {H as s i a items k ts ts'} {f : Array Value → Array Value} (M : Mem C A H as O s) (ha : as[i]? = some a) (hO : O[i]? = some (Ob.list ts)) (g : s.heap.get? a = some (listO items k)) (dl : DenL H ts' (f items).toList) {tk : Nat} :
    Mem C A H as (O.set i (Ob.list ts')) { s with heap := s.heap.update a (Obj.mapSeq f), toks := tk } ∧ ∀ X, Rel X H as s H as { s with heap := s.heap.update a (Obj.mapSeq f), toks := tk } := by
  have g' := Heap.get?_update_self (Obj.mapSeq f) g rfl
  have hn : H a = none := (M.obs i a _ ha hO).1
  exact M.upd (s' := { s with heap := s.heap.update a (Obj.mapSeq f), toks := tk }) ha ⟨hn, _, _, g', dl⟩ ⟨_, g'⟩ (fun b o hb e => by show (s.heap.update a _).get? b = some o; rw [Heap.get?_update_other _ _ (Ne.symm hb)]; exact e) hn rfl rfl

theorem own_at {H as s i ts v} (M : Mem C A H as O s) (hO : O[i]? = some (Ob.list ts)) (hv : DenD H as (.ref i) v) : ∃ a items k, as[i]? = some a ∧ v = .ref a ∧ s.heap.get? a = some (listO items k) ∧ DenL H ts items.toList := by
  obtain ⟨a, ha, rfl⟩ := hv
  obtain ⟨_, vs, k, g, dl⟩ := M.obs i a _ ha hO
  exact ⟨a, vs, k, ha, rfl, g, dl⟩

theorem F_append {i : Nat} {ts : List T} {t : T} (hO : O[i]? = some (Ob.list ts)) (hsz : ts.length ≤ sizeLine) (h : Φ (.val .none) (O.set i (.list (ts ++ [t])))) :
    ConB C n (.builtin "list.append") O [.ref i, .val t] [] Φ := ConB_2 fun A H as s E v u rm M d1 d2 => by
  obtain ⟨a, items, k, ha, rfl, g, dl⟩ := own_at M hO d1
  have hsz' : items.size ≤ sizeLine := by rw [dl.size]; exact hsz
  refine call_meets F.slot_list_append ⟨_, g, rfl⟩ F.entry_list_append (F.args_list_append_2 _ _) (PySem.list_append a items k u hsz') ⟨g, ?_⟩
  obtain ⟨M', R'⟩ := upd_list (f := fun x => x.push u) (tk := s.toks) M ha hO g (ts' := ts ++ [t]) (by rw [Array.toList_push]; exact dl.append (.cons d2 .nil))
  exact ⟨_, _, H, as, h, M', isNone, R' _⟩

theorem eraseIdx_den {H : PHeap} : ∀ {ts : List T} {vs : List Value} (k : Nat), DenL H ts vs → DenL H (ts.eraseIdx k) (vs.eraseIdx k)
  | [], vs, k, h => by rw [DenL.nil_iff] at h; subst h; simpa using DenL.nil
  | t :: ts, vs, 0, h => by
    rw [DenL.cons_iff] at h
    obtain ⟨v, r, rfl, h1, h2⟩ := h
    simpa using h2
  | t :: ts, vs, k + 1, h => by
    rw [DenL.cons_iff] at h
    obtain ⟨v, r, rfl, h1, h2⟩ := h
    simpa using DenL.cons h1 (eraseIdx_den k h2)

theorem F_pop {i : Nat} {ts : List T} {t : T} {j : Int} (hO : O[i]? = some (Ob.list ts)) (h0 : 0 ≤ j) (hj : ts[j.toNat]? = some t) (hsz : ts.length ≤ sizeLine) (h : Φ (.val t) (O.set i (.list (ts.eraseIdx j.toNat)))) :
    ConB C n (.builtin "list.pop") O [.ref i, .val (.int j)] [] Φ := ConB_2 fun A H as s E v u rm M d1 d2 => by
  obtain ⟨a, items, k, ha, rfl, g, dl⟩ := own_at M hO d1
  obtain ⟨u, rfl⟩ := denInt d2
  obtain ⟨y, hy, dy⟩ := dl.get hj
  have hlt : j.toNat < ts.length := (List.getElem?_eq_some_iff.mp hj).1
  have hsz' : items.size ≤ sizeLine := by rw [dl.size]; exact hsz
  have hs24 : sizeLine = 16777216 := rfl
  have hk : seqIndex? j items.size = some j.toNat := by
    unfold seqIndex?
    rw [dl.size]
    simp only [show ¬ j < 0 by (first | exact Int.not_lt_of_ge h0 | lia), if_false]
    first
      | (rw [if_pos (by lia)])
      | (simp; lia)
  refine call_meets F.slot_list_pop ⟨_, g, rfl⟩ F.entry_list_pop (F.args_list_pop_2 _ _) (MeetsSeq.list_pop_at a items k j u j.toNat y (by simp [Builtin.List.listFitsIndex]; (first | exact ⟨zLo h0, Int.lt_of_lt_of_le ((Int.toNat_lt h0).mp hlt) (Int.ofNat_le.mpr (zLe (Nat.le_trans hsz (Nat.le_of_eq hs24)) rfl))⟩ | lia)) hk (by simpa using hy) hsz') ⟨g, ?_⟩
  obtain ⟨M', R'⟩ := upd_list (f := fun xs => xs.eraseIdxIfInBounds j.toNat) (tk := s.toks) M ha hO g (ts' := ts.eraseIdx j.toNat) (by
    have hb : j.toNat < items.size := by rw [dl.size]; exact hlt
    have e : (items.eraseIdxIfInBounds j.toNat).toList = items.toList.eraseIdx j.toNat := by
      unfold Array.eraseIdxIfInBounds
      rw [dif_pos hb, Array.toList_eraseIdx]
    rw [e]; exact eraseIdx_den _ dl)
  exact ⟨_, _, H, as, h, M', dy, R' _⟩

noncomputable def insT {α : Type} (ts : List α) (j : Nat) (t : α) : List α := ts.take j ++ t :: ts.drop j
theorem F_insert {i : Nat} {ts : List T} {t : T} {j : Int} (hO : O[i]? = some (Ob.list ts)) (h0 : 0 ≤ j) (hj : j ≤ ts.length) (hsz : ts.length ≤ sizeLine) (h : Φ (.val .none) (O.set i (.list (insT ts j.toNat t)))) :
    ConB C n (.builtin "list.insert") O [.ref i, .val (.int j), .val t] [] Φ := ConB_3 fun A H as s E v u x rm M d1 d2 d3 => by
  obtain ⟨a, items, k, ha, rfl, g, dl⟩ := own_at M hO d1
  obtain ⟨u, rfl⟩ := denInt d2
  have hsz' : items.size ≤ sizeLine := by rw [dl.size]; exact hsz
  have hs24 : sizeLine = 16777216 := rfl
  refine call_meets F.slot_list_insert ⟨_, g, rfl⟩ F.entry_list_insert (F.args_list_insert_3 _ _ _) (PySem.AutoListH.list_insert_list_int_val_1 a items k j u x (by simp [Builtin.List.listFitsIndex]; (first | exact ⟨zLo h0, Int.lt_of_le_of_lt hj (Int.ofNat_lt.mpr (zLt (Nat.le_trans hsz (Nat.le_of_eq hs24)) rfl))⟩ | lia)) hsz') ⟨g, ?_⟩
  obtain ⟨M', R'⟩ := upd_list (f := fun xs => have k := if j < 0 then (j + ((xs.size : Nat) : Int)).toNat else min j.toNat xs.size; (xs.extract 0 k).push x ++ xs.extract k) (tk := s.toks) M ha hO g (ts' := insT ts j.toNat t) (by
    have hb : j.toNat ≤ items.size := by rw [dl.size]; (first | exact Int.toNat_le.mpr hj | lia)
    have e : (if j < 0 then (j + ((items.size : Nat) : Int)).toNat else min j.toNat items.size) = j.toNat := by
      rw [if_neg (by (first | exact Int.not_lt_of_ge h0 | lia))]; (first | exact Nat.min_eq_left hb | lia)
    dsimp only
    rw [e]
    unfold insT
    have e2 : ((items.extract 0 j.toNat).push x ++ items.extract j.toNat).toList = items.toList.take j.toNat ++ x :: items.toList.drop j.toNat := by
      simp
      try (rw [List.take_of_length_le (by simp)])
    rw [e2]
    exact (dl.take _).append (.cons d3 (dl.drop _)))
  exact ⟨_, _, H, as, h, M', isNone, R' _⟩

theorem F_extendL {i : Nat} {ts us : List T} {d : D} (hO : O[i]? = some (Ob.list ts)) (hd : listD O d = some us) (hne : d ≠ .ref i) (hsz : ts.length + us.length ≤ sizeLine) (h : Φ (.val .none) (O.set i (.list (ts ++ us)))) :
    ConB C n (.builtin "list.extend") O [.ref i, d] [] Φ := ConB_2 fun A H as s E v u rm M d1 d2 => by
  obtain ⟨a, items, k, ha, rfl, g, dl⟩ := own_at M hO d1
  obtain ⟨b, items2, k2, rfl, g2, dl2⟩ := listD_at M hd d2
  have e1 := dl.size
  have e2 := dl2.size
  refine call_meets F.slot_list_extend ⟨_, g, rfl⟩ F.entry_list_extend (F.args_list_extend_2 _ _) (PySem.AutoSeq1.list_extend_list_list_0 a items k b items2 k2 (by simp [Builtin.List.listTooLong]; lia) (by (first | exact zEq e1 (Nat.le_of_add_right_le hsz) | lia)) (by (first | exact om150 hsz e1 e2 | lia))) ⟨g, g2, ?_⟩
  obtain ⟨M', R'⟩ := upd_list (f := fun x => x ++ items2) (tk := s.toks) M ha hO g (ts' := ts ++ us) (by rw [Array.toList_append]; exact dl.append dl2)
  exact ⟨_, _, H, as, h, M', isNone, R' _⟩
theorem F_extendT {i : Nat} {ts us : List T} (hO : O[i]? = some (Ob.list ts)) (hsz : ts.length + us.length ≤ sizeLine) (h : Φ (.val .none) (O.set i (.list (ts ++ us)))) :
    ConB C n (.builtin "list.extend") O [.ref i, .val (.tup us)] [] Φ := ConB_2 fun A H as s E v u rm M d1 d2 => by
  obtain ⟨a, items, k, ha, rfl, g, dl⟩ := own_at M hO d1
  unfold DenD Den at d2
  obtain ⟨b, items2, k2, rfl, hH, dl2⟩ := d2
  have e1 := dl.size
  have e2 := dl2.size
  refine call_meets F.slot_list_extend ⟨_, g, rfl⟩ F.entry_list_extend (F.args_list_extend_2 _ _) (PySem.AutoSeq1.list_extend_list_tuple_0 a items k b items2 k2 (by simp [Builtin.List.listTooLong]; lia) (by (first | exact zEq e1 (Nat.le_of_add_right_le hsz) | lia)) (by (first | exact om150 hsz e1 e2 | lia))) ⟨g, M.sat _ _ hH, ?_⟩
  obtain ⟨M', R'⟩ := upd_list (f := fun x => x ++ items2) (tk := s.toks) M ha hO g (ts' := ts ++ us) (by rw [Array.toList_append]; exact dl.append dl2)
  exact ⟨_, _, H, as, h, M', isNone, R' _⟩

theorem F_len {d : D} {ts : List T} (hd : listD O d = some ts) (hsz : ts.length < 2 ^ 62) (h : Φ (.val (.int ts.length)) O) : ConB C n (.builtin "len") O [d] [] Φ := ConB_1 fun A H as s E v rm M d1 => by
  obtain ⟨a, items, k, rfl, g, dl⟩ := listD_at M hd d1
  refine Calls.call_len_list (isList_of g) (by rw [dl.size]; (first | exact z63 (Nat.le_of_lt hsz) rfl | lia)) ?_
  rw [dl.size]
  exact after_int M h

theorem F_range1 {b : Int} (h : Φ (.val (.range 0 b 1)) O) : ConB C n (.type "range") O [.val (.int b)] [] Φ := ConB_1 fun A H as s E v rm M d1 => by
  obtain ⟨t, rfl⟩ := denInt d1
  refine call_range_1 ?_
  obtain ⟨M₂, R₂⟩ := M.put (o := rangeO 0 b 1 s.toks t (s.toks + 1)) (s' := { s with heap := s.heap.push (rangeO 0 b 1 s.toks t (s.toks + 1)), toks := s.toks + 1 + 1 }) (get?_size _) (Heap.get?_push_size _ rfl) (fun b o e => Heap.get?_push_of_some _ e) rfl rfl
  exact ⟨_, O, _, as, h, M₂, by unfold DenD Den; exact ⟨_, _, _, _, rfl, PHeap.put_self⟩, R₂ _⟩
theorem F_range2 {a b : Int} (h : Φ (.val (.range a b 1)) O) : ConB C n (.type "range") O [.val (.int a), .val (.int b)] [] Φ := ConB_2 fun A H as s E v u rm M d1 d2 => by
  obtain ⟨t, rfl⟩ := denInt d1
  obtain ⟨u, rfl⟩ := denInt d2
  refine call_range_2 ?_
  obtain ⟨M₂, R₂⟩ := M.put (o := rangeO a b 1 t u s.toks) (s' := { s with heap := s.heap.push (rangeO a b 1 t u s.toks), toks := s.toks + 1 }) (get?_size _) (Heap.get?_push_size _ rfl) (fun b o e => Heap.get?_push_of_some _ e) rfl rfl
  exact ⟨_, O, _, as, h, M₂, by unfold DenD Den; exact ⟨_, _, _, _, rfl, PHeap.put_self⟩, R₂ _⟩
theorem F_strI {a : Int} (hs : a.natAbs.log2 < 1920) (h : Φ (.val (.str (Str.ofString (toString a)))) O) : ConB C n (.type "str") O [.val (.int a)] [] Φ := ConB_1 fun A H as s E v rm M d1 => by
  obtain ⟨t, rfl⟩ := denInt d1
  exact P.str_of_int hs (after_str M h)
theorem F_strS {x : Str} (h : Φ (.val (.str x)) O) : ConB C n (.type "str") O [.val (.str x)] [] Φ := ConB_1 fun A H as s E v rm M d1 => by
  obtain ⟨t, rfl⟩ := denStr d1
  exact P.str_of_str ⟨_, O, H, as, h, M, isStr, Rel.refl⟩
theorem F_intB {b : Bool} (h : Φ (.val (.int (if b then 1 else 0))) O) : ConB C n (.type "int") O [.val (.bool b)] [] Φ := ConB_1 fun A H as s E v rm M d1 => by
  obtain rfl := denBool d1
  exact call_int_bool (after_int M h)
theorem F_list {d : D} {ts : List T} (hd : listD O d = some ts) (hsz : ts.length ≤ sizeLine) (h : Φ (.ref O.length) (O ++ [.list ts])) : ConB C n (.type "list") O [d] [] Φ := ConB_1 fun A H as s E v rm M d1 => by
  obtain ⟨a, items, k, rfl, g, dl⟩ := listD_at M hd d1
  refine call_list_seq a (.inl rfl) g rfl rfl (fun h' c' hk hD => ?_) (by rw [dl.size]; exact hsz)
  have hn := get?_size s.heap
  obtain ⟨M₂, R₂⟩ := M.own (ob := .list ts) (s' := { s with heap := h' }) hn ⟨M.fresh_none hn, items, c', hD, dl⟩ ⟨_, hD⟩ hk rfl rfl
  refine ⟨_, _, _, _, h, M₂, ⟨_, ?_, rfl⟩, R₂ _⟩
  rw [← M.len, List.getElem?_append_right (Nat.le_refl _)]; simp

noncomputable def numsT : List T → Option (List Int)
  | [] => some []
  | .int i :: r => (numsT r).map (i :: ·)
  | _ => none
theorem numsT_get : ∀ {ts : List T} {ns : List Int}, numsT ts = some ns → ∀ {i : Nat} {t : T}, ts[i]? = some t → t = .int (ns.getD i 0)
  | [], ns, _, i, t, e => by simp at e
  | .int j :: r, ns, h, i, t, e => by
    unfold numsT at h
    obtain ⟨ns', h', rfl⟩ := Option.map_eq_some_iff.mp h
    cases i with
    | zero => simp at e; subst e; rfl
    | succ i => exact numsT_get (i := i) h' (by simpa using e)
  | .none :: _, _, h, _, _, _ => by simp [numsT] at h
  | .bool _ :: _, _, h, _, _, _ => by simp [numsT] at h
  | .str _ :: _, _, h, _, _, _ => by simp [numsT] at h
  | .static _ :: _, _, h, _, _, _ => by simp [numsT] at h
  | .list _ :: _, _, h, _, _, _ => by simp [numsT] at h
  | .tup _ :: _, _, h, _, _, _ => by simp [numsT] at h
  | .dict _ _ :: _, _, h, _, _, _ => by simp [numsT] at h
  | .range _ _ _ :: _, _, h, _, _, _ => by simp [numsT] at h
theorem numsT_length : ∀ {ts : List T} {ns : List Int}, numsT ts = some ns → ns.length = ts.length
  | [], ns, h => by cases h; rfl
  | .int j :: r, ns, h => by
    unfold numsT at h
    obtain ⟨ns', h', rfl⟩ := Option.map_eq_some_iff.mp h
    simp [numsT_length h']
  | .none :: _, _, h => by simp [numsT] at h
  | .bool _ :: _, _, h => by simp [numsT] at h
  | .str _ :: _, _, h => by simp [numsT] at h
  | .static _ :: _, _, h => by simp [numsT] at h
  | .list _ :: _, _, h => by simp [numsT] at h
  | .tup _ :: _, _, h => by simp [numsT] at h
  | .dict _ _ :: _, _, h => by simp [numsT] at h
  | .range _ _ _ :: _, _, h => by simp [numsT] at h
theorem preSum_sum (ns : List Int) : ∀ k, k ≤ ns.length → preSum (fun j => ns.getD j 0) k = (ns.take k).sum
  | 0, _ => by simp [preSum]
  | k + 1, h => by
    have hk : k < ns.length := h
    unfold preSum
    rw [preSum_sum ns k (by (exact Nat.le_of_succ_le h)), List.take_succ_eq_append_getElem hk, List.sum_append]
    simp [List.getD, hk]
theorem F_sum {d : D} {ts : List T} {ns : List Int} (hd : listD O d = some ts) (hn : numsT ts = some ns) (hf : ∀ j, j < ns.length → InLong (ns.getD j 0) ∧ InLong ((ns.take (j + 1)).sum)) (h : Φ (.val (.int ns.sum)) O) (h0n : 0 < n) :
    ConB C n (.builtin "sum") O [d] [] Φ := ConB_1 fun A H as s E v rm M d1 => by
  obtain ⟨a, items, k, rfl, g, dl⟩ := listD_at M hd d1
  have hlen := numsT_length hn
  have hne : a ≠ s.heap.objs.size := Nat.ne_of_lt (Heap.lt_size g)
  have hsz : items.size = ns.length := by rw [dl.size, hlen]
  refine call_sum_walk (wpAny_pyIter_list (isList_of g) ⟨s.heap.objs.size, [s.heap.objs.size, a], [s.heap.objs.size], items.size, _, _, fun j => ns.getD j 0, rfl, Walks.list (by show A.in1.handled = none; exact rm.handled h0n) _ a hne items, ⟨⟨_, Heap.get?_push_size _ rfl, rfl, rfl⟩, ⟨_, Heap.get?_push_of_some _ g, rfl, k, rfl⟩⟩, fun b hb => ?_, fun i v hv => ?_, fun j hj => ?_, fun h' tk t' hk => ?_⟩)
  · show b < (s.heap.push _).objs.size
    rw [Heap.size_push]
    have := Heap.lt_size g
    simp at hb
    rcases hb with rfl | rfl
    · exact Nat.lt_succ_self _
    · exact Nat.lt_succ_of_lt this
  · obtain ⟨t, ht⟩ : ∃ t, ts[i]? = some t := by
      have : i < ts.length := by
        have := (Array.getElem?_eq_some_iff.mp hv).1
        rw [dl.size] at this; exact this
      exact ⟨_, List.getElem?_eq_getElem this⟩
    obtain ⟨v', hv', d'⟩ := dl.get ht
    rw [Array.getElem?_toList, hv] at hv'
    cases hv'
    rw [numsT_get hn ht] at d'
    unfold Den at d'
    exact d'
  · rw [preSum_sum ns (j + 1) (by (first | exact Nat.lt_of_lt_of_eq hj hsz | lia))]
    exact hf j (by (first | exact Nat.lt_of_lt_of_eq hj hsz | lia))
  · rw [hsz, preSum_sum ns ns.length (Nat.le_refl _), List.take_length]
    have hk2 : ∀ b o, s.heap.get? b = some o → h'.get? b = some o := fun b o e => hk b o (by
      simp; exact Nat.ne_of_lt (Heap.lt_size e)) (Heap.get?_push_of_some _ e)
    obtain ⟨M', R'⟩ := M.same (s' := { s with heap := h', toks := tk }) hk2 rfl rfl
    exact ⟨_, O, H, as, h, M', isInt, R' _⟩
end
end Mine
end

section
set_option Elab.async false
set_option maxRecDepth 100000
set_option linter.unusedVariables false
namespace Mine
open PySem PySem.W PyProof.Rows PySem.Calls

noncomputable def dictD (O : List Ob) : D → Option (List Int × List T)
  | .val (.dict ks ts) => some (ks, ts)
  | .ref i => match O[i]? with
    | some (.dict ks ts) => some (ks, ts)
    | _ => none
  | _ => none

section
variable {C : Cx} {n : Nat} {sc : Kinds} {ρ : Vars} {O : List Ob}

theorem dictD_at {H as s d v ks ts} (M : Mem C A H as O s) (hd : dictD O d = some (ks, ts)) (hv : DenD H as d v) : ∃ a o vs, v = .ref a ∧ s.heap.get? a = some o ∧ IntDict o ks vs ∧ DenL H ts vs := by
  cases d with
  | ref i =>
    obtain ⟨a, ha, rfl⟩ := hv
    have hd2 : (match O[i]? with | some (.dict ks ts) => some (ks, ts) | _ => none) = some (ks, ts) := hd
    split at hd2
    · rename_i ts' hO
      cases hd2
      obtain ⟨_, vs, k, g, hk, dl⟩ := M.obs i a _ ha hO
      exact ⟨a, _, _, rfl, g, hk, dl⟩
    · cases hd2
  | val t =>
    cases t with
    | dict ks' ts' =>
      cases hd
      unfold DenD Den at hv
      obtain ⟨a, o, vs, rfl, hH, hk, dl⟩ := hv
      exact ⟨a, o, vs, rfl, M.sat _ _ hH, hk, dl⟩
    | _ => cases hd

inductive DItP (O : List Ob) (d i : D) (P : T → Prop) : Prop
  | intro (ks : List Int) (ts : List T) (k : Int) (t : T) (h1 : dictD O d = some (ks, ts)) (h2 : i = .val (.int k)) (h3 : (ks.zip ts).lookup k = some t) (h4 : P t)
inductive SetP (O : List Ob) (d e j : D) (P : List Ob → Prop) : Prop
  | intro (k : Nat) (ts : List T) (x : Int) (t : T) (e1 : e = .ref k) (hO : O[k]? = some (.list ts)) (e2 : j = .val (.int x)) (h0 : 0 ≤ x) (hx : x < 2 ^ 63) (hlt : x.toNat < ts.length) (e3 : d = .val t) (h : P (O.set k (.list (ts.set x.toNat t))))
theorem WPx_setL {o i pos' value pos} {Ψ : Out → Prop}
    (h : WPe C n sc ρ O value fun d O₁ => WPe C n sc ρ O₁ o fun e O₂ => WPe C n sc ρ O₂ i fun j O₃ => SetP O₃ d e j fun O₄ => Ψ (.next ρ O₄))
    (hs : ∀ env : Env, EnvOk sc env → swapsWith value (some (.Subscript o i pos')) pos.line env = pure false) : WPx C n sc ρ O (.Assign [.Subscript o i pos'] value pos) Ψ := fun A env H as s E rm eo M l => by
  refine wpC_Assign_Subscript (wpC_mono (h A env H as s E rm eo.toEnvOk M l) (fun v₁ s₁ qq => qq.out fun d₁ O₁ H₁ as₁ h₁ M₁ D₁ R₁ =>
    wpC_mono (h₁ A env H₁ as₁ s₁ E rm eo.toEnvOk M₁ (l.rel R₁)) (fun v₂ s₂ qq => qq.out fun d₂ O₂ H₂ as₂ h₂ M₂ D₂ R₂ =>
    wpC_mono (h₂ A env H₂ as₂ s₂ E rm eo.toEnvOk M₂ ((l.rel R₁).rel R₂)) (fun v₃ s₃ qq => qq.out fun d₃ O₃ H₃ as₃ hq M₃ D₃ R₃ => ?_) fun _ _ x => x) fun _ _ x => x) fun _ _ x => x) (hs env eo.toEnvOk)
  obtain ⟨k, ts, x, t, rfl, hO, rfl, h0, hx, hlt, rfl, hΨ⟩ := hq
  obtain ⟨u, rfl⟩ := denInt D₃
  obtain ⟨a, items, kk, ha, rfl, g, dl⟩ := own_at M₃ hO (D₂.rel R₃)
  have D₁' : Den H₃ t v₁ := (D₁.rel (R₂.trans R₃))
  refine ki_setAt (n := kk) (by exact g) h0 hx (by rw [dl.size]; exact (Int.toNat_lt h0).mp hlt) ?_
  obtain ⟨M', R'⟩ := upd_list (f := fun y => y.setIfInBounds x.toNat v₁) (tk := s₃.toks) M₃ ha hO g (ts' := ts.set x.toNat t) (by rw [Array.toList_setIfInBounds]; exact dl.set _ D₁')
  exact ⟨H₃, as₃, ((R₁.trans R₂).trans (R₃.trans (R' _))).up, _, _, hΨ, M', ((l.rel R₁).rel R₂).rel (R₃.trans (R' _))⟩

inductive SetDP (O : List Ob) (d e j : D) (P : List Ob → Prop) : Prop
  | intro (k : Nat) (ks : List Int) (ts : List T) (x : Int) (t : T) (e1 : e = .ref k) (hO : O[k]? = some (.dict ks ts)) (e2 : j = .val (.int x)) (hx : x ∉ ks) (hsz : ks.length ≤ sizeLine) (e3 : d = .val t) (h : P (O.set k (.dict (ks ++ [x]) (ts ++ [t]))))
inductive AfterP (C : Cx) (A : Around) (H : PHeap) (as : List Addr) (s : Shared) (Φ : List D → List D → List Ob → Prop) (kvs : List (Value × Value)) (s' : Shared) : Prop
  | intro (dk dv : List D) (O' : List Ob) (H' : PHeap) (as' : List Addr) (h : Φ dk dv O') (M : Mem C A H' as' O' s') (D : DenDs H' as' dk (kvs.map (·.1))) (D' : DenDs H' as' dv (kvs.map (·.2))) (R : Rel [] H as s H' as' s')
end

section
variable {prog : Program} {w : World} {K : Type} [DecidableEq K] {knd : KeyKind prog w K} {A : Around} {E : Value → Shared → Prop} {s : Shared} {env : Env}
end

section
variable {C : Cx} {n : Nat} {sc : Kinds} {ρ : Vars} {O : List Ob}
inductive DictP (k : Nat) (O' : List Ob) (dk dv : List D) (P : D → List Ob → Prop) : Prop
  | intro (h0 : O'[k]? = some (.dict [] [])) (ks : List Int) (ts : List T) (e : dk = ks.map (fun k => .val (.int k))) (nd : ks.Nodup) (hv : vals dv = some ts) (hl : ks.length = ts.length) (h : P (.ref k) (O'.set k (.dict ks ts)))
end
end Mine
end

section
set_option Elab.async false
set_option maxRecDepth 100000
set_option linter.unusedVariables false
set_option linter.unusedSimpArgs false
namespace Mine
open PySem PySem.W PyProof.Rows PySem.Calls PySem.NumText

theorem typeCall_int_2 (a b : Value) : checkTypeCall "int" ⟨[a, b], []⟩ = pure () := by kernel_rfl
theorem newCall_int_2 (a b : Value) : checkBuiltinCall "int.__new__" ⟨[.type "int", a, b], []⟩ = pure () := by kernel_rfl
theorem intCall_tree (a b : Value) : ∃ k, Builtin.«type.__call__» ⟨[.type "int", a, b], []⟩ = (holding [.builtin "int.__new__"] (call (.builtin "int.__new__") [.type "int", a, b] []) >>= k) := by
  obtain ⟨c, tl, hmro⟩ := F.called_int.mro
  have hmade := F.called_int.made
  have h1 := F.called_int.notType
  have h2 := F.called_int.canCreate
  refine ⟨?k, ?h⟩
  case h =>
    unfold Builtin.«type.__call__»
    simp only [h1, h2, hmro, hmade, typeCall_int_2, Bool.false_eq_true, if_false, pure_bind]
    rfl
theorem intNew_tree (x : PySem.Str) (t u : Tok) : ∃ k, Builtin.«int.__new__» ⟨[.type "int", .str x t, .int 10 u], []⟩ = ((int_private% "intFromText") (.str x t) (numTextOf x) 10 >>= k) := by
  have f1 := F.conv_sub_int
  have f2 := F.madeHere_int
  have f3 : isType (.type "int") = pure true := rfl
  have f4 : Builtin.Int.intIndex "int.__new__" (.int 10 u) = pure 10 := rfl
  have f5 : (int_private% "numeralText?") (.str x t) = pure (some (numTextOf x)) := rfl
  have f6 : (Value.type "int" == Value.type "int") = true := by decide
  refine ⟨?k, ?h⟩
  case h =>
    unfold Builtin.«int.__new__»
    simp only [f1, f2, f3, f4, f5, f6, pure_bind, Bool.false_eq_true, if_false, Bool.not_true, if_true, List.isEmpty_nil, List.length_cons, List.length_nil, Bool.true_and, Bool.and_true, List.head?_cons, List.forIn_nil]
    rfl
noncomputable def badTail : PySem.Str → Sem Value := fun shown => do
  let m ← mkStr (((s!"invalid literal for int() with base {(10 : Nat)}: " : String) ++ ⟨shown.cps.extract 0 200⟩ : PySem.Str))
  let refusal ← newExc (.type "ValueError") [m]
  markTheRefusal ["int.__new__"] refusal
  raiseNew refusal
noncomputable def badJp (x : PySem.Str) (t : Tok) : Unit → Sem Value := fun _ => do
  rule "int.__new__.invalid-literal"
  let l ← (int_private% "bytesOf?") (.str x t)
  match l with
  | some b => do
    let c ← mkBytes (b.extract 0 200)
    let shown ← pyRepr c
    badTail shown
  | none => do
    let shown ← pyRepr (.str x t)
    badTail shown
theorem intText_tree (x : PySem.Str) (t : Tok) (text : List Nat) : ∃ (B : Nat → Nat → Sem Value) (C : Nat → Sem Value) (Z : Sem Value),
    (int_private% "intFromText") (.str x t) text 10 = (if (text.takeWhile (· != 0)).length ≤ 640 then (pure 0 >>= fun limit => (int_private% "intFromText.match_1") (motive := fun _ => Sem Value) ((int_private% "readNumeral") limit 10 (text.takeWhile (· != 0))) (B limit) (fun _ => C limit) (fun i => if ((text.takeWhile (· != 0)).length == text.length) = true then mkInt i else badJp x t ())
     (fun _ => do
        let l ← (int_private% "bytesOf?") (.str x t)
        if (l.isSome && (List.take 200 (text.takeWhile (· != 0))).any fun x => decide (x ≥ 128)) = true then do
            let h ← Builtin._codecs.theHandlerIsTheBuiltInOne "strict"
            if (!h) = true then do
                let r ← unsupported "int.__new__:a-refusal-of-bytes-beyond-ascii-under-a-strict-handler-of-the-program's"
                badJp x t r
            else badJp x t ()
        else badJp x t ())) else Z) := by
  refine ⟨?B, ?C, ?Z, ?h⟩
  case h => rfl
theorem intText_bad (x : PySem.Str) (t : Tok) (hs : (numSeenOf x).length ≤ 640) (hn : PySem.intText? x = none) : (int_private% "intFromText") (.str x t) (numTextOf x) 10 = badJp x t () := by
  obtain ⟨B, C, Z, e⟩ := intText_tree x t (numTextOf x)
  rw [e, if_pos hs]
  rcases read0 x hs with ⟨m, h1, _⟩ | ⟨_, h | ⟨i, h, h2⟩⟩
  · rw [hn] at h1; cases h1
  · show (int_private% "intFromText.match_1") (motive := fun _ => Sem Value) ((int_private% "readNumeral") 0 10 (numSeenOf x)) _ _ _ _ = _
    rw [h]
    rfl
  · show (int_private% "intFromText.match_1") (motive := fun _ => Sem Value) ((int_private% "readNumeral") 0 10 (numSeenOf x)) _ _ _ _ = _
    rw [h]
    show (if _ then _ else _) = _
    rw [if_neg h2]
theorem badJp_eq (x : PySem.Str) (t : Tok) : badJp x t () = (rule "int.__new__.invalid-literal" >>= fun _ => pyRepr (.str x t) >>= badTail) := rfl

section
variable {prog : Program} {w : World} {A : Around} {E : Value → Shared → Prop} {R : Result → Shared → Prop} {s : Shared}
theorem codeC_builtin {id : String} {args : Args} {b : Builtin} (hb : entryFor table id = some b)
    (h : wpC (model prog w) (A.under (.builtin id args)) (b args)
      (fun fin s' => match fin with | .done f => R (.ok f) s' | .again c' => c'.quiet = true ∧ codeC (model prog w) A c' R s') (fun e s' => R (.error e) s') s) :
    codeC (model prog w) A (.builtin id args) R s := by
  refine codeC_of_tree ?_
  show wpC _ _ (match entryFor table id with | some b => b args | none => unsupported ((withoutEnding? id "#data").getD id)) _ _ s
  rw [hb]; exact h

theorem wpC_mark {own : List String} {e : Value} {Q : Unit → Shared → Prop} (h : Q () s) : wpC (model prog w) A (markTheRefusal own e) Q E s := .mk fun Γ p hΓ hC => by
  unfold markTheRefusal
  rw [Sem.wp_bind']
  show Sem.wp _ Γ (if pythonCodeMadeTheCall own (((Γ.code, p) :: Γ.below).map (·.1)) = true then _ else _) _ _ p s
  have hp : pythonCodeMadeTheCall own (((Γ.code, p) :: Γ.below).map (·.1)) = false := by
    unfold pythonCodeMadeTheCall
    exact Bool.and_eq_false_iff.mpr (.inl (Bool.and_eq_false_iff.mpr (.inl (congrArg (!·) hC))))
  rw [if_neg (by rw [hp]; exact Bool.false_ne_true)]
  exact h

theorem wpC_badInt {x : PySem.Str} {t : Tok} {Q : Value → Shared → Prop} (hh : A.handled = none) (hx : (reprText x).length ≤ 100000)
    (h : ∀ h' tk e, Heap.NewExc s.heap h' e "ValueError" → E (.ref e) { s with heap := h', toks := tk }) : wpC (model prog w) A (badJp x t ()) Q E s := by
  have hp := plainExc_ValueError
  have hsl : sizeLine = 16777216 := rfl
  rw [badJp_eq]
  refine wpC_bind (.of (wpAny_rule ?_))
  refine wpC_bind (.of (wpAny_pyRepr_str ?_ (by (exact Nat.le_trans hx (Nat.le_add_left _ _)))))
  unfold badTail
  refine wpC_bind (.of (wpAny_mkStr ?_ ?_))
  · refine wpC_bind (.of ?_)
    unfold newExc newTuple
    refine wpAny_bind (wpAny_newObj_type ?_ (by show 1 ≤ sizeLine; decide))
    refine wpAny_bind (m := firstArgMember _ _) (wpAny_of_eq (a := Value.none) (by simp only [firstArgMember, hp.first]; rfl) ?_)
    rw [hp.own]
    refine wpAny_newObj_type ?_ (by size_fits)
    refine wpC_bind (wpC_mark ?_)
    unfold raiseNew
    refine .of (wpAny_bind (wpAny_handled ?_))
    rw [hh]
    first
      | refine wpAny_throw ?_
      | refine wpAny_bind (wpAny_pure (wpAny_throw ?_))
    exact h _ _ _ ⟨fun b o hb => Heap.get?_push_of_some _ (Heap.get?_push_of_some _ hb), Heap.get?_none_of_le (by simp), _, .ref s.heap.objs.size, Heap.get?_push_size _ rfl, rfl, by simp⟩
  · rw [PySem.Str.length_append]
    have h1 : (Str.ofString (toString "invalid literal for int() with base " ++ toString 10 ++ toString ": ")).length = 40 := by decide +kernel
    have h2 : (⟨(reprText x).cps.extract 0 200⟩ : PySem.Str).length ≤ 200 := by
      show ((reprText x).cps.extract 0 200).size ≤ 200
      rw [Array.size_extract]; (first | exact Nat.min_le_left _ _ | lia)
    (first | exact Nat.le_trans (Nat.add_le_add (Nat.le_of_eq h1) h2) (Nat.le_trans (Nat.le_of_ble_eq_true rfl) (Nat.le_of_eq hsl.symm)) | lia)

theorem call_int_bad {x : PySem.Str} {t u : Tok} {Q : Value → Shared → Prop} (hs : (numSeenOf x).length ≤ 640) (hn : PySem.intText? x = none) (hh : A.handled = none) (hx : (reprText x).length ≤ 100000)
    (h : ∀ h' tk e, Heap.NewExc s.heap h' e "ValueError" → E (.ref e) { s with heap := h', toks := tk }) : wpC (model prog w) A (call (.type "int") [.str x t, .int 10 u]) Q E s := by
  refine wpC_call (codeC_of_tree ?_)
  show wpC _ _ (callAny (.type "int") _) _ _ _
  refine wpC_pure ⟨Code.quiet_builtin _ (by decide +kernel), codeC_builtin F.entry_type_call ?_⟩
  rw [Around.under_plain (weight_type_call_type "int" _ _) rfl]
  obtain ⟨k, e⟩ := intCall_tree (.str x t) (.int 10 u)
  rw [e]
  refine wpC_bind (wpC_holding (wpC_call (codeC_of_tree ?_)))
  show wpC _ _ (do checkBuiltinCall "int.__new__" ⟨[.type "int", .str x t, .int 10 u], []⟩; again (.builtin "int.__new__" ⟨[.type "int", .str x t, .int 10 u], []⟩)) _ _ _
  refine wpC_bind (wpC_of_eq (newCall_int_2 _ _) (wpC_pure ⟨plainId_quiet (by decide +kernel) _, codeC_builtin F.entry_int_new ?_⟩))
  obtain ⟨k2, e2⟩ := intNew_tree x t u
  rw [e2, intText_bad x t hs hn]
  refine wpC_bind (wpC_badInt ?_ hx h)
  exact hh
end

theorem intNew_tree2 (x : PySem.Str) (t u : Tok) : Builtin.«int.__new__» ⟨[.type "int", .str x t, .int 10 u], []⟩ = ((int_private% "intFromText") (.str x t) (numTextOf x) 10 >>= fun v => ret v) := by
  have f1 := F.conv_sub_int
  have f2 := F.madeHere_int
  have f3 : isType (.type "int") = pure true := rfl
  have f4 : Builtin.Int.intIndex "int.__new__" (.int 10 u) = pure 10 := rfl
  have f5 : (int_private% "numeralText?") (.str x t) = pure (some (numTextOf x)) := rfl
  have f6 : (Value.type "int" == Value.type "int") = true := by decide
  unfold Builtin.«int.__new__»
  simp only [f1, f2, f3, f4, f5, f6, pure_bind, Bool.false_eq_true, if_false, Bool.not_true, if_true, List.isEmpty_nil, List.length_cons, List.length_nil, Bool.true_and, Bool.and_true, List.head?_cons, List.forIn_nil]
  rfl
theorem intText_good (x : PySem.Str) (t : Tok) {n : Int} (hs : (numSeenOf x).length ≤ 640) (hn : PySem.intText? x = some n) : (int_private% "intFromText") (.str x t) (numTextOf x) 10 = mkInt n := by
  obtain ⟨B, C, Z, e⟩ := intText_tree x t (numTextOf x)
  rw [e, if_pos hs]
  rcases read0 x hs with ⟨m, h1, h2, h⟩ | ⟨h1, _⟩
  · rw [hn] at h1; cases h1
    show (int_private% "intFromText.match_1") (motive := fun _ => Sem Value) ((int_private% "readNumeral") 0 10 (numSeenOf x)) _ _ _ _ = _
    rw [h]
    show (if _ then _ else _) = _
    rw [if_pos h2]
  · rw [hn] at h1; cases h1
section
variable {prog : Program} {w : World} {A : Around} {E : Value → Shared → Prop} {R : Result → Shared → Prop} {s : Shared}
theorem call_int_good {x : PySem.Str} {t u : Tok} {n : Int} {Q : Value → Shared → Prop} (hs : (numSeenOf x).length ≤ 640) (hn : PySem.intText? x = some n) (h : Q (.int n s.toks) { s with toks := s.toks + 1 }) :
    wpAny (model prog w) A (call (.type "int") [.str x t, .int 10 u]) Q E s := by
  have g : Gives (Builtin.«int.__new__» ⟨[.type "int", .str x t, .int 10 u], []⟩) (.int n) := .of_wp fun M A E s Q h => by
    rw [intNew_tree2, intText_good x t hs hn]
    exact wpAny_bind (wpAny_mkInt (wpAny_pure ⟨_, rfl, h⟩))
  exact callType_new F.called_int F.newNe_int (typeCall_int_2 _ _) (newCall_int_2 _ _) (fun obj => F.args_object_init_3 obj _ _) F.entry_int_new g.meets (show (Made.int n).post _ s from ⟨rfl, h⟩)
end
end Mine
end

section
set_option Elab.async false
set_option maxRecDepth 100000
set_option linter.unusedVariables false
namespace Mine
open PySem PySem.W PyProof.Rows PySem.Calls

section
variable {prog : Program} {w : World} {A : Around} {E : Value → Shared → Prop} {s : Shared} {env : Env}
theorem wpC_Try_except {body : List Stmt} {h₀ : ExceptHandler} {hs : List ExceptHandler} {pos : Pos} {Q : Flow → Shared → Prop}
    (h : wpC (model prog w) A (execs body env) Q
      (fun e s₁ => wpAny (model prog w) A (noteFrame e env) (fun _ s₂ => wpAny (model prog w) A (setFlight e none) (fun _ s₃ => wpC (model prog w) A (handleBy e env (h₀ :: hs)) Q E s₃) E s₂) E s₁) s) :
    wpC (model prog w) A (exec (.Try body (h₀ :: hs) [] [] pos) env) Q E s := by
  rw [arm_exec_Try]
  refine wpC_bind (wpC_standAt ?_)
  unfold tryStmt
  simp only [List.isEmpty_nil, if_true, List.isEmpty_cons, Bool.false_and, Bool.false_eq_true, if_false]
  refine wpC_bind (wpC_attempt (wpC_mono h (fun f s₁ h₁ => ?_) fun e s₁ h₁ => ?_))
  · cases f <;> first | exact wpC_pure h₁ | exact .of (wpAny_execs_nil h₁)
  · exact wpC_bind (.of (wpAny_mono h₁ (fun _ _ h₂ => wpC_bind (.of h₂)) fun _ _ x => x))

theorem codeC_handlers_test {e : Value} {t : Expr} {pos : Pos} {R : Result → Shared → Prop}
    (h : wpAny (model prog w) A (eval t env) (fun c s₁ => wpAny (model prog w) A (excMatches e c) (fun b s₂ => R (.ok (if b then .brk else .next)) s₂) (notedBy (model prog w) A env fun x s₂ => R (.error x) s₂) s₁)
      (notedBy (model prog w) A env fun x s₁ => R (.error x) s₁) s) :
    codeC (model prog w) A (.handlers e [.ExceptHandler (some t) none [] pos] env) R s := by
  refine codeC_of_tree ?_
  show wpC _ A (do return Fin.done (← (handleWith e env [.ExceptHandler (some t) none [] pos]).onRaise (fun x => do noteFrame x env; theTreesLotGoes x))) _ _ s
  refine wpC_bind (wpC_noted ?_)
  unfold handleWith
  refine .of (wpAny_bind (wpAny_standAt (wpAny_bind (wpAny_mono h (fun c s₁ h₁ => wpAny_bind (wpAny_standAt (wpAny_bind (wpAny_mono h₁ (fun b s₂ h₂ => wpAny_pure (wpC_pure ?_)) fun _ _ x => x)))) fun _ _ x => x))))
  exact h₂
theorem codeC_handlers_suite {e : Value} {b₀ : Stmt} {body : List Stmt} {pos : Pos} {R : Result → Shared → Prop}
    (h : wpAny (model prog w) A (setFlight e none) (fun _ s₁ => wpC (model prog w) A (execs (b₀ :: body) env) (fun f s₂ => R (.ok f) s₂) (notedBy (model prog w) A env fun x s₂ => R (.error x) s₂) s₁) (notedBy (model prog w) A env fun x s₁ => R (.error x) s₁) s) :
    codeC (model prog w) A (.handlers e [.ExceptHandler none none (b₀ :: body) pos] env) R s := by
  refine codeC_of_tree ?_
  show wpC _ A (do return Fin.done (← (handleWith e env [.ExceptHandler none none (b₀ :: body) pos]).onRaise (fun x => do noteFrame x env; theTreesLotGoes x))) _ _ s
  refine wpC_bind (wpC_noted ?_)
  unfold handleWith
  exact wpC_bind (wpC_standAt (wpC_bind (wpC_mono (.of h) (fun _ s₁ h₁ => wpC_mono h₁ (fun f s₂ h₂ => wpC_pure h₂) fun _ _ x => x) fun _ _ x => x)))

theorem wpC_handleBy1 {e : Addr} {X T : String} {t : Expr} {b₀ : Stmt} {suite : List Stmt} {pos : Pos} {rest : List ExceptHandler} {Q : Flow → Shared → Prop}
    (hexc : isSubtype (.type T) (.type "BaseException") = pure true) (hnt : isSubtype (.type ((Manifest.find? T).elim "type" fun x => x.metatype)) (.type "tuple") = pure false)
    (hsub : isSubtype (.type X) (.type T) = pure true)
    (h : ∀ E', wpAny (model prog w) (A.mark (some (.ref e))) (eval t env) (fun c s₁ => c = .type T ∧ s₁.TypeIs (.ref e) X ∧
      wpAny (model prog w) (A.mark (some (.ref e))) (setFlight (.ref e) none) (fun _ s₂ => wpC (model prog w) (A.mark (some (.ref e))) (execs (b₀ :: suite) env) Q E' s₂) E' s₁) E' s) :
    wpC (model prog w) A (handleBy (.ref e) env (.ExceptHandler (some t) none (b₀ :: suite) pos :: rest)) Q E s := by
  have hnb' : (some (Value.ref e) : Option Value) ≠ some byPass := by intro q; cases q
  rw [handleBy]
  refine wpC_bind (wpC_holding (wpC_runOwn (codeC_handlers_test (R := fun r s₁ => match r with
      | .ok .brk => codeC (model prog w) (A.mark (some (.ref e))) (.handlers (.ref e) [.ExceptHandler none none (b₀ :: suite) pos] env) (fun r s₂ => match r with
          | .ok f => Q f s₂
          | .error x => cameBackBy (model prog w) A env E x s₂) s₁
      | .ok _ => False
      | .error x => cameBackBy (model prog w) A env E x s₁) (wpAny_mono (h _) (fun c s₁ h₁ => ?_) fun _ _ x => x) |> fun z => codeC_mono z fun r s₁ h₁ => ?_) hnb'))
  rotate_left
  · obtain ⟨rfl, hX, hk⟩ := h₁
    exact wpAny_excMatches_type hX hexc hnt hsub (codeC_handlers_suite hk)
  · cases r with
    | error x => exact h₁
    | ok f =>
      cases f with
      | brk =>
        refine wpC_bind (wpC_pure ?_)
        simp only [Bool.not_true, Bool.false_eq_true, if_false]
        refine wpC_bind (wpC_holding (wpC_runOwn (codeC_mono h₁ (fun r s₂ h₂ => ?_)) hnb'))
        cases r with
        | error x => exact h₂
        | ok f => exact wpC_pure h₂
      | _ => exact h₁.elim
end

theorem Mem.slots {C A H as O s l} (M : Mem C A H as O s) (e : A.frames = some l) {h' : Heap} {tk : Nat}
    (k1 : ∀ b o, s.heap.get? b = some o → b ∉ l.filterMap (·.frame) → h'.get? b = some o)
    (k2 : ∀ b o, s.heap.get? b = some o → (∀ vs, o.data ≠ .fields vs) → ∃ sl, h'.get? b = some { o with slots := sl }) :
    Mem C A H as O { s with heap := h', toks := tk } ∧ ∀ X, Rel X H as s H as { s with heap := h', toks := tk } := by
  have hf : ∀ b ∈ l.filterMap (·.frame), b ∉ as ∧ H b = none ∧ ∃ o es n, s.heap.get? b = some o ∧ o.data = .dict es n := fun b hb => by
    obtain ⟨env, he, hfr⟩ := List.mem_filterMap.mp hb
    obtain ⟨l', e', f⟩ := M.stk
    rw [e] at e'; cases e'
    obtain ⟨_, L, h1, h2, h3, o, es, n, h4, h5⟩ := f env he
    rw [hfr] at h1; cases h1
    exact ⟨h2, h3, o, es, n, h4, h5⟩
  have keep : ∀ b o, s.heap.get? b = some o → Kept h' b o := fun b o hb => by
    by_cases hm : b ∈ l.filterMap (·.frame)
    · obtain ⟨_, _, o', es, n, h4, h5⟩ := hf b hm
      rw [hb] at h4; cases h4
      obtain ⟨sl, hs⟩ := k2 b o hb (fun vs q => by rw [h5] at q; cases q)
      exact .inr ⟨es, n, sl, h5, hs⟩
    · exact .inl (k1 b o hb hm)
  have exactH : ∀ b o, H b = some o → h'.get? b = some o := fun b o hb => k1 b o (M.sat _ _ hb) fun hm => by
    have := (hf b hm).2.1; rw [hb] at this; cases this
  have exactA : ∀ b ∈ as, ∀ o, s.heap.get? b = some o → h'.get? b = some o := fun b hb o ho => k1 b o ho fun hm => (hf b hm).1 hb
  refine ⟨⟨M.base, exactH, M.len, M.nodup, fun i a ob ha ho => ?_, fun a ha => let ⟨o, eo⟩ := M.live a ha; ⟨o, exactA a ha o eo⟩, M.os, M.gens, ?_⟩,
    fun X => ⟨fun _ _ q => q, fun _ _ q => .inl q, fun b o hb _ _ => keep b o hb, fun b ⟨o, hb⟩ => (keep b o hb).live, [], by simp, by simp⟩⟩
  · have h := M.obs i a ob ha ho
    have hm := List.mem_of_getElem? ha
    cases ob with
    | gone => trivial
    | list ts => obtain ⟨h0, vs, n, h1, h2⟩ := h; exact ⟨h0, vs, n, exactA a hm _ h1, h2⟩
    | dict ks ts => obtain ⟨h0, es, n, h1, h1', h2⟩ := h; exact ⟨h0, es, n, exactA a hm _ h1, h1', h2⟩
  · exact M.stk.turn (fun _ q _ => q) (fun _ _ q _ => q) fun L o _ q => keep L o q

theorem funFrames_of {h base : Heap} : ∀ {l : List Env}, (∀ env ∈ l, env.scope.kind ≠ .module ∧ ∃ L o, env.frame = some L ∧ base.get? L = none ∧ h.get? L = some o ∧ ∀ vs, o.data ≠ .fields vs) → h.FunFrames base l
  | [], _ => trivial
  | env :: r, f => ⟨(f env (.head _)).1, (f env (.head _)).2, funFrames_of fun e he => f e (.tail _ he)⟩

section
variable {C : Cx} {n : Nat} {sc : Kinds} {ρ : Vars} {O : List Ob} {Ψ : Out → Prop}

noncomputable def ConR (C : Cx) (n : Nat) (fv : Value) (O : List Ob) (ds : List D) (X : String) : Prop :=
  ∀ A H as s vs Q E, Room n A → Mem C A H as O s → DenDs H as ds vs → (∀ h' tk e, Heap.NewExc s.heap h' e X → E (.ref e) { s with heap := h', toks := tk }) →
    wpC (model C.prog C.w) A (call fv vs []) Q E s
noncomputable def WPer (C : Cx) (n : Nat) (sc : Kinds) (ρ : Vars) (O : List Ob) (e : Expr) (X : String) : Prop :=
  ∀ A env H as s Q E, Room n A → EnvOk sc env → Mem C A H as O s → Loc H as env ρ s →
    (∀ H₁ as₁ s₁ h' tk e, Mem C A H₁ as₁ O s₁ → Rel [] H as s H₁ as₁ s₁ → Heap.NewExc s₁.heap h' e X → E (.ref e) { s₁ with heap := h', toks := tk }) → wpC (model C.prog C.w) A (eval e env) Q E s
noncomputable def WPxr (C : Cx) (n : Nat) (sc : Kinds) (ρ : Vars) (O : List Ob) (st : Stmt) (X : String) : Prop :=
  ∀ A env H as s Q E, Room n A → EnvOk sc env → Mem C A H as O s → Loc H as env ρ s →
    (∀ H₁ as₁ s₁ h' tk e, Mem C A H₁ as₁ O s₁ → Rel [] H as s H₁ as₁ s₁ → Heap.NewExc s₁.heap h' e X → E (.ref e) { s₁ with heap := h', toks := tk }) → wpC (model C.prog C.w) A (exec st env) Q E s

theorem WPer_CallB {id p args pos fv X} (hf : (∃ x, fv = .builtin x) ∨ ∃ x, fv = .type x) (hns : noStars args)
    (h : WPe C n sc ρ O (.Name id p) fun d O₁ => d = .val (.static fv) ∧ WPl C n sc ρ O₁ args fun ds O₂ => O₂ = O ∧ ConR C n fv O ds X) :
    WPer C n sc ρ O (.Call (.Name id p) args [] pos) X := fun A env H as s Q E rm eo M l hE => by
  refine wpC_Call_Name_kw (wpC_mono (h A env H as s E rm eo M l) (fun fv' s₁ qq => qq.out fun d O₁ H₁ as₁ ⟨hd, h₁⟩ M₁ D₁ R₁ => ?_) fun _ _ x => x)
  subst hd
  unfold DenD Den at D₁
  subst D₁
  have hns' := noStar_any pos env hns
  have goal : wpC (model C.prog C.w) A (evalArgs fv' true (backTo pos (starEach args env)) (backToKw pos (keywordEach [] env))) (fun x s₂ => wpC (model C.prog C.w) A (call fv' ([] ++ x.pos) x.kw) Q E s₂) E s₁ :=
    args_ rm eo M₁ (l.rel R₁) hns rfl (K := fun ds kds O₃ => kds = [] ∧ O₃ = O ∧ ConR C n fv' O ds X)
      (fun A env H as s E pos rm eo M l => wpC_mono (h₁ A env H as s E pos rm eo M l) (fun vs s' qq => qq.out fun ds O' H' as' q M D R => ⟨ds, O', H', as', WPk_nil ⟨rfl, rfl, q⟩, M, D, R⟩) fun _ _ x => x)
      fun x ds kds O₂ H₂ as₂ s₂ ⟨hk, hO, hc⟩ M₂ D₂ N₂ K₂ R₂ => by
        subst hk; subst hO
        have hx : x.kw = [] := by
          have : x.kw.map (·.1) = [] := N₂
          simpa using this
        rw [hx]
        exact hc A H₂ as₂ s₂ x.pos Q E rm M₂ D₂ fun h' tk e hx => hE H₂ as₂ s₂ h' tk e M₂ (R₁.trans R₂) hx
  rcases hf with ⟨x, rfl⟩ | ⟨x, rfl⟩
  · exact callWithC_builtin hns' goal
  · exact callWithC_type hns' goal
theorem WPxr_Assign {x px e pos X} (h : WPer C n sc ρ O e X) (hs : ∀ env : Env, EnvOk sc env → swapsWith e (some (.Name x px)) pos.line env = pure false) :
    WPxr C n sc ρ O (.Assign [.Name x px] e pos) X := fun A env H as s Q E rm eo M l hE => by
  rw [exec_Assign_Name env x px e pos (hs env eo)]
  exact wpC_bind (wpC_standAt (wpC_bind (h A env H as s _ E rm eo M l hE)))

theorem WPx_TryCatch {b₀ bs hb hbs tn npos hpos pos X T'} (hr : WPxr C n sc ρ O b₀ X) (hk : sc.lookup tn = some .globalImplicit) (hg : C.mg tn = none) (hb' : C.mb tn = some (.type T'))
    (hexc : isSubtype (.type T') (.type "BaseException") = pure true) (hnt : isSubtype (.type ((Manifest.find? T').elim "type" fun x => x.metatype)) (.type "tuple") = pure false)
    (hsub : isSubtype (.type X) (.type T') = pure true) (h : WPs C 0 sc ρ O (hb :: hbs) Ψ) (hd : (tn == ("__debug__" : Str)) = false) :
    WPx C n sc ρ O (.Try (b₀ :: bs) [.ExceptHandler (some (.Name tn npos)) none (hb :: hbs) hpos] [] [] pos) Ψ := fun A env H as s E rm eo M l => by
  refine wpC_Try_except (wpC_execs_cons (hr A env H as s _ _ rm eo.toEnvOk M l fun H₁ as₁ s₁ h' tk e M₁ R₁ hx => ?_))
  refine Classical.byContradiction fun no => ?_
  obtain ⟨l₀, hfr⟩ := eo.top
  obtain ⟨l', e', f⟩ := id M₁.stk
  rw [hfr] at e'; cases e'
  obtain ⟨ob, tp, he, hcls, hdata⟩ := hx.there
  have hfL : ∃ L, env.frame = some L := let ⟨_, L, q, _⟩ := f env (.head _); ⟨L, q⟩
  obtain ⟨L, hL⟩ := hfL
  let fr := (env :: l₀).filterMap (·.frame)
  have hmem : ∀ env' ∈ (env :: l₀), ∀ L', env'.frame = some L' → L' ∈ fr := fun env' he' L' hL' => List.mem_filterMap.mpr ⟨env', he', hL'⟩
  have hFF : Heap.FunFrames h' (hideAll s₁.heap fr) (env :: l₀) := funFrames_of fun env' he' => by
    obtain ⟨q1, L', q2, _, _, o, es, n, q5, q6⟩ := f env' he'
    exact ⟨q1, L', o, q2, hideAll_none _ (hmem env' he' L' q2), hx.keeps _ _ q5, fun vs q => by rw [q6] at q; cases q⟩
  have hst : Heap.StaysIn (hideAll s₁.heap fr) h' := fun b o hb => hx.keeps b o (of_hideAll _ hb)
  have hen : (hideAll s₁.heap fr).get? e = none := by
    cases q : (hideAll s₁.heap fr).get? e with
    | none => rfl
    | some o => have := of_hideAll _ q; rw [hx.new] at this; cases this
  refine no ?_
  unfold noteFrame
  simp only [hL]
  refine wpAny_bind (wpAny_field he hdata (x := .none) rfl ?_)
  rw [if_neg (by decide)]
  refine wpAny_entryW (a0 := tp) hfr hFF hL he hst hen hdata (by show 1 < 6; decide) rfl fun h₂ hN => ?_
  obtain ⟨n1, n2, n3, n4⟩ := hN
  rw [hcls] at n3
  refine wpAny_landsW (l := env :: l₀) (L := L) ⟨n1, hen, n2, n3⟩ fun h₃ hfl hsm => ?_
  refine wpC_handleBy1 (X := X) hexc hnt hsub fun E' => ?_
  have mem : ∀ (h₄ : Heap) (t : Nat), Heap.StaysIn (hideAll s₁.heap fr) h₄ → h'.UpToSlots h₄ → Mem C A H₁ as₁ O { s₁ with heap := h₄, toks := t } ∧ ∀ X, Rel X H₁ as₁ s₁ H₁ as₁ { s₁ with heap := h₄, toks := t } := fun h₄ t a b =>
    M₁.slots hfr (fun b' o hb' hn => a b' o (hideAll_get _ hb' hn)) fun b' o hb' hd' => b b' o (hx.keeps b' o hb') hd'
  obtain ⟨M₃, R₃⟩ := mem h₃ tk hfl.1 (Heap.UpToSlots.trans n4 hsm)
  have hk' : env.kindOf tn = some .globalImplicit := by unfold Env.kindOf; rw [eo.names]; exact hk
  refine wpAny_Name ?_ hd
  unfold loadName
  simp only [Env.blockKind, eo.kind, hk', ScopeKind.isAnnotationScope, Bool.false_and, Bool.false_eq_true, if_false]
  refine loadGlobal_builtin (by rw [eo.globals]; exact C.g.keeps M₃.keepB) hg (by rw [eo.builtins]; exact C.b.keeps M₃.keepB) hb' ⟨rfl, ?_, ?_⟩
  · obtain ⟨ob', q1, q2⟩ := hfl.there
    exact ⟨ob', q1, q2⟩
  · refine lands_againW hfl fun h₆ hfl₆ hsm₆ => ?_
    obtain ⟨M₆, R₆⟩ := mem h₆ tk hfl₆.1 (Heap.UpToSlots.trans (Heap.UpToSlots.trans n4 hsm) hsm₆)
    have M₆' : Mem C (A.mark (some (.ref e))) H₁ as₁ O { s₁ with heap := h₆, toks := tk } := M₆.around rfl
    have rm' : Room 0 (A.mark (some (.ref e))) := ⟨fun q => absurd q (Nat.lt_irrefl 0), by have := rm.depth; show A.depth + 0 ≤ 900; (first | exact Nat.le_of_add_right_le this | lia), by have := rm.units; show A.units + 60 * 0 ≤ 9000; (first | exact Nat.le_of_add_right_le this | lia)⟩
    refine wpC_mono (h (A.mark (some (.ref e))) env H₁ as₁ _ E' rm' ⟨eo.toEnvOk, ⟨l₀, hfr⟩⟩ M₆' ((l.rel R₁).rel (R₆ _))) (fun fl s₇ qq => qq.out fun H₇ as₇ R₇ h₇ => ⟨H₇, as₇, (R₁.up.trans (R₆ _)).trans R₇, ?_⟩) fun _ _ x => x
    cases fl with
    | next => exact h₇.casesOn fun ρ' O' q M₇ l₇ => ⟨ρ', O', q, M₇.around rfl, l₇⟩
    | cont => exact h₇.casesOn fun ρ' O' q M₇ l₇ => ⟨ρ', O', q, M₇.around rfl, l₇⟩
    | brk => exact h₇.casesOn fun ρ' O' q M₇ l₇ => ⟨ρ', O', q, M₇.around rfl, l₇⟩
    | ret v => exact h₇.casesOn fun d O' q M₇ D₇ => ⟨d, O', q, M₇.around rfl, D₇⟩

theorem WPx_TryCalm {bs hb hbs pos} (h : WPs C n sc ρ O bs Ψ) : WPx C n sc ρ O (.Try bs (hb :: hbs) [] [] pos) Ψ := fun A env H as s E rm eo M l =>
  wpC_Try_except (h A env H as s _ rm eo M l)
end
end Mine
end

section
set_option Elab.async false
set_option maxRecDepth 100000
set_option linter.unusedVariables false
namespace Mine
open PySem PySem.W PyProof.Rows PySem.Calls PySem.NumText

noncomputable def joinS (sep : PySem.Str) : List PySem.Str → PySem.Str
  | [x] => x
  | xs => Builtin.Str.glued sep xs
noncomputable def strsT : List T → Option (List PySem.Str)
  | [] => some []
  | .str x :: r => (strsT r).map (x :: ·)
  | _ => none

theorem strsT_vals {H : PHeap} : ∀ {ts : List T} {xs : List PySem.Str} {vs : List Value}, strsT ts = some xs → DenL H ts vs → ∃ l : List (PySem.Str × Tok), vs = strValues l ∧ l.map (·.1) = xs
  | [], xs, vs, h, d => by
    rw [DenL.nil_iff] at d; subst d
    cases h
    exact ⟨[], rfl, rfl⟩
  | t :: ts, xs, vs, h, d => by
    rw [DenL.cons_iff] at d
    obtain ⟨v, r, rfl, d1, d2⟩ := d
    cases t with
    | str x =>
      unfold strsT at h
      obtain ⟨ys, hy, rfl⟩ := Option.map_eq_some_iff.mp h
      obtain ⟨l, rfl, hl⟩ := strsT_vals hy d2
      unfold Den at d1
      obtain ⟨t, rfl⟩ := d1
      exact ⟨(x, t) :: l, rfl, by simp [hl]⟩
    | _ => simp [strsT] at h

section
variable {C : Cx} {n : Nat} {O : List Ob} {Φ : D → List Ob → Prop}

theorem F_lower {x : PySem.Str} (hfit : Builtin.Str.tooLong (Txt.lower x).length = false) (h : Φ (.val (.str (Txt.lower x))) O) : ConB C n (.builtin "str.lower") O [.val (.str x)] [] Φ := ConB_1 fun A H as s E v rm M d1 => by
  obtain ⟨t, rfl⟩ := denStr d1
  exact SC.lower hfit (after_str M h)

theorem F_join {sep : PySem.Str} {ts : List T} {d : D} {xs : List PySem.Str} (hd : listD O d = some ts) (hx : strsT ts = some xs)
    (hl : Builtin.Str.tooLong (xs.toArray.foldl (· + ·.length + sep.length) 0) = false) (hf : (joinS sep xs).length ≤ sizeLine) (h : Φ (.val (.str (joinS sep xs))) O) :
    ConB C n (.builtin "str.join") O [.val (.str sep), d] [] Φ := ConB_2 fun A H as s E v u rm M d1 d2 => by
  obtain ⟨t, rfl⟩ := denStr d1
  obtain ⟨a, items, k, rfl, g, dl⟩ := listD_at M hd d2
  obtain ⟨l, hl1, hl2⟩ := strsT_vals hx dl
  have hi : items = (strValues l).toArray := by rw [← hl1]
  refine call_meets F.slot_str_join (typeIs_str _ _ _) F.entry_str_join (F.args_str_join_2 _ _) (meets_str_join_list sep t a l (by rw [hl2]; exact hl)) ⟨by rw [← hi]; exact isList_of g, ?_⟩
  cases l with
  | nil =>
    simp only [List.map_nil] at hl2; subst hl2
    exact ⟨hf, after_str M h⟩
  | cons p r =>
    cases r with
    | nil =>
      simp only [List.map_cons, List.map_nil] at hl2; subst hl2
      exact ⟨_, O, H, as, h, M, by unfold DenD Den; exact ⟨_, rfl⟩, Rel.refl⟩
    | cons q r =>
      simp only [List.map_cons] at hl2; subst hl2
      exact ⟨hf, after_str M h⟩

theorem C_notInS {x y : PySem.Str} (h : Φ (.val (.bool (Builtin.Str.occurrences x y 0 x.length 1).isEmpty)) O) : WPt C n O [.val (.str y), .val (.str x)] (opC .NotIn) Φ := WPt_ss fun A H as s E t t' M => by
  refine P.notIn_str (after_bool M ?_)
  rw [Bool.not_not]; exact h

theorem F_getStr {a : Addr} {f : PySem.Str → Option Value} {x : PySem.Str} {r dflt : Int} (hm : C.B.MapOf (strKind C.prog C.w) a f) (ha : (a == sysModules) = false)
    (hr : (f x = none ∧ r = dflt) ∨ ∃ t, f x = some (.int r t)) (h : Φ (.val (.int r)) O) :
    ConB C n (.builtin "dict.get") O [.val (.static (.ref a)), .val (.str x), .val (.int dflt)] [] Φ := ConB_3 fun A H as s E v u w rm M d1 d2 d3 => by
  obtain ⟨t, rfl⟩ := denStr d2
  obtain ⟨t', rfl⟩ := denInt d3
  obtain rfl := denStatic d1
  have hm' : s.heap.MapOf (strKind C.prog C.w) a f := let ⟨o, es, ep, ho, rest⟩ := hm; ⟨o, es, ep, M.keepB _ _ ho, rest⟩
  refine call_meetsIn F.slot_dict_get hm'.typeIs F.entry_dict_get (F.args_dict_get_3 _ _ _) (meets_dict_get_default (strKind C.prog C.w) a (strKind_is _ _ _ _) ha _) ⟨_, hm', ?_⟩
  rcases hr with ⟨e, rfl⟩ | ⟨t, e⟩
  · rw [e]; exact after_int M h
  · rw [e]; exact after_int M h

theorem F_int10 {x : PySem.Str} {i : Int} (hs : (numSeenOf x).length ≤ 640) (hn : PySem.intText? x = some i) (h : Φ (.val (.int i)) O) :
    ConB C n (.type "int") O [.val (.str x), .val (.int 10)] [] Φ := ConB_2 fun A H as s E v u rm M d1 d2 => by
  obtain ⟨t, rfl⟩ := denStr d1
  obtain ⟨t', rfl⟩ := denInt d2
  exact call_int_good hs hn (after_int M h)
theorem R_int10 {x : PySem.Str} (hs : (numSeenOf x).length ≤ 640) (hn : PySem.intText? x = none) (hx : (reprText x).length ≤ 100000) (h0n : 0 < n) :
    ConR C n (.type "int") O [.val (.str x), .val (.int 10)] "ValueError" := fun A H as s vs Q E rm M h1 hE => by
  obtain ⟨v, u, rfl, d1, d2⟩ := dens2 h1
  obtain ⟨t, rfl⟩ := denStr d1
  obtain ⟨t', rfl⟩ := denInt d2
  exact call_int_bad hs hn (rm.handled h0n) hx hE
end
end Mine
end

section
set_option Elab.async false
set_option maxRecDepth 100000
set_option linter.unusedVariables false
open PySem PySem.W PyProof.Rows PySem.Calls
namespace Mine

theorem caller_called : Called (⟨.builtin "claim.caller" {}, none, none, [], none⟩ : Ctx) := by
  show (([Code.builtin "claim.caller" {}] : List Code).any Code.isCaller) = true
  rfl
theorem wp_of_wpC_done {M : Model} {A : Around} {Γ : Ctx} {t : Sem Fin} {R : Result → Shared → Prop} {s : Shared} (hin : Γ.In A) (hC : Called Γ)
    (h : wpC M A t (fun fin s' => ∃ f, fin = .done f ∧ R (.ok f) s') (fun e s' => R (.error e) s') s) (p : Pos) :
    Sem.wp M Γ t (Sem.finPost M Γ R) (fun e _ s' => R (.error e) s') p s := by
  refine Sem.wp_mono M Γ t (fun fin p' s' h' => ?_) (fun _ _ _ h' => h') p s (h.run Γ p hin hC)
  obtain ⟨f, rfl, hf⟩ := h'
  exact hf
theorem thread_endsC {prog : Program} {w : World} {t : Sem Fin} {s : Shared} {R : Result → Shared → Prop} (hreg : s.asleep)
    (h : wpC (model prog w) callerA t (fun fin s' => ∃ f, fin = .done f ∧ (R (.ok f) s' ∧ leftWithCleanup s'.gens = false)) (fun e s' => R (.error e) s' ∧ leftWithCleanup s'.gens = false) s) :
    ∃ n r s' s'', runN (denote table) prog w n s ⟨t, .builtin "claim.caller" {}, default, []⟩ = .halted (outcomeOf r) s' ∧
      schedN (denote table) prog w n (.single s ⟨t, .builtin "claim.caller" {}, default, []⟩) = .halted (outcomeOf r) s' ∧ s'.forget = s''.forget ∧ R r s'' := by
  obtain ⟨n, r, s₁, s₂, hs, hn, hfo, hR⟩ := wp_halts_full (M := model prog w) (R := R) hreg (wp_of_wpC_done (R := fun r s' => R r s' ∧ leftWithCleanup s'.gens = false) caller_in caller_called h default)
  exact ⟨n, r, s₂, s₁, hn, hs, hfo, hR⟩
theorem callFromC {c : ClaimW} {tree : List Value → Sem Fin} {w : World} {s : Shared} {free : Addr → Prop} {gens : Prop} {kept : Heap → Prop} (hz : s.asleep) (hgens : s.gens = #[])
    (hspec : ∀ args, c.pre args = true → WData.layableAll args = true →
      ∀ ord : List DictEntry → List DictEntry, (∀ l, (ord l).Perm l) →
      ∃ vs s₁, layAllW c.records (classAt s.heap) w.params ord args s = some (vs, s₁) ∧
        wpC (model c.prog w) callerA (tree vs) (fun fin s' => ∃ f, fin = .done f ∧ (c.Ends s args vs s₁ (.ok f) s' ∧ s'.os = s.os ∧ AllBare s'.gens ∧ kept s'.heap))
          (fun e s' => c.Ends s args vs s₁ (.error e) s' ∧ s'.os = s.os ∧ AllBare s'.gens ∧ kept s'.heap) s₁) :
    c.CallFrom (fun vs => ⟨tree vs, .builtin "claim.caller" {}, default, []⟩) w free gens kept s := by
  intro args hpre hlay ord hord
  refine Classical.byContradiction fun no => ?_
  obtain ⟨vs, s₁, hlaid, hcode⟩ := hspec args hpre hlay ord hord
  have hal := layAllW_rest _ _ _ hlaid
  obtain ⟨k, r, s', s'', hrun, hsched, hfo, hcase, hos, hkp⟩ := thread_endsC (prog := c.prog) (w := w) (t := tree vs) (s := s₁)
    (R := fun r s' => c.Ends s args vs s₁ r s' ∧ s'.os = s.os ∧ kept s'.heap)
    (Shared.asleep_of_life hal.2.2.2 hz)
    (wpC_mono hcode (by
      rintro fin s' ⟨f, e, h1, h2, h3, h4⟩
      exact ⟨f, e, ⟨h1, h2, h4⟩, leftWithCleanup_false_of_bare h3⟩) (by
      rintro e s' ⟨h1, h2, h3, h4⟩
      exact ⟨⟨h1, h2, h4⟩, leftWithCleanup_false_of_bare h3⟩))
  obtain ⟨eh, _, _, eo, _⟩ := Shared.forget_eq hfo
  have hcase := hcase.congr eh
  have hkp : kept s'.heap := by first | exact eh ▸ hkp | (rw [eh] at hkp; exact hkp) | (rw [← eh] at hkp; exact hkp)
  rw [← eo] at hos
  have hlife : s'.heap.life = s.heap.life := (runN_life _ _ _ hrun).trans hal.2.2.2
  refine no ⟨vs, s₁, hlaid, k, _, s', hsched, ?_, (fun _ i x hx => by rw [hgens] at hx; simp at hx), hkp, by rw [hlife], Shared.rest_eq hos⟩
  rcases hcase with ⟨v, rfl, d1, d2, d3, d4, d5⟩ | ⟨e, ob, cls, rfl, d1, d2, d3, d4, d5⟩
  · exact .inl ⟨v, rfl, d1, d2, d3, fun b o y _ => d4 b o y, d5⟩
  · exact .inr ⟨e, ob, cls, rfl, d1, d2, d3, d4, fun b o y _ => d5 b o y⟩

noncomputable abbrev WalkC (q : Program) (loose : List Str) (XP : (Str → Option Value) → Heap → Prop) (YP : World → Heap → Prop) (r : RowW) (d : DefRec) (kwd : List (Str × PySem.Expr)) : Prop :=
  ∀ (w : World) (s₀ s₁ : Shared) (mg mb : Str → Option Value), Ground q loose r.records XP w s₀ mg mb s₁.heap → YP w s₁.heap → ∀ (a : Addr) (o : Obj) (pm cd doc dV kV : Value), s₁.heap.get? a = some o →
    o.data = .func { docDef d.name d.params d.body d.scope pm cd doc with defaults := dV, kwdefaults := kV } → s₁.heap.CodeRec cd d.name → Dflts mg s₁.heap d.params kwd dV kV → mg d.name = some (.ref a) → s₁.gens = #[] →
    ∀ (args : List WData) (vals : List Value) (as : List Addr), r.claim.pre args = true → WData.layableAll args = true → ReadsAllW r.records (classAt s₀.heap) s₁.heap vals args as → WellAll w.params s₁.heap vals args → (∀ a ∈ as, (a == sysModules) = false) →
      wpC (model r.prog w) callerA (PySem.call (.ref a) vals) (fun v s' => GoodWG r.claim (classAt s₀.heap) (ExcName.means s₀.heap) args s₁ (.ok (.ret v)) s')
        (fun _ _ => False) s₁

end Mine

namespace Mine.Hd
theorem PySem.W.holds_open {r : OpenRow} {q : Program} {loose : List Str} {Xt : Shared → Bool} {XP : (Str → Option Value) → Heap → Prop} {α : Type} {Yf : Shared → α} {Ya : World → α} {YP : World → Heap → Prop} {d : DefRec} {kwd : List (Str × PySem.Expr)} {N : Nat}
    (left : LeftO r.prog q loose Xt Yf Ya N) (hY : ∀ w s, Yf s = Ya w → YP w s.heap) (hYk : ∀ w h h', YP w h → (∀ b o, h.get? b = some o → h'.get? b = some o) → YP w h')
    (hX : ∀ s, Xt s = true → XP (s.heap.nsMap mainGlobals) s.heap) (hXk : ∀ mg h h', XP mg h → (∀ b o, h.get? b = some o → h'.get? b = some o) → XP mg h')
    (hdef : defOf q r.name = some (d, kwd)) (hp : r.prog.theDef r.name = some (d.params, d.body, d.scope)) (hk : kwWritten? d.params.kwonlyargs d.params.kw_defaults = some kwd) (hRf : ∀ s, Xt s = true → RecFacts r.records s.heap) (hwr : (!r.writes || r.records.isEmpty) = true)
    (k1 : r.wellSaid = true) (ok : (chainsOk q && opensWell r.prog && (frees r.toRowW && r.within.isEmpty)) = true) (hb : r.prog.bare) (hw : r.toRowW.promised)
    (call : WalkC q loose XP YP r.toRowW d kwd) : r.Holds := by
  refine ⟨k1, hw, ?_⟩
  show r.toRowW.claim.HoldsOpenBy (fun vs => ⟨do match ← nsGet mainNs r.name with
      | some f => do ret (← PySem.call f vs)
      | none => unsupported "claim.caller:no-such-global", .builtin "claim.caller" {}, default, []⟩) _ _ _
  obtain ⟨ok, k5⟩ := Bool.and_eq_true_iff.mp ok
  obtain ⟨hch, o1⟩ := Bool.and_eq_true_iff.mp ok
  obtain ⟨k5, k6⟩ := Bool.and_eq_true_iff.mp k5
  obtain ⟨hsame, hu, ha, hap, hm⟩ := frees_parts k5
  refine ⟨⟨hb, o1, by show r.makers.map _ = []; rw [hm]; rfl⟩, hw.witness, fun w => ⟨(left.behind hX hch w).1, fun s' hs' => ?_⟩⟩
  obtain ⟨s₀, hf, hg0, s, hT, hz, hgens, hg, G00, y⟩ := (left.behind (XP := fun mg h => XP mg h ∧ RecFacts r.records h) (fun s hs => ⟨hX s hs, hRf s hs⟩) hch w).2 s' hs'
  have G0 : Ground q loose [] XP w s (s.heap.nsMap mainGlobals) (s.heap.nsMap builtinsNs) s.heap := ⟨G00.T, G00.B, G00.D, G00.TE, G00.TD, G00.W, G00.X.1, G00.cls, G00.has, G00.apart, G00.once, G00.K⟩
  have RF := G00.X.2
  have hT' := hT
  refine ⟨s₀, hf, hg0, s, hT, fun n hn => ?_, RF.1, RF.2.1, ?_⟩
  · obtain rfl : n = r.name := by split at hn <;> simp_all
    exact pinned_of_view hg G0 hdef hp hk
  have hgens : s.gens = #[] := Array.eq_empty_of_size_eq_zero (beq_iff_eq.mp hgens)
  have G : Ground q loose r.records XP w s _ _ s.heap := RF.ground G0
  refine callFromC (c := r.toRowW.claim) hz hgens fun args hpre hlay ord hord => Classical.byContradiction fun no => ?_
  obtain ⟨⟨vs, s₁⟩, hlaid⟩ := Option.isSome_iff_exists.mp (layAllW_isSome (P := w.params) (ord := ord) G.has args r.args s (pre_splitW hpre).1)
  have keeps := layAllW_keeps _ _ _ hlaid
  have hal := layAllW_rest _ _ _ hlaid
  obtain ⟨as, hrd, hin, hold⟩ := reads_layAllW hord _ _ _ hlaid hlay s₁.heap (fun _ _ e => e)
  have L : Laid r.records w s s₁ args vs as := ⟨⟨ord, hord, hlaid⟩, hrd, hin, hold, keeps, hal.1.trans hgens, hal.2.2.1⟩
  have G₁ := G.keeps hXk keeps
  obtain ⟨a, o, pm, cd, doc, dV, kV, h1, h2, h3, h4, h5⟩ := G₁.fn hdef
  have h := call w s s₁ _ _ G₁ (hYk _ _ _ (hY w s y) keeps) a o pm cd doc dV kV h2 h3 h4 h5 (defOf_name hdef ▸ h1) L.gens args vs as hpre hlay L.reads L.well (L.low G.low)
  have hi := ident_freeW hu ha hap
  have hwi : r.toRowW.claim.within = [] := List.isEmpty_iff.mp k6
  refine no ⟨vs, s₁, hlaid, wpC_bind (.of (wpAny_nsGet G₁.T.g ?_))⟩
  rw [h1]
  exact wpC_bind (wpC_mono h (fun v s' g => .of (wpAny_pure ⟨_, rfl, have z := g.laid (c := r.toRowW.claim) hsame hwi hi L; ⟨z.1, z.2.1, z.2.2, fun q => ⟨namesKept_of hT' hg _ keeps g.2.1.old, noTable hwr q⟩⟩⟩)) fun _ _ x => x.elim)
end Mine.Hd
end

section
set_option Elab.async false
set_option maxRecDepth 100000
set_option linter.unusedVariables false
namespace Mine
open PySem PySem.Sre

noncomputable def sreCode : Array Nat := #[14, 4, 0, 1, 4294967295, 17, 0, 7, 14, 24, 10, 1, 4294967295, 13, 5, 22, 48, 57, 0, 1, 15, 17, 15, 13, 11, 9, 0, 26624, 2147483648, 0, 0, 0, 0, 0, 0, 15, 2, 0, 17, 1, 1]

noncomputable def stepN : Nat → M → M
  | 0, m => m
  | n + 1, m => stepN n m.step
theorem stepN_add : ∀ (a b : Nat) (m : M), stepN (a + b) m = stepN b (stepN a m)
  | 0, b, m => by simp [stepN]
  | a + 1, b, m => by rw [Nat.add_right_comm]; show stepN (a + b) m.step = stepN b (stepN a m.step); exact stepN_add a b _
theorem stepN_succ (n : Nat) (m : M) : stepN (n + 1) m = stepN n m.step := rfl
theorem stepN0 (m : M) : stepN 0 m = m := rfl
theorem step_done {m : M} (h : m.outcome.isSome = true) : m.step = m := by unfold M.step; rw [if_pos h]
theorem stepN_done {m : M} (h : m.outcome.isSome = true) : ∀ n, stepN n m = m
  | 0 => rfl
  | n + 1 => by show stepN n m.step = m; rw [step_done h]; exact stepN_done h n
theorem runFor_eq : ∀ (n : Nat) (m : M), M.runFor n m = stepN n m
  | 0, m => rfl
  | n + 1, m => by
    show (if m.outcome.isSome = true then m else M.runFor n m.step) = stepN n m.step
    split
    · rename_i h; rw [step_done h, stepN_done h]
    · exact runFor_eq n _

noncomputable def isDig (c : Nat) : Bool := 48 ≤ c && c ≤ 57
noncomputable def isSgn (c : Nat) : Bool := c == 43 || c == 45 || c == 46 || c == 95

noncomputable def startF (s : Nat) (o : Bool) : Sre.Frame := { wait := .nextStart, pc := 5, pos := s, outermost := o }
noncomputable def mAt (text : Array Nat) (lim s : Nat) (pc pos hd : Nat) (o : Bool) (marks : Array (Option Nat)) (lm li : Int) (fr : List Sre.Frame) (wt : Nat) (an : Option Bool) (seen : Seen) : M :=
  { code := sreCode, text := text, lim := lim, start := s, lastStart := lim, wholeText := false, mustAdvance := false, pc := pc, pos := pos, handed := hd, outermost := o, marks := marks, lastmark := lm, lastindex := li,
    loops := #[], inner := none, frames := fr, weight := wt, answer := an, seen := seen, outcome := none }
noncomputable def kept0 : Sre.Kept := { lastmark := 0, lastindex := -1, whole := false, marks := #[] }
noncomputable def brF (s pc : Nat) (o : Bool) : Sre.Frame := { wait := .nextBranch, pc := pc, pos := s, outermost := o, kept := kept0 }
noncomputable def gbF (p : Nat) (o : Bool) (n : Int) : Sre.Frame := { wait := .giveBack, pc := 9, pos := p, outermost := o, count := n, kept := kept0 }

variable {text : Array Nat} {lim s : Nat} {o : Bool} {x y : Option Nat} {seen : Seen}

theorem st_mark0 (hd : Nat) : (mAt text lim s 5 s hd o #[x, y] (-1) (-1) [startF s o] 1 none seen).step = mAt text lim s 7 s hd o #[some s, y] 0 (-1) [startF s o] 1 none (seen.add 17) := by
  rfl
theorem st_branch (hd : Nat) : (mAt text lim s 7 s hd o #[some s, y] 0 (-1) [startF s o] 1 none seen).step = mAt text lim s 9 s s o #[some s, y] 0 (-1) [brF s 8 o, startF s o] 2 none (seen.add 7) := by
  rfl
noncomputable def digits (text : Array Nat) : Nat → Nat → Nat
  | 0, _ => 0
  | n + 1, p => if isDig (text.getD p 0) then digits text n (p + 1) + 1 else 0
theorem acc_dig (c : Nat) (seen : Seen) : ∃ seen', accepts sreCode 13 c seen = .ok (isDig c, seen') := by
  show ∃ seen', inSet sreCode c sreCode.size 15 true seen = .ok (isDig c, seen')
  show ∃ seen', (if (decide (48 ≤ c) && decide (c ≤ 57)) = true then Except.ok (true, seen.add 22) else inSet sreCode c 40 18 true (seen.add 22)) = .ok (isDig c, seen')
  split
  · rename_i h; exact ⟨_, by rw [show isDig c = true from h]⟩
  · rename_i h
    rw [show isDig c = false from by unfold isDig; exact Bool.not_eq_true _ ▸ h]
    exact ⟨_, rfl⟩
theorem run_dig : ∀ (n p f : Nat) (seen : Seen), ∃ seen', Sre.run sreCode text 13 n p f seen = .ok (f + digits text n p, seen')
  | 0, p, f, seen => ⟨seen, rfl⟩
  | n + 1, p, f, seen => by
    obtain ⟨s1, e1⟩ := acc_dig (text.getD p 0) seen
    obtain ⟨s2, e2⟩ := run_dig n (p + 1) (f + 1) s1
    unfold Sre.run
    rw [e1]
    cases hd : isDig (text.getD p 0) with
    | true => refine ⟨s2, ?_⟩; show Sre.run sreCode text 13 n (p + 1) (f + 1) s1 = _; rw [e2]; rw [digits, if_pos hd]; congr 2; (exact Nat.add_right_comm _ _ _)
    | false => refine ⟨s1, ?_⟩; show Except.ok (f, s1) = _; rw [digits, if_neg (by rw [hd]; exact Bool.false_ne_true)]; rfl
theorem st_repeat : ∃ seen', (mAt text lim s 9 s s o #[some s, y] 0 (-1) [brF s 8 o, startF s o] 2 none seen).step =
    (if s < lim ∧ 0 < digits text (min 4294967295 (lim - s)) s then
      mAt text lim s 20 (s + digits text (min 4294967295 (lim - s)) s) (s + digits text (min 4294967295 (lim - s)) s) o #[some s, y] 0 (-1) [gbF (s + digits text (min 4294967295 (lim - s)) s) o (digits text (min 4294967295 (lim - s)) s), brF s 8 o, startF s o] 3 none seen'
    else mAt text lim s 9 s s o #[some s, y] 0 (-1) [brF s 8 o, startF s o] 2 (some false) seen') := by
  obtain ⟨s2, e2⟩ := run_dig (text := text) (min 4294967295 (lim - s)) s 0 ((seen.add 24).add 13)
  have hroom : ((lim : Int) - (s : Int)).toNat = lim - s := by (first | exact Int.toNat_sub _ _ | lia)
  have h : (mAt text lim s 9 s s o #[some s, y] 0 (-1) [brF s 8 o, startF s o] 2 none seen).step =
      (if (1 : Int) > (lim : Int) - (s : Int) then mAt text lim s 9 s s o #[some s, y] 0 (-1) [brF s 8 o, startF s o] 2 (some false) (seen.add 24) else
       match Sre.run sreCode text 13 (min 4294967295 ((lim : Int) - (s : Int)).toNat) s 0 ((seen.add 24).add 13) with
       | .error why => (mAt text lim s 9 s s o #[some s, y] 0 (-1) [brF s 8 o, startF s o] 2 none (seen.add 24)).stick why
       | .ok (n, seen) => if n < 1 then mAt text lim s 9 s s o #[some s, y] 0 (-1) [brF s 8 o, startF s o] 2 (some false) seen else
          mAt text lim s 20 (s + n) (s + n) o #[some s, y] 0 (-1) [gbF (s + n) o n, brF s 8 o, startF s o] 3 none seen) := by rfl
  rw [h, hroom, e2]
  by_cases h1 : s < lim
  · rw [if_neg (by (first | exact Int.not_lt.mpr (Int.sub_pos_of_lt (Int.ofNat_lt.mpr h1)) | lia))]
    refine ⟨s2, ?_⟩
    by_cases h2 : 0 < digits text (min 4294967295 (lim - s)) s
    · rw [if_pos ⟨h1, h2⟩]
      simp only [Nat.zero_add]
      rw [if_neg (by (first | exact Nat.not_lt.mpr h2 | lia))]
    · rw [if_neg (fun q => h2 q.2)]
      simp only [Nat.zero_add]
      rw [if_pos (by (exact Nat.lt_of_not_le h2))]
  · refine ⟨seen.add 24, ?_⟩
    rw [if_pos (by (first | exact Int.lt_of_le_of_lt (Int.sub_nonpos_of_le (Int.ofNat_le.mpr (Nat.le_of_not_lt h1))) Int.zero_lt_one | omega)), if_neg (fun q => h1 q.1)]
theorem st_jump1 {p : Nat} {fr : List Sre.Frame} {wt : Nat} : (mAt text lim s 20 p p o #[some s, y] 0 (-1) fr wt none seen).step = mAt text lim s 38 p p o #[some s, y] 0 (-1) fr wt none (seen.add 15) := by rfl
theorem st_jump2 {p hd : Nat} {fr : List Sre.Frame} {wt : Nat} : (mAt text lim s 35 p hd o #[some s, y] 0 (-1) fr wt none seen).step = mAt text lim s 38 p hd o #[some s, y] 0 (-1) fr wt none (seen.add 15) := by rfl
theorem st_mark1 {p hd : Nat} {fr : List Sre.Frame} {wt : Nat} : (mAt text lim s 38 p hd o #[some s, y] 0 (-1) fr wt none seen).step = mAt text lim s 40 p hd o #[some s, some p] 1 1 fr wt none (seen.add 17) := by
  show (M.mark { (mAt text lim s 38 p hd o #[some s, y] 0 (-1) fr wt none seen) with seen := seen.add 17 } 1) = _
  unfold M.mark
  show ({ mAt text lim s 38 p hd o _ _ _ fr wt none (seen.add 17) with pc := 40, marks := _, lastmark := _, lastindex := _ } : M) = _
  congr 1
theorem st_success {p hd : Nat} {fr : List Sre.Frame} {wt : Nat} {mk : Array (Option Nat)} : (mAt text lim s 40 p hd o mk 1 1 fr wt none seen).step = mAt text lim s 40 p p o mk 1 1 fr wt (some true) (seen.add 1) := by
  show (if (o && ((false && p != lim) || (false && p == s))) = true then _ else _) = _
  simp only [Bool.false_and, Bool.or_false, Bool.and_false, Bool.false_eq_true, if_false]
  rfl
theorem st_gb {p q hd pc : Nat} {n : Int} {fr : List Sre.Frame} {wt : Nat} {mk : Array (Option Nat)} {o' : Bool} : (mAt text lim s pc p hd o mk 1 1 (gbF q o' n :: fr) (wt + 1) (some true) seen).step = mAt text lim s 9 q hd o' mk 1 1 fr wt (some true) seen := by rfl
theorem st_br {p q hd pc j : Nat} {fr : List Sre.Frame} {wt : Nat} {mk : Array (Option Nat)} {o' : Bool} : (mAt text lim s pc p hd o mk 1 1 (brF q j o' :: fr) (wt + 1) (some true) seen).step = mAt text lim s j q hd o' mk 1 1 fr wt (some true) seen := by rfl
theorem st_start {p hd pc : Nat} {fr : List Sre.Frame} {wt : Nat} {mk : Array (Option Nat)} {o' : Bool} : (mAt text lim s pc p hd o mk 1 1 (startF s o' :: fr) (wt + 1) (some true) seen).step = mAt text lim s 5 s hd o' mk 1 1 fr wt (some true) seen := by rfl
theorem st_end {p hd pc : Nat} {wt : Nat} {mk : Array (Option Nat)} {b : Bool} {lm li : Int} : (mAt text lim s pc p hd o mk lm li [] wt (some b) seen).step = { mAt text lim s pc p hd o mk lm li [] wt (some b) seen with outcome := some (if b then .matched else .failed) } := by rfl
theorem st_br2 {p hd pc : Nat} {fr : List Sre.Frame} : (mAt text lim s pc p hd o #[some s, y] 0 (-1) (brF s 8 o :: fr) 2 (some false) seen).step = mAt text lim s 23 s s o #[some s, y] 0 (-1) (brF s 22 o :: fr) 2 none seen := by rfl
theorem inSet_sgn (c : Nat) (seen : Seen) : ∃ seen', accepts sreCode 23 c seen = .ok (isSgn c, seen') := by
  show ∃ seen', inSet sreCode c 41 25 true seen = .ok (isSgn c, seen')
  have h : inSet sreCode c 41 25 true seen = (if (decide (c < 256) && (sreCode.getD (25 + (1 + c / 32)) 0).testBit (c % 32)) = true then .ok (true, seen.add 9) else inSet sreCode c 40 34 true (seen.add 9)) := rfl
  rw [h]
  have h2 : (decide (c < 256) && (sreCode.getD (25 + (1 + c / 32)) 0).testBit (c % 32)) = isSgn c := by
    by_cases hc : c < 256
    · have : ∀ c, c < 256 → (decide (c < 256) && (sreCode.getD (25 + (1 + c / 32)) 0).testBit (c % 32)) = isSgn c := by decide +kernel
      exact this c hc
    · rw [decide_eq_false hc, Bool.false_and]
      unfold isSgn
      simp only [Bool.false_eq, Bool.or_eq_false_iff, beq_eq_false_iff_ne]
      (first | exact ⟨⟨⟨zNe (Nat.le_of_not_lt hc) rfl, zNe (Nat.le_of_not_lt hc) rfl⟩, zNe (Nat.le_of_not_lt hc) rfl⟩, zNe (Nat.le_of_not_lt hc) rfl⟩ | lia)
  rw [h2]
  cases isSgn c with
  | true => exact ⟨_, rfl⟩
  | false => exact ⟨_, rfl⟩
theorem st_in {fr : List Sre.Frame} : ∃ seen', (mAt text lim s 23 s s o #[some s, y] 0 (-1) fr 2 none seen).step =
    (if s < lim ∧ isSgn (text.getD s 0) = true then mAt text lim s 35 (s + 1) s o #[some s, y] 0 (-1) fr 2 none seen' else mAt text lim s 23 s s o #[some s, y] 0 (-1) fr 2 (some false) seen') := by
  obtain ⟨s2, e2⟩ := inSet_sgn (text.getD s 0) (seen.add 13)
  have h : (mAt text lim s 23 s s o #[some s, y] 0 (-1) fr 2 none seen).step =
      (if s ≥ lim then mAt text lim s 23 s s o #[some s, y] 0 (-1) fr 2 (some false) (seen.add 13) else
       match accepts sreCode 23 (text.getD s 0) (seen.add 13) with
       | .error why => (mAt text lim s 23 s s o #[some s, y] 0 (-1) fr 2 none (seen.add 13)).stick why
       | .ok (false, seen) => mAt text lim s 23 s s o #[some s, y] 0 (-1) fr 2 (some false) seen
       | .ok (true, seen) => mAt text lim s 35 (s + 1) s o #[some s, y] 0 (-1) fr 2 none seen) := by rfl
  rw [h, e2]
  by_cases h1 : s < lim
  · rw [if_neg (by (first | exact Nat.not_le_of_lt h1 | lia))]
    refine ⟨s2, ?_⟩
    cases h2 : isSgn (text.getD s 0) with
    | true => rw [if_pos ⟨h1, rfl⟩]
    | false => rw [if_neg (by rintro ⟨_, q⟩; cases q)]
  · refine ⟨seen.add 13, ?_⟩
    rw [if_pos (by (exact Nat.le_of_not_lt h1)), if_neg (fun q => h1 q.1)]
theorem st_br3 {p hd pc : Nat} {fr : List Sre.Frame} : (mAt text lim s pc p hd o #[some s, y] 0 (-1) (brF s 22 o :: fr) 2 (some false) seen).step = mAt text lim s 22 s hd o #[some s, y] 0 (-1) fr 1 (some false) seen := by rfl
theorem st_next {p hd pc : Nat} : (mAt text lim s pc p hd o #[some s, y] 0 (-1) [startF s o] 1 (some false) seen).step =
    (if s < lim then mAt text lim (s + 1) 5 (s + 1) (s + 1) false #[some s, y] (-1) (-1) [startF (s + 1) false] 1 none seen else mAt text lim s 5 s hd o #[some s, y] 0 (-1) [] 0 (some false) seen) := by rfl

noncomputable def findFrom (text : Array Nat) (lim : Nat) : Nat → Nat → Option (Nat × Nat)
  | 0, _ => none
  | n + 1, s => if s < lim then (if isDig (text.getD s 0) then some (s, s + digits text (min 4294967295 (lim - s)) s) else if isSgn (text.getD s 0) then some (s, s + 1) else findFrom text lim n (s + 1)) else none

theorem digits_pos {n p : Nat} (h : 0 < n) : 0 < digits text n p ↔ isDig (text.getD p 0) = true := by
  cases n with
  | zero => lia
  | succ n => unfold digits; cases h : isDig (text.getD p 0) <;> simp

theorem search : ∀ (n s : Nat) (o : Bool) (x y : Option Nat) (seen : Seen), lim - s < n → ∃ k m', k ≤ 20 * n ∧ stepN k (mAt text lim s 5 s s o #[x, y] (-1) (-1) [startF s o] 1 none seen) = m' ∧
    match findFrom text lim n s with
    | some (b, e) => m'.outcome = some .matched ∧ m'.start = b ∧ m'.handed = e ∧ m'.marks = #[some b, some e] ∧ m'.lastmark = 1
    | none => m'.outcome = some .failed
  | 0, s, o, x, y, seen, h => by lia
  | n + 1, s, o, x, y, seen, h => by
    obtain ⟨sr, er⟩ := st_repeat (text := text) (lim := lim) (s := s) (o := o) (y := y) (seen := (seen.add 17).add 7)
    have e3 : stepN 3 (mAt text lim s 5 s s o #[x, y] (-1) (-1) [startF s o] 1 none seen) = (mAt text lim s 9 s s o #[some s, y] 0 (-1) [brF s 8 o, startF s o] 2 none ((seen.add 17).add 7)).step := by
      rw [stepN_succ 2, st_mark0, stepN_succ 1, st_branch, stepN_succ 0, stepN0]
    rw [er] at e3
    by_cases hd : s < lim ∧ 0 < digits text (min 4294967295 (lim - s)) s
    · rw [if_pos hd] at e3
      have hdd : isDig (text.getD s 0) = true := (digits_pos (by (first | exact Nat.lt_min.mpr ⟨Nat.succ_pos _, Nat.sub_pos_of_lt hd.1⟩ | lia))).mp hd.2
      refine ⟨3 + 7, _, by (exact Nat.le_add_left _ _), rfl, ?_⟩
      unfold findFrom
      rw [if_pos hd.1, if_pos hdd, stepN_add, e3]
      rw [stepN_succ 6, st_jump1, stepN_succ 5, st_mark1, stepN_succ 4, st_success, stepN_succ 3, st_gb (wt := 2), stepN_succ 2, st_br (wt := 1), stepN_succ 1, st_start (wt := 0), stepN_succ 0, st_end, stepN0]
      exact ⟨rfl, rfl, rfl, rfl, rfl⟩
    · rw [if_neg hd] at e3
      have hnd : ¬ (s < lim ∧ isDig (text.getD s 0) = true) := fun q => hd ⟨q.1, (digits_pos (by lia)).mpr q.2⟩
      obtain ⟨si, ei⟩ := st_in (text := text) (lim := lim) (s := s) (o := o) (y := y) (seen := sr) (fr := [brF s 22 o, startF s o])
      have e5 : stepN 5 (mAt text lim s 5 s s o #[x, y] (-1) (-1) [startF s o] 1 none seen) = (mAt text lim s 23 s s o #[some s, y] 0 (-1) [brF s 22 o, startF s o] 2 none sr).step := by
        rw [stepN_add 3 2, e3]
        rw [stepN_succ 1, st_br2, stepN_succ 0, stepN0]
      rw [ei] at e5
      by_cases hs : s < lim ∧ isSgn (text.getD s 0) = true
      · rw [if_pos hs] at e5
        refine ⟨5 + 6, _, by (exact Nat.le_add_left _ _), rfl, ?_⟩
        unfold findFrom
        rw [if_pos hs.1, if_neg (fun q => hnd ⟨hs.1, q⟩), if_pos hs.2, stepN_add, e5]
        rw [stepN_succ 5, st_jump2, stepN_succ 4, st_mark1, stepN_succ 3, st_success, stepN_succ 2, st_br (wt := 1), stepN_succ 1, st_start (wt := 0), stepN_succ 0, st_end, stepN0]
        exact ⟨rfl, rfl, rfl, rfl, rfl⟩
      · rw [if_neg hs] at e5
        have e7 : stepN 7 (mAt text lim s 5 s s o #[x, y] (-1) (-1) [startF s o] 1 none seen) = (if s < lim then mAt text lim (s + 1) 5 (s + 1) (s + 1) false #[some s, y] (-1) (-1) [startF (s + 1) false] 1 none si else mAt text lim s 5 s s o #[some s, y] 0 (-1) [] 0 (some false) si) := by
          rw [stepN_add 5 2, e5]
          rw [stepN_succ 1, st_br3, stepN_succ 0, st_next, stepN0]
        by_cases hl : s < lim
        · rw [if_pos hl] at e7
          obtain ⟨k, m', hk, hm, hr⟩ := search n (s + 1) false (some s) y si (by (first | exact Nat.lt_of_succ_lt_succ (zEq (congrArg Nat.succ (zSub hl).symm) h) | lia))
          refine ⟨7 + k, m', by (first | exact Nat.le_trans (Nat.add_le_add (Nat.le_of_ble_eq_true rfl : 7 ≤ 20) hk) (Nat.le_of_eq (Nat.add_comm 20 _)) | lia), by rw [stepN_add, e7, hm], ?_⟩
          unfold findFrom
          rw [if_pos hl, if_neg (fun q => hnd ⟨hl, q⟩), if_neg (fun q => hs ⟨hl, q⟩)]
          exact hr
        · rw [if_neg hl] at e7
          refine ⟨7 + 1, _, by (exact Nat.le_add_left _ _), rfl, ?_⟩
          unfold findFrom
          rw [if_neg hl, stepN_add, e7]
          rw [stepN_succ 0, st_end, stepN0]
          rfl
end Mine
end

section
set_option Elab.async false
set_option maxRecDepth 100000
set_option linter.unusedVariables false
namespace Mine
open PySem PySem.W PyProof.Rows PySem.Calls

theorem plainAttrs_rePattern : PlainAttrs "re.Pattern" :=
  ⟨⟨"object.__getattribute__", by rw [typeLookup_type, builtinLookup_eq_fast]; kernel_rfl, by decide +kernel⟩, by rw [typeLookup_type, builtinLookup_eq_fast]; kernel_rfl⟩
theorem slot_split : Slot "re.Pattern" "split" "re.Pattern.split" :=
  .of (owner := "re.Pattern") (n := "split") (by rw [typeLookup_type, builtinLookup_eq_fast]; kernel_rfl) (by decide +kernel) (by decide +kernel) (by decide +kernel)
    (by first | exact .inl (by decide +kernel) | exact .inr (by decide +kernel)) (by rw [isSubtype_type]; kernel_rfl)
theorem type_split : typeOf (.builtin "re.Pattern.split") = pure (.type "method_descriptor") := by show builtinType _ = _; rw [builtinType_eq_fast]; kernel_rfl
theorem entry_split : entryFor table "re.Pattern.split" = some Builtin.«re.Pattern.split» := entryFor_of_tree (by kernel_rfl)
theorem args_split (a b : Value) : argsOk "re.Pattern.split" ⟨[a, b], []⟩ := by
  unfold argsOk
  kernel_rfl


section
variable {M : Model} {A : Around} {E : Value → Shared → Prop} {s : Shared}
open PySem.Builtin.Re
theorem wp_reDrive {Q : Sre.M → Shared → Prop} : ∀ (turns k : Nat) (m : Sre.M), k < 4 * turns → (stepN k m).outcome.isSome = true → Q (stepN k m) s → wpAny M A (reDrive turns m) Q E s
  | 0, k, m, hk, _, _ => by lia
  | turns + 1, k, m, hk, ho, hq => by
    show wpAny M A (if (Sre.M.runFor 4 m).outcome.isSome = true then pure (Sre.M.runFor 4 m) else do rule "sre.turn"; reDrive turns (Sre.M.runFor 4 m)) Q E s
    rw [runFor_eq]
    have small : k ≤ 4 → stepN 4 m = stepN k m := fun h => by
      rw [show (4 : Nat) = k + (4 - k) by (first | exact (Nat.add_sub_of_le h).symm | omega), stepN_add, stepN_done ho]
    by_cases h4 : (stepN 4 m).outcome.isSome = true
    · rw [if_pos h4]
      refine wpAny_pure ?_
      have e : stepN 4 m = stepN k m := by
        by_cases h : k ≤ 4
        · exact small h
        · rw [show k = 4 + (k - 4) by (first | exact (Nat.add_sub_of_le (Nat.le_of_lt (Nat.lt_of_not_le h))).symm | lia), stepN_add, stepN_done h4]
      rw [e]; exact hq
    · rw [if_neg h4]
      have h : 4 < k := by
        rcases Nat.lt_or_ge 4 k with h | h
        · exact h
        · rw [small h] at h4; exact absurd ho h4
      refine wpAny_bind (wpAny_rule ?_)
      have e : stepN k m = stepN (k - 4) (stepN 4 m) := by rw [← stepN_add, show 4 + (k - 4) = k by (first | exact Nat.add_sub_of_le (Nat.le_of_lt h) | lia)]
      rw [e] at ho hq
      exact wp_reDrive turns (k - 4) _ (by (first | exact Nat.sub_lt_right_of_lt_add (Nat.le_of_lt h) hk | lia)) ho hq
noncomputable def fewSteps (k : Nat) : Prop := k < 4 * 2 ^ 64
theorem wp_runToEnd {Q : Option Sre.M → Shared → Prop} {k : Nat} {m m' : Sre.M} (hk : fewSteps k) (hm : stepN k m = m') (ho : (m'.outcome = some .matched ∧ Q (some m') s) ∨ (m'.outcome = some .failed ∧ Q none s)) :
    wpAny M A (reRunToEnd m) Q E s := by
  unfold reRunToEnd
  refine wpAny_bind (wp_reDrive (2 ^ 64) k m hk (by rw [hm]; rcases ho with h | h <;> rw [h.1] <;> rfl) ?_)
  rw [hm]
  refine wpAny_bind (wpAny_forIn_list _ (fun _ _ s' => s' = s) _ (fun i rest b s' e => ?_) (fun b s' e => ?_) _ _ rfl)
  · subst e
    split
    · exact wpAny_bind (wpAny_rule (wpAny_pure rfl))
    · exact wpAny_pure rfl
  · subst e
    rcases ho with h | h <;> rw [h.1]
    · exact wpAny_pure h.2
    · exact wpAny_pure h.2

theorem forSearch_eq (text : Array Nat) (pos lim : Nat) (h : pos < lim) : Sre.forSearch sreCode text 1 pos lim false = mAt text lim pos 5 pos pos true #[none, none] (-1) (-1) [startF pos true] 1 none (({} : Sre.Seen).add 14) := by
  have h1 : (decide (pos > lim) || decide (lim - pos < 1)) = false := by simp; (first | exact ⟨Nat.le_of_lt h, fun ze => Nat.not_le_of_lt h (Nat.le_of_sub_eq_zero ze)⟩ | lia)
  show (if pos > lim || lim - pos < 1 then _ else _) = _
  rw [if_neg (by simpa using h1)]
  rfl
theorem forSearch_past (text : Array Nat) (pos lim : Nat) (h : ¬ pos < lim) : (stepN 1 (Sre.forSearch sreCode text 1 pos lim false)).outcome = some .failed := by
  have h1 : (decide (pos > lim) || decide (lim - pos < 1)) = true := by simp; (first | exact .inr (Nat.sub_eq_zero_of_le (Nat.le_of_not_lt h)) | lia)
  have e : Sre.forSearch sreCode text 1 pos lim false = (if pos > lim || lim - pos < 1 then ({ mAt text lim pos 5 pos pos true #[none, none] (-1) (-1) [] 0 none (({} : Sre.Seen).add 14) with lastStart := 0 } : Sre.M).say false else
     mAt text lim pos 5 pos pos true #[none, none] (-1) (-1) [startF pos true] 1 none (({} : Sre.Seen).add 14)) := rfl
  rw [e, if_pos (by simpa using h1)]
  rfl

theorem wp_next {Q : Option Sre.M → Shared → Prop} {t : ReTarget} {start : Nat} (hc : t.code = sreCode) (hg : t.groups = 1) (hl : t.lim < 2 ^ 30)
    (h : match findFrom t.text t.lim (t.lim - start + 1) start with
      | some (b, e) => ∀ m' : Sre.M, m'.start = b → m'.handed = e → m'.marks = #[some b, some e] → m'.lastmark = 1 → Q (some m') s
      | none => Q none s) : wpAny M A (reNextFound t start false) Q E s := by
  unfold reNextFound
  rw [hc, hg]
  by_cases hs : start < t.lim
  · rw [forSearch_eq _ _ _ hs]
    obtain ⟨k, m', hk, hm, hr⟩ := search (text := t.text) (lim := t.lim) (t.lim - start + 1) start true none none (({} : Sre.Seen).add 14) (by (exact Nat.le_refl _))
    have hk' : fewSteps k := by unfold fewSteps; (first | exact zLt (Nat.le_trans hk (Nat.mul_le_mul_left 20 (Nat.succ_le_succ (Nat.le_trans (Nat.sub_le _ _) (Nat.le_of_lt hl))))) rfl | omega)
    clear hk
    revert hm
    generalize mAt t.text t.lim start 5 start start true #[none, none] (-1) (-1) [startF start true] 1 none (({} : Sre.Seen).add 14) = m0
    intro hm
    refine wp_runToEnd hk' hm ?_
    revert hr h
    generalize findFrom t.text t.lim (t.lim - start + 1) start = f
    intro h hr
    cases f with
    | none => exact .inr ⟨hr, h⟩
    | some p => exact .inl ⟨hr.1, h m' hr.2.1 hr.2.2.1 hr.2.2.2.1 hr.2.2.2.2⟩
  · refine wp_runToEnd (k := 1) (by unfold fewSteps; (exact Nat.le_add_left _ _)) rfl (.inr ⟨forSearch_past _ _ _ hs, ?_⟩)
    unfold findFrom at h
    rw [if_neg hs] at h
    exact h

theorem findFrom_spec {text : Array Nat} {lim : Nat} : ∀ {n s b e : Nat}, findFrom text lim n s = some (b, e) → s ≤ b ∧ b < e ∧ e ≤ lim
  | 0, s, b, e, h => by simp [findFrom] at h
  | n + 1, s, b, e, h => by
    have hdig : ∀ n p, digits text n p ≤ n := by
      intro n
      induction n with
      | zero => intro p; simp [digits]
      | succ n ih => intro p; unfold digits; split <;> have := ih (p + 1) <;> lia
    unfold findFrom at h
    split at h
    · rename_i hs
      split at h
      · rename_i hd
        cases h
        have h1 := (digits_pos (text := text) (n := min 4294967295 (lim - s)) (p := s) (by (first | exact Nat.lt_min.mpr ⟨Nat.succ_pos _, Nat.sub_pos_of_lt hs⟩ | lia))).mpr hd
        have h2 := hdig (min 4294967295 (lim - s)) s
        (first | exact ⟨Nat.le_refl _, Nat.lt_add_of_pos_right h1, Nat.add_le_of_le_sub' (Nat.le_of_lt (Nat.lt_of_sub_pos (Nat.lt_of_lt_of_le h1 (Nat.le_trans h2 (Nat.min_le_right _ _))))) (Nat.le_trans h2 (Nat.min_le_right _ _))⟩ | lia)
      · split at h
        · cases h; (first | exact ⟨Nat.le_refl _, Nat.lt_succ_self _, hs⟩ | lia)
        · have := findFrom_spec h; (first | exact ⟨Nat.le_of_succ_le this.1, this.2⟩ | lia)
    · cases h

noncomputable def cuts (text : Array Nat) : Nat → Nat → List PySem.Str
  | 0, st => [⟨text.extract st text.size⟩]
  | n + 1, st => match findFrom text text.size (text.size - st + 1) st with
    | none => [⟨text.extract st text.size⟩]
    | some (b, e) => ⟨text.extract st b⟩ :: ⟨text.extract b e⟩ :: cuts text n e
noncomputable def splitS (x : PySem.Str) : List PySem.Str := cuts x.cps (x.cps.size + 1) 0

theorem wp_reSlice {Q : Value → Shared → Prop} {text : Array Nat} {b e : Nat} (hl : text.size ≤ 1000000) (h : Q (.str ⟨text.extract b e⟩ s.toks) { s with toks := s.toks + 1 }) : wpAny M A (reSlice text 0 b e) Q E s := by
  show wpAny M A (mkStr ⟨text.extract b e⟩) Q E s
  refine wpAny_mkStr h ?_
  have : (⟨text.extract b e⟩ : PySem.Str).length ≤ text.size := by
    show (text.extract b e).size ≤ _
    rw [Array.size_extract]; (first | exact Nat.le_trans (Nat.sub_le _ _) (Nat.min_le_right _ _) | omega)
  rw [sizeLine_eq]; (first | exact zLe (Nat.le_trans this hl) rfl | lia)
end
open PySem.Builtin.Re
theorem reNamed_split (v : Value) : reNamed "re.Pattern.split" "split" ["string", "maxsplit"] 1 [v] [] = pure [some v, none] := by
  kernel_rfl
section
variable {C : Cx} {n : Nat} {O : List Ob} {Φ : D → List Ob → Prop} {prog : Program} {w : World} {A : Around} {E : Value → Shared → Prop} {s : Shared}
structure PatAt (h : Heap) (a : Addr) : Prop where
  here : ∃ o ca v0 v1 t2 v3 v4 t6 oc items k, h.get? a = some o ∧ o.cls = .type "re.Pattern" ∧ o.dict = none ∧ o.data = .fields #[v0, v1, .int 1 t2, v3, v4, .ref ca, .int 0 t6] ∧ h.get? ca = some oc ∧ oc.data = .seq items k ∧ (items.map reRawOf).map (·.toNat) = sreCode

theorem wp_wholeTarget {a : Addr} {x : PySem.Str} {t : Tok} {Q : ReTarget → Shared → Prop} (hp : PatAt s.heap a) (h : ∀ tg : ReTarget, tg.code = sreCode → tg.groups = 1 → tg.text = x.cps → tg.kind = 0 → tg.lim = x.cps.size → Q tg s) :
    wpAny (model prog w) A (reWholeTarget (.ref a) (.str x t)) Q E s := by
  obtain ⟨o, ca, v0, v1, t2, v3, v4, t6, oc, items, k, h1, h2, _, h3, h4, h5, h6⟩ := hp.here
  unfold reWholeTarget
  refine wpAny_bind (wpAny_fieldsOf h1 h3 ?_)
  have e1 : reTextOf (.str x t) = pure (x.cps, 0) := by rfl
  rw [e1]
  refine wpAny_bind (wpAny_pure ?_)
  show wpAny _ _ ((seqItems? (.ref ca) >>= fun r => pure ((r.getD #[]).map reRawOf)) >>= fun c => pure _) _ _ _
  refine wpAny_bind (wpAny_bind (wpAny_seqItems h4 h5 (wpAny_pure (wpAny_pure ?_))))
  exact h _ h6 rfl rfl rfl rfl

theorem cuts_bound {text : Array Nat} : ∀ n st, (cuts text n st).length ≤ 2 * n + 1
  | 0, st => by simp [cuts]
  | n + 1, st => by
    unfold cuts
    split
    · simp
    · rename_i b e _
      have := cuts_bound n e (text := text)
      simp; (exact Nat.add_le_add_right this _)

theorem forIn_st {α β : Type} {f : α → β → Sem (ForInStep β)} {l : List α} {b : β} {Q : β → Shared → Prop} (I : Nat → β → Shared → Prop)
    (turn : ∀ i L b s, I (L + 1) b s → ∀ Q' : ForInStep β → Shared → Prop, (∀ b' s', I L b' s' → Q' (.yield b') s') → wpAny (model prog w) A (f i b) Q' E s) (h : I l.length b s) (fin : ∀ b s, I 0 b s → Q b s) : wpAny (model prog w) A (forIn l b f) Q E s :=
  wpAny_forIn_list f (fun l b s => I l.length b s) Q (fun i rest b s hI => turn i rest.length b s hI _ fun _ _ h => h) fin l b h
inductive SplitI (H : PHeap) (tg : ReTarget) (s : Shared) (L : Nat) : (Array Value × Nat × Nat × Bool × Int × Bool) → Shared → Prop
  | over (out start last m done k) (hd : DenL H (done.map T.str) out.toList) (he : done ++ [⟨tg.text.extract last tg.text.size⟩] = cuts tg.text (tg.text.size + 1) 0) : SplitI H tg s L (out, start, last, false, m, true) { s with toks := k }
  | on (out last m done fuel k) (hla : last ≤ tg.text.size) (hd : DenL H (done.map T.str) out.toList) (he : done ++ cuts tg.text fuel last = cuts tg.text (tg.text.size + 1) 0) (hf : tg.text.size - last < fuel) (hr : tg.text.size - last < L) : SplitI H tg s L (out, last, last, false, m, false) { s with toks := k }
theorem cuts_none {text : Array Nat} {fuel st : Nat} (h : findFrom text text.size (text.size - st + 1) st = none) : cuts text (fuel + 1) st = [⟨text.extract st text.size⟩] := by rw [cuts, h]
theorem cuts_some {text : Array Nat} {fuel st b e : Nat} (h : findFrom text text.size (text.size - st + 1) st = some (b, e)) : cuts text (fuel + 1) st = ⟨text.extract st b⟩ :: ⟨text.extract b e⟩ :: cuts text fuel e := by rw [cuts, h]
theorem group_slice {tg : ReTarget} {m' : Sre.M} {b e : Nat} (hg : tg.groups = 1) (q3 : m'.marks = #[some b, some e]) (q4 : m'.lastmark = 1) (h : ¬ e < b) (d : Sem Value) : reMachineGroup tg m' (0 + 1) d = reSlice tg.text tg.kind b e := by
  unfold reMachineGroup
  rw [q4, q3]
  show (if ((0 : Nat) : Int) ≥ 1 then d else if e < b then reWrongSpan else reSlice tg.text tg.kind b e) = _
  rw [if_neg (by decide), if_neg h]
theorem isStrT {H : PHeap} {x : Str} {t : Tok} : Den H (.str x) (.str x t) := by unfold Den; exact ⟨_, rfl⟩

theorem wp_split {H : PHeap} {a : Addr} {x : PySem.Str} {t : Tok} {R : Result → Shared → Prop} (hl : x.cps.size ≤ 1000000) (hp : PatAt s.heap a)
    (h : ∀ vs k, DenL H ((splitS x).map T.str) vs → R (.ok (.ret (.ref s.heap.objs.size))) { s with heap := s.heap.push { cls := .type "list", data := .seq vs.toArray }, toks := k }) :
    wpAny (model prog w) A (Builtin.«re.Pattern.split» ⟨[.ref a, .str x t], []⟩) (fun fin s' => match fin with | .done f => R (.ok f) s' | .again c' => False) E s := by
  show wpAny _ _ (reNamed "re.Pattern.split" "split" ["string", "maxsplit"] 1 [.str x t] [] >>= _) _ _ _
  rw [reNamed_split]
  refine wpAny_bind (wpAny_pure ?_)
  refine wpAny_bind (m := pure (0 : Int)) (wpAny_pure ?_)
  refine wpAny_bind (wp_wholeTarget hp fun tg hc hg ht hk hlim => ?_)
  have hlim : tg.lim = tg.text.size := by rw [hlim, ht]
  have hsz : tg.text.size ≤ 1000000 := by rw [ht]; exact hl
  have h : ∀ vs k, DenL H ((cuts tg.text (tg.text.size + 1) 0).map T.str) vs → R (.ok (.ret (.ref s.heap.objs.size))) { s with heap := s.heap.push { cls := .type "list", data := .seq vs.toArray }, toks := k } := by rw [ht]; exact h
  clear ht hp hl
  dsimp only
  refine wpAny_bind (forIn_st (SplitI H tg s) (fun i L b s' hI Q hQ => ?_) (.on #[] 0 _ [] (tg.text.size + 1) s.toks (Nat.zero_le _) .nil rfl (by (exact Nat.le_refl _)) (by rw [List.length_range]; unfold reMostMatches; lia)) fun b s' hI => ?_)
  · clear h
    cases hI with
    | over out start last m done k hd he => exact wpAny_pure (hQ _ _ (.over out start last m done k hd he))
    | on out start m done fuel k hla hd he hf hr =>
      show wpAny _ _ ((if ((0 : Int) != 0 && decide (m ≥ 0)) = true then pure none else reNextFound tg start false) >>= _) _ _ _
      refine wpAny_bind ?_
      rw [if_neg (by simp)]
      refine wp_next hc hg (by (first | exact zLt (zEq hlim hsz) rfl | lia)) ?_
      cases fuel with
      | zero => exact absurd hf (Nat.not_lt_zero _)
      | succ fuel =>
      rw [hlim]
      cases hff : findFrom tg.text tg.text.size (tg.text.size - start + 1) start with
      | none => exact wpAny_pure (hQ _ _ (.over out start start m done k hd (by rw [← he, cuts_none hff])))
      | some p =>
        obtain ⟨b, e⟩ := p
        obtain ⟨s1, s2, s3⟩ := findFrom_spec hff
        refine fun m' q1 q2 q3 q4 => wpAny_bind (m := reSlice tg.text tg.kind start m'.start) ?_
        rw [hk]
        refine wp_reSlice hsz ?_
        rw [hg]
        show wpAny _ _ (forIn [0] _ _ >>= _) _ _ _
        rw [List.forIn_cons, group_slice hg q3 q4 (Nat.lt_asymm s2), hk]
        refine wpAny_bind (wpAny_bind (wpAny_bind (wp_reSlice hsz (wpAny_pure ?_))))
        refine wpAny_pure (wpAny_pure ?_)
        have e5 : (m'.handed == m'.start) = false := by rw [q1, q2]; simp; (first | exact Nat.ne_of_lt' s2 | lia)
        rw [e5, q1, q2]
        refine hQ _ _ (.on _ e _ (done ++ [⟨tg.text.extract start b⟩, ⟨tg.text.extract b e⟩]) fuel _ s3 ?_ ?_ (by (first | exact om6 hf s1 s2 s3 | lia)) (by (first | exact om6 hr s1 s2 s3 | lia)))
        · rw [Array.toList_push, Array.toList_push, List.append_assoc, List.map_append]
          exact hd.append (.cons isStrT (.cons isStrT .nil))
        · rw [List.append_assoc, ← he, cuts_some hff]; rfl
  · cases hI with
    | on out start m done fuel k hla hd he hf hr => exact absurd hr (Nat.not_lt_zero _)
    | over out start last m done k hd he =>
      have hlen : out.toList.length + 1 ≤ sizeLine := by
        have h1 := cuts_bound (text := tg.text) (tg.text.size + 1) 0
        have h2 := congrArg List.length he
        have h3 := hd.length
        simp only [List.length_append, List.length_map, List.length_cons, List.length_nil] at h2 h3
        rw [sizeLine_eq]; (first | exact zLe (zEq ((congrArg Nat.succ h3).trans h2) (Nat.le_trans h1 (Nat.succ_le_succ (Nat.mul_le_mul_left 2 (Nat.succ_le_succ hsz))))) rfl | lia)
      show wpAny _ _ (reSlice tg.text tg.kind last tg.lim >>= _) _ _ _
      rw [hk, hlim]
      refine wpAny_bind (wp_reSlice hsz (wpAny_bind (wpAny_newList (wpAny_pure ?_) (by rw [Array.toList_push, List.length_append]; exact hlen))))
      refine h _ _ ?_
      rw [Array.toList_push, ← he, List.map_append]
      exact hd.append (.cons isStrT .nil)

theorem typeIs_pat {a : Addr} (hp : PatAt s.heap a) : s.TypeIs (.ref a) "re.Pattern" := by
  obtain ⟨o, ca, v0, v1, t2, v3, v4, t6, oc, items, k, h1, h2, h2', h3, h4, h5, h6⟩ := hp.here
  exact ⟨o, h1, h2⟩
theorem F_split {a : Addr} {x : PySem.Str} (hp : PatAt C.B a) (hl : x.cps.size ≤ 1000000) (h : Φ (.val (.list ((splitS x).map .str))) O) :
    ConB C n (.builtin "re.Pattern.split") O [.val (.static (.ref a)), .val (.str x)] [] Φ := ConB_2 fun A H as s E v u rm M d1 d2 => by
  obtain rfl := denStatic d1
  obtain ⟨t, rfl⟩ := denStr d2
  have hp' : PatAt s.heap a := by
    obtain ⟨o, ca, v0, v1, t2, v3, v4, t6, oc, items, k, h1, h2, h2', h3, h4, h5, h6⟩ := hp.here
    exact ⟨o, ca, v0, v1, t2, v3, v4, t6, oc, items, k, M.keepB _ _ h1, h2, h2', h3, M.keepB _ _ h4, h5, h6⟩
  refine wpAny_call (codeAny_call_builtin slot_split.plain entry_split (slot_split.check _ _ _ _ _ _ _ _ (typeIs_pat hp') (args_split _ _) ?_))
  refine wpAny_mono (wp_split (H := H) (R := fun r s' => match r with | .ok (.ret v) => After C A [] H as s Φ v s' | .ok _ => False | .error e => E e s') hl hp' fun vs k hv => ?_) (fun fin s' q => ?_) fun _ _ q => q
  · obtain ⟨M₂, R₂⟩ := M.put (o := listO vs.toArray 0) (s' := { s with heap := s.heap.push (listO vs.toArray 0), toks := k }) (get?_size _) (Heap.get?_push_size _ rfl) (fun b o e => Heap.get?_push_of_some _ e) rfl rfl
    refine ⟨_, O, _, as, h, M₂, ?_, R₂ _⟩
    unfold DenD Den
    exact ⟨_, _, 0, rfl, PHeap.put_self, by simpa using DenL.mono (R₂ []).mono _ _ hv⟩
  · cases fin with
    | done f => exact q
    | again c => exact q.elim
end
end Mine
end

section
set_option Elab.async false
set_option maxRecDepth 100000
set_option linter.unusedVariables false
namespace Mine
open PySem PySem.W PyProof.Rows PySem.Calls

noncomputable def fnBody (p : Program) (x : Str) : List Stmt := match p.theDef x with
  | some (_, b, _) => b
  | none => []
noncomputable def fnScope (p : Program) (x : Str) : Scope := match p.theDef x with
  | some (_, _, s) => s
  | none => { kind := .function, names := [], isGenerator := false, isCoroutine := false }
noncomputable def fnParams (p : Program) (x : Str) : Arguments := match p.theDef x with
  | some (a, _, _) => a
  | none => default
noncomputable abbrev fdOf (p : Program) (x : Str) (pm cd doc dV kV : Value) : FuncData := { docDef x (fnParams p x) (fnBody p x) (fnScope p x) pm cd doc with defaults := dV, kwdefaults := kV }
structure DefAt (C : Cx) (p : Program) (x : Str) (a : Addr) (dV kV : Value) : Prop where
  glob : C.mg x = some (.ref a)
  here : ∃ o pm cd doc, C.B.get? a = some o ∧ o.data = .func (fdOf p x pm cd doc dV kV) ∧ C.B.CodeRec cd x
noncomputable def nameOkB (sc : Kinds) (x : Str) : Bool := match sc.lookup x with
  | some .local => true
  | some .cell => true
  | _ => false
theorem nameOk_of {sc : Kinds} {x : Str} (h : nameOkB sc x = true) : nameOk sc x := by
  unfold nameOkB at h
  unfold nameOk
  split at h
  · rename_i e; exact .inl e
  · rename_i e; exact .inr e
  · cases h
noncomputable def isFun : ScopeKind → Bool
  | .function => true
  | _ => false
theorem isFun_of {k : ScopeKind} (h : isFun k = true) : k = .function := by cases k <;> first | rfl | cases h
noncomputable def nodupB : List Str → Bool
  | [] => true
  | x :: r => !r.contains x && nodupB r
theorem nodup_of : ∀ {l : List Str}, nodupB l = true → l.Nodup
  | [], _ => List.nodup_nil
  | x :: r, h => by
    unfold nodupB at h
    rw [Bool.and_eq_true] at h
    exact List.nodup_cons.mpr ⟨by simpa using h.1, nodup_of h.2⟩
noncomputable def textOkB (p : Program) (x : Str) (ps : List Str) : Bool :=
  isFun (fnScope p x).kind && !(fnScope p x).isCoroutine && !(fnScope p x).isGenerator && nodupB ((fnScope p x).names.map (·.1)) && nodupB ps && ps.all (nameOkB (fnScope p x).names)

section
variable {C : Cx} {n : Nat} {O : List Ob}
theorem Con_at {p x a dV kV ds kws} {ρ₀ : Vars} {Φ : D → List Ob → Prop} (F : DefAt C p x a dV kV) (ok : textOkB p x (ρ₀.map (·.1)) = true)
    (hbind : ∀ pm cd doc A H as s vs kvs, Mem C A H as O s → DenDs H as ds vs → kvs.map (·.1) = kws.map (·.1) → DenDs H as (kws.map (·.2)) (kvs.map (·.2)) → ∃ binds, BindsTo s (fdOf p x pm cd doc dV kV) ⟨vs, kvs⟩ binds ∧ BindsDen H as binds ρ₀)
    (h : WPs C n (fnScope p x).names ρ₀ O (fnBody p x) fun o => match o with
      | .next _ O' => Φ (.val .none) O'
      | .ret d O' => Φ d O'
      | _ => False) : Con C (n + 1) (.ref a) O ds kws Φ := by
  obtain ⟨o, pm, cd, doc, h1, h2, h3⟩ := F.here
  unfold textOkB at ok
  simp only [Bool.and_eq_true] at ok
  obtain ⟨⟨⟨⟨⟨k1, k2⟩, k3⟩, k4⟩, k5⟩, k6⟩ := ok
  have F' : FnOk C a (fdOf p x pm cd doc dV kV) (fnBody p x) := ⟨⟨o, h1, h2⟩, h3, rfl, rfl, rfl, rfl, isFun_of k1, (Bool.not_eq_true' _).mp k2, (Bool.not_eq_true' _).mp k3, nodup_of k4⟩
  exact Con_def F' (hbind pm cd doc) (nodup_of k5) (fun y hy => nameOk_of (List.all_eq_true.mp k6 y hy)) h
theorem BindsDen.of {H as} : ∀ {xs : List Str} {vs : List Value} {ds : List D}, xs.length = ds.length → DenDs H as ds vs → BindsDen H as (xs.zip vs) (xs.zip ds)
  | [], [], [], _, _ => ⟨rfl, trivial⟩
  | x :: xs, v :: vs, d :: ds, hl, ⟨h1, h2⟩ => by
    obtain ⟨q1, q2⟩ := BindsDen.of (xs := xs) (by simpa using hl) h2
    exact ⟨by simp [q1], h1, q2⟩
  | _ :: _, _, [], h, _ => by simp at h
  | [], _, _ :: _, h, _ => by simp at h
  | _ :: _, [], _ :: _, _, h => h.elim
  | [], _ :: _, [], _, h => h.elim
theorem Con_plain {p x a ds} (xs : List Str) {Φ : D → List Ob → Prop} (F : DefAt C p x a .none .none) (hl : xs.length = ds.length) (ok : textOkB p x xs = true)
    (hb : ∀ pm cd doc vs, vs.length = xs.length → bindArgs (fdOf p x pm cd doc .none .none) ⟨vs, []⟩ = pure (xs.zip vs))
    (h : WPs C n (fnScope p x).names (xs.zip ds) O (fnBody p x) fun o => match o with
      | .next _ O' => Φ (.val .none) O'
      | .ret d O' => Φ d O'
      | _ => False) : Con C (n + 1) (.ref a) O ds [] Φ := by
  have hm : (xs.zip ds).map (·.1) = xs := by rw [List.map_fst_zip]; (exact Nat.le_of_eq hl)
  refine Con_at F (ρ₀ := xs.zip ds) (by rw [hm]; exact ok) (fun pm cd doc A H as s vs kvs M h1 h2 h3 => ?_) h
  obtain rfl := kws_nil h2
  exact ⟨_, BindsTo.of_eq (hb pm cd doc vs (by rw [h1.length, hl])), .of hl h1⟩
end
end Mine
end

section
set_option Elab.async false
set_option maxRecDepth 100000
set_option linter.unusedVariables false
namespace Mine
open PySem PySem.W PyProof.Rows PySem.Calls

theorem Sub.nil {ρ : Vars} : Sub [] ρ := fun x d h => by simp at h
theorem Sub.refl {ρ : Vars} : Sub ρ ρ := fun x d h => h
theorem Sub.trans {ρ₁ ρ₂ ρ₃ : Vars} (h : Sub ρ₁ ρ₂) (h' : Sub ρ₂ ρ₃) : Sub ρ₁ ρ₃ := fun x d e => h' x d (h x d e)
theorem Sub.cons {x : Str} {d : D} {ρ₀ ρ : Vars} (hx : ρ.lookup x = some d) (h : Sub ρ₀ ρ) : Sub ((x, d) :: ρ₀) ρ := fun y e hy => by
  by_cases q : y = x
  · subst q
    rw [List.lookup_cons, beq_self_eq_true] at hy
    cases hy; exact hx
  · rw [lookup_cons_ne q] at hy; exact h y e hy
theorem Sub.both {x : Str} {d : D} {ρ₀ ρ : Vars} (h : Sub ρ₀ ρ) : Sub ((x, d) :: ρ₀) ((x, d) :: ρ) := fun y e hy => by
  by_cases q : y = x
  · subst q
    rw [List.lookup_cons, beq_self_eq_true] at hy ⊢
    exact hy
  · rw [lookup_cons_ne q] at hy ⊢; exact h y e hy
theorem bindT_sub {tgt : Expr} {t : T} {ρ₀ ρ ρ₁ : Vars} (hs : Sub ρ₀ ρ) (h : BindR tgt t ρ₀ ρ₁) : ∃ ρ₂, BindR tgt t ρ ρ₂ ∧ Sub ρ₁ ρ₂ := by
  cases h with
  | name => exact ⟨_, .name, hs.both⟩
  | pair => exact ⟨_, .pair, hs.both.both⟩

noncomputable def refLt (k : Nat) : D → Bool
  | .val _ => true
  | .ref i => decide (i < k)
noncomputable def refsLt (k : Nat) : Vars → Bool
  | [] => true
  | p :: r => refLt k p.2 && refsLt k r
theorem refsLt.get {k : Nat} : ∀ {ρ : Vars} {x : Str} {d : D}, refsLt k ρ = true → ρ.lookup x = some d → refLt k d = true
  | [], x, d, _, h => by simp at h
  | (y, e) :: r, x, d, hr, h => by
    unfold refsLt at hr
    rw [Bool.and_eq_true] at hr
    by_cases q : x = y
    · subst q
      rw [List.lookup_cons, beq_self_eq_true] at h
      cases h; exact hr.1
    · rw [lookup_cons_ne q] at h; exact refsLt.get hr.2 h

section
variable {C : Cx} {A : Around} {H : PHeap} {as : List Addr} {O : List Ob} {s : Shared}
theorem DenD.cut {as' : List Addr} {d : D} {v : Value} {k : Nat} (hk : refLt k d = true) (h : DenD H as' d v) : DenD H (as'.take k) d v := by
  cases d with
  | val t => exact h
  | ref i =>
    obtain ⟨a, e, rfl⟩ := h
    refine ⟨a, ?_, rfl⟩
    rw [List.getElem?_take]
    unfold refLt at hk
    rw [if_pos (by simpa using hk)]; exact e
theorem Mem.cut {O₁ g : List Ob} (M : Mem C A H as (O₁ ++ g) s) : Mem C A H (as.take O₁.length) O₁ s :=
  ⟨M.base, M.sat, by rw [List.length_take, M.len, List.length_append]; (first | exact Nat.min_eq_left (Nat.le_add_right _ _) | lia), M.nodup.sublist (List.take_sublist ..), (fun i a ob ha ho => by
    rw [List.getElem?_take] at ha
    split at ha
    · refine M.obs i a ob ha ?_
      rw [List.getElem?_append_left (by assumption)]; exact ho
    · cases ha), fun a ha => M.live a (List.mem_of_mem_take ha), M.os, M.gens, M.stk.turn (fun L h _ => fun hm => h (List.mem_of_mem_take hm)) (fun L _ h _ => h) fun L o hL e => .inl e⟩
theorem Rel.cut {X H' as' s'} (r : Rel X H as s H' as' s') : Rel X H as s H' (as'.take as.length) s' := by
  obtain ⟨more, e, hm⟩ := r.ext
  exact ⟨r.mono, r.fresh, r.keep, r.alive, [], by rw [e]; simp, by simp⟩
theorem Loc.cut {env ρ ρ₁} {k : Nat} (l : Loc H as env ρ s) (hs : Sub ρ₁ ρ) (hr : refsLt k ρ₁ = true) : Loc H (as.take k) env ρ₁ s := by
  refine ⟨fun a ha => ?_, l.apart, l.apartL, ?_, l.cell, fun x d hx hk => ?_⟩
  · obtain ⟨h1, h2, h3⟩ := l.off a ha
    exact ⟨fun hm => h1 (List.mem_of_mem_take hm), h2, h3⟩
  · obtain ⟨m, hn, hm⟩ := l.ns
    exact ⟨m, hn, fun x d hx hk => let ⟨v, hv, e⟩ := hm x d (hs x d hx) hk; ⟨v, hv.cut (refsLt.get hr hx), e⟩⟩
  · obtain ⟨v, c, hv, e, ic⟩ := l.cells x d (hs x d hx) hk
    exact ⟨v, c, hv.cut (refsLt.get hr hx), e, ic⟩

variable {n : Nat} {sc : Kinds} {ρ : Vars}
inductive DropD (k : Nat) (d : D) (O' : List Ob) (P : List Ob → Prop) : Prop
  | intro (O₁ g : List Ob) (e : O' = O₁ ++ g) (hl : O₁.length = k) (hr : refLt k d = true) (h : P O₁)
inductive DropN (k : Nat) (ρ' : Vars) (O' : List Ob) (P : Vars → List Ob → Prop) : Prop
  | intro (ρ₁ : Vars) (O₁ g : List Ob) (s : Sub ρ₁ ρ') (e : O' = O₁ ++ g) (hl : O₁.length = k) (hr : refsLt k ρ₁ = true) (h : P ρ₁ O₁)
theorem Con.drop {fv ds kws} {Φ : D → List Ob → Prop} (h : Con C n fv O ds kws fun d O' => DropD O.length d O' fun O₁ => Φ d O₁) : Con C n fv O ds kws Φ := fun A H as s vs kvs E rm M h1 h2 h3 =>
  wpC_mono (h A H as s vs kvs E rm M h1 h2 h3) (fun v s' qq => qq.out fun d O' H' as' hq M' D' R' => by
    obtain ⟨O₁, g, e, hl, hr, hΦ⟩ := hq
    subst e
    have M₂ := M'.cut
    have D₂ := D'.cut hr
    have R₂ := R'.cut
    rw [M.len, ← hl] at R₂
    rw [← hl] at D₂
    exact ⟨d, O₁, H', _, hΦ, M₂, D₂, R₂⟩) fun _ _ x => x
theorem WPs.drop {ss} {Ψ : Out → Prop} (h : WPs C n sc ρ O ss fun o => match o with
    | .next ρ' O' => DropN O.length ρ' O' fun ρ₁ O₁ => Ψ (.next ρ₁ O₁)
    | .cont ρ' O' => DropN O.length ρ' O' fun ρ₁ O₁ => Ψ (.cont ρ₁ O₁)
    | .brk ρ' O' => DropN O.length ρ' O' fun ρ₁ O₁ => Ψ (.brk ρ₁ O₁)
    | .ret d O' => DropD O.length d O' fun O₁ => Ψ (.ret d O₁)) : WPs C n sc ρ O ss Ψ := fun A env H as s E rm eo M l => by
  refine wpC_mono (h A env H as s E rm eo M l) (fun f s' qq => qq.out fun H' as' R h1 => ?_) fun _ _ x => x
  have R₂ := R.cut
  cases f with
  | next =>
    obtain ⟨ρ', O', ⟨ρ₁, O₁, g, hs, e, hl, hr, hΨ⟩, M', L'⟩ := h1
    subst e
    rw [M.len, ← hl] at R₂
    rw [← hl] at hr
    exact ⟨H', _, R₂, ρ₁, O₁, hΨ, M'.cut, L'.cut hs hr⟩
  | brk =>
    obtain ⟨ρ', O', ⟨ρ₁, O₁, g, hs, e, hl, hr, hΨ⟩, M', L'⟩ := h1
    subst e
    rw [M.len, ← hl] at R₂
    rw [← hl] at hr
    exact ⟨H', _, R₂, ρ₁, O₁, hΨ, M'.cut, L'.cut hs hr⟩
  | cont =>
    obtain ⟨ρ', O', ⟨ρ₁, O₁, g, hs, e, hl, hr, hΨ⟩, M', L'⟩ := h1
    subst e
    rw [M.len, ← hl] at R₂
    rw [← hl] at hr
    exact ⟨H', _, R₂, ρ₁, O₁, hΨ, M'.cut, L'.cut hs hr⟩
  | ret v =>
    obtain ⟨d, O', ⟨O₁, g, e, hl, hr, hΨ⟩, M', D'⟩ := h1
    subst e
    rw [M.len, ← hl] at R₂
    rw [← hl] at hr
    exact ⟨H', _, R₂, d, O₁, hΨ, M'.cut, D'.cut hr⟩

theorem WPs_seq {st : Stmt} {ss : List Stmt} {Ψ : Out → Prop} (V : Vars) (O₁ : List Ob) (h1 : WPx C n sc ρ O st fun o => match o with
    | .next ρ' O' => Sub V ρ' ∧ O' = O₁
    | _ => False) (h2 : WPs C n sc V O₁ ss Ψ) : WPs C n sc ρ O (st :: ss) Ψ := by
  refine WPs_cons fun A env H as s E rm eo M l => wpC_mono (h1 A env H as s E rm eo M l) (fun f s' qq => qq.out fun H' as' R q => ⟨H', as', R, ?_⟩) fun _ _ x => x
  cases f with
  | next => obtain ⟨ρ', O', ⟨hs, e⟩, M', l'⟩ := q; exact ⟨ρ', O', (e ▸ WPs.sub h2 hs), M', l'⟩
  | brk => obtain ⟨ρ', O', q, _⟩ := q; exact q.elim
  | cont => obtain ⟨ρ', O', q, _⟩ := q; exact q.elim
  | ret v => obtain ⟨ρ', O', q, _⟩ := q; exact q.elim

inductive StP {σ : Type} (V : σ → Vars) (Q : σ → List Ob) (J : σ → Prop) (ρ' : Vars) (O' : List Ob) : Prop
  | intro (st' : σ) (g : List Ob) (h : J st') (s : Sub (V st') ρ') (e : O' = Q st' ++ g)
theorem ForP_st {σ : Type} {tgt : Expr} {body : List Stmt} {Ψ : Out → Prop} (V : σ → Vars) (Q : σ → List Ob) (J : List T → σ → Prop) (k : Nat)
    (len : ∀ st, (Q st).length = k) (refs : ∀ st, refsLt k (V st) = true)
    (turn : ∀ t ts st, J (t :: ts) st → BindP tgt t (V st) fun ρ₁ => ∀ Ψ : Out → Prop, (∀ ρ' O', StP V Q (J ts) ρ' O' → Ψ (.next ρ' O') ∧ Ψ (.cont ρ' O')) → WPs C n sc ρ₁ (Q st) body Ψ)
    (fin : ∀ st ρ, J [] st → Sub (V st) ρ → Ψ (.next ρ (Q st))) : ∀ (ts : List T) (st : σ) (ρ : Vars), J ts st → Sub (V st) ρ → ForP C n sc tgt body ts ρ (Q st) Ψ
  | [], st, ρ, hJ, hs => fin st ρ hJ hs
  | t :: ts, st, ρ, hJ, hs => by
    obtain ⟨ρ₁, hb, hw⟩ := turn t ts st hJ
    have hw := hw (fun o => match o with
      | .next ρ' O' => StP V Q (J ts) ρ' O'
      | .cont ρ' O' => StP V Q (J ts) ρ' O'
      | .brk _ _ => False
      | .ret _ _ => False) fun ρ' O' h => ⟨h, h⟩
    obtain ⟨ρ₂, hb2, hs2⟩ := bindT_sub hs hb
    refine ⟨ρ₂, hb2, WPs.sub (WPs.drop (hw.mono fun o ho => ?_)) hs2⟩
    cases o with
    | next ρ' O' =>
      obtain ⟨st', g, hJ', hs', e⟩ := ho
      exact ⟨V st', Q st', g, hs', e, by rw [len, len], by rw [len]; exact refs st', ForP_st V Q J k len refs turn fin ts st' _ hJ' Sub.refl⟩
    | cont ρ' O' =>
      obtain ⟨st', g, hJ', hs', e⟩ := ho
      exact ⟨V st', Q st', g, hs', e, by rw [len, len], by rw [len]; exact refs st', ForP_st V Q J k len refs turn fin ts st' _ hJ' Sub.refl⟩
    | brk ρ' O' => exact ho.elim
    | ret d O' => exact ho.elim

theorem ForP_map {σ α : Type} {tgt : Expr} {body : List Stmt} {Ψ : Out → Prop} (f : α → T) (V : σ → Vars) (Q : σ → List Ob) (J : List α → σ → Prop) (k : Nat)
    (len : ∀ st, (Q st).length = k) (refs : ∀ st, refsLt k (V st) = true)
    (turn : ∀ a l st, J (a :: l) st → BindP tgt (f a) (V st) fun ρ₁ => ∀ Ψ : Out → Prop, (∀ ρ' O', StP V Q (J l) ρ' O' → Ψ (.next ρ' O') ∧ Ψ (.cont ρ' O')) → WPs C n sc ρ₁ (Q st) body Ψ)
    (fin : ∀ st ρ, J [] st → Sub (V st) ρ → Ψ (.next ρ (Q st))) (l : List α) (st : σ) (ρ : Vars) (hJ : J l st) (hs : Sub (V st) ρ) : ForP C n sc tgt body (l.map f) ρ (Q st) Ψ := by
  refine ForP_st V Q (fun ts st => ∃ l, ts = l.map f ∧ J l st) k len refs (fun t ts st hj => ?_) (fun st ρ hj hs => ?_) _ st ρ ⟨l, rfl, hJ⟩ hs
  · obtain ⟨l, e, hj⟩ := hj
    cases l with
    | nil => cases e
    | cons a l =>
      obtain ⟨e1, e2⟩ := List.cons.inj e
      subst e1
      obtain ⟨ρ₁, hb, hw⟩ := turn a l st hj
      exact ⟨ρ₁, hb, fun Ψ' h => hw Ψ' fun ρ' O' q => h ρ' O' (q.casesOn fun st' g hJ hS hE => ⟨st', g, ⟨l, e2, hJ⟩, hS, hE⟩)⟩
  · obtain ⟨l, e, hj⟩ := hj
    cases l with
    | nil => exact fin st ρ hj hs
    | cons a l => cases e
theorem ForP_rng {σ : Type} {tgt : Expr} {body : List Stmt} {Ψ : Out → Prop} (V : σ → Vars) (Q : σ → List Ob) (J : Nat → Nat → σ → Prop) (k : Nat)
    (len : ∀ st, (Q st).length = k) (refs : ∀ st, refsLt k (V st) = true)
    (turn : ∀ (i m : Nat) st, J i (m + 1) st → BindP tgt (.int (i : Nat)) (V st) fun ρ₁ => ∀ Ψ : Out → Prop, (∀ ρ' O', StP V Q (J (i + 1) m) ρ' O' → Ψ (.next ρ' O') ∧ Ψ (.cont ρ' O')) → WPs C n sc ρ₁ (Q st) body Ψ)
    (fin : ∀ i st ρ, J i 0 st → Sub (V st) ρ → Ψ (.next ρ (Q st))) (i m : Nat) (st : σ) (ρ : Vars) (hJ : J i m st) (hs : Sub (V st) ρ) : ForP C n sc tgt body (rangeT (i : Nat) 1 m) ρ (Q st) Ψ := by
  refine ForP_st V Q (fun ts st => ∃ i m : Nat, ts = rangeT (i : Nat) 1 m ∧ J i m st) k len refs (fun t ts st hj => ?_) (fun st ρ hj hs => ?_) _ st ρ ⟨i, m, rfl, hJ⟩ hs
  · obtain ⟨i, m, e, hj⟩ := hj
    cases m with
    | zero => cases e
    | succ m =>
      obtain ⟨e1, e2⟩ := List.cons.inj e
      subst e1
      obtain ⟨ρ₁, hb, hw⟩ := turn i m st hj
      exact ⟨ρ₁, hb, fun Ψ' h => hw Ψ' fun ρ' O' q => h ρ' O' (q.casesOn fun st' g hJ hS hE => ⟨st', g, ⟨i + 1, m, e2, hJ⟩, hS, hE⟩)⟩
  · obtain ⟨i, m, e, hj⟩ := hj
    cases m with
    | zero => exact fin i st ρ hj hs
    | succ m => cases e

theorem CompP_map {tgt elt} {Φ : D → List Ob → Prop} (f : T → T) : ∀ (ts acc : List T), (∀ t ∈ ts, BindP tgt t ρ fun ρ₁ => WPe C n sc ρ₁ O elt fun d O' => O' = O ∧ d = .val (f t)) →
    Φ (.val (.list (acc ++ ts.map f))) O → CompP C n sc tgt [] elt ρ O Φ ts acc
  | [], acc, h, hΦ => by simpa [CompP] using hΦ
  | t :: ts, acc, h, hΦ => by
    obtain ⟨ρ₁, hb, hw⟩ := h t (List.mem_cons_self ..)
    refine ⟨ρ₁, hb, ?_⟩
    show (if true = true then WPe C n sc ρ₁ O elt fun d O' => EltP O O' d fun t' => CompP C n sc tgt [] elt ρ O Φ ts (acc ++ [t']) else CompP C n sc tgt [] elt ρ O Φ ts acc)
    rw [if_pos rfl]
    refine hw.mono fun d O' ⟨e1, e2⟩ => ⟨e1, f t, e2, CompP_map f ts (acc ++ [f t]) (fun u hu => h u (List.mem_cons_of_mem _ hu)) ?_⟩
    simpa using hΦ
end
end Mine
end

section
set_option Elab.async false
set_option maxRecDepth 100000
set_option linter.unusedVariables false
namespace Mine
open PySem PySem.W PyProof.Rows PySem.Calls PySem.NumText

noncomputable def Bi (C : Cx) (x : Str) (v : Value) : Prop := C.mg x = none ∧ C.mb x = some v
noncomputable def RetP (P : T → Prop) : Out → Prop := fun o => ∃ t O', o = .ret (.val t) O' ∧ P t
theorem RetP.intro {P : T → Prop} {t : T} {O : List Ob} (h : P t) : RetP P (.ret (.val t) O) := ⟨t, O, rfl, h⟩

theorem dens4 {H as d e f g vs} (h : DenDs H as [d, e, f, g] vs) : ∃ v u w x, vs = [v, u, w, x] ∧ DenD H as d v ∧ DenD H as e u ∧ DenD H as f w ∧ DenD H as g x := by
  obtain ⟨v, r, q, h1, h2⟩ := densC h
  obtain ⟨u, w, x, q', h2, h3, h4⟩ := dens3 h2
  exact ⟨v, u, w, x, by rw [q, q'], h1, h2, h3, h4⟩
theorem kw1 {H as d} {k : Str} {kvs : List (Str × Value)} (h : kvs.map (·.1) = [k]) (h2 : DenDs H as [d] (kvs.map (·.2))) : ∃ v, kvs = [(k, v)] ∧ DenD H as d v := by
  cases kvs with
  | nil => cases h
  | cons p r =>
    cases r with
    | nil => cases h; exact ⟨p.2, rfl, h2.1⟩
    | cons q r => cases h
theorem vs0 {P : List Value → Prop} (h : P []) : ∀ vs : List Value, vs.length = 0 → P vs
  | [], _ => h
theorem vsC {P : List Value → Prop} {n : Nat} (h : ∀ a vs, vs.length = n → P (a :: vs)) : ∀ vs : List Value, vs.length = n + 1 → P vs
  | a :: vs, e => h a vs (Nat.succ.inj e)
theorem vs1 {P : List Value → Prop} (h : ∀ a, P [a]) : ∀ vs : List Value, vs.length = 1 → P vs := vsC fun a => vs0 (P := fun r => P (a :: r)) (h a)
theorem vs2 {P : List Value → Prop} (h : ∀ a b, P [a, b]) : ∀ vs : List Value, vs.length = 2 → P vs := vsC fun a => vs1 (P := fun r => P (a :: r)) (h a)
theorem vs3 {P : List Value → Prop} (h : ∀ a b c, P [a, b, c]) : ∀ vs : List Value, vs.length = 3 → P vs := vsC fun a => vs2 (P := fun r => P (a :: r)) (h a)

section
variable {C : Cx} {n : Nat} {O : List Ob}
theorem tyList {d ts} (hd : listD O d = some ts) : ∀ A H as s v, Mem C A H as O s → DenD H as d v → s.TypeIs v "list" ∧ ∀ a, v = .ref a → ∃ ob, s.heap.get? a = some ob ∧ ob.dict = none := fun A H as s v M hv => by
  obtain ⟨a, vs, k, rfl, g, _⟩ := listD_at M hd hv
  exact ⟨⟨_, g, rfl⟩, fun a' e => by cases e; exact ⟨_, g, rfl⟩⟩
theorem tyStr {x : Str} : ∀ A H as s v, Mem C A H as O s → DenD H as (.val (.str x)) v → s.TypeIs v "str" ∧ ∀ a, v = .ref a → ∃ ob, s.heap.get? a = some ob ∧ ob.dict = none := fun A H as s v M hv => by
  obtain ⟨t, rfl⟩ := denStr hv
  exact ⟨typeIs_str _ _ _, fun a e => by cases e⟩
theorem tyPat {a : Addr} (hp : PatAt C.B a) : ∀ A H as s v, Mem C A H as O s → DenD H as (.val (.static (.ref a))) v → s.TypeIs v "re.Pattern" ∧ ∀ a, v = .ref a → ∃ ob, s.heap.get? a = some ob ∧ ob.dict = none := fun A H as s v M hv => by
  obtain rfl := denStatic hv
  obtain ⟨o, ca, v0, v1, t2, v3, v4, t6, oc, items, k, h1, h2, h2', h3, _⟩ := hp.here
  exact ⟨⟨o, M.keepB _ _ h1, h2⟩, fun a' e => by cases e; exact ⟨o, M.keepB _ _ h1, h2'⟩⟩
theorem tyDictB {a : Addr} {o : Obj} (h1 : C.B.get? a = some o) (h2 : o.cls = .type "dict") (h2' : o.dict = none) : ∀ A H as s v, Mem C A H as O s → DenD H as (.val (.static (.ref a))) v → s.TypeIs v "dict" ∧ ∀ a, v = .ref a → ∃ ob, s.heap.get? a = some ob ∧ ob.dict = none := fun A H as s v M hv => by
  obtain rfl := denStatic hv
  exact ⟨⟨o, M.keepB _ _ h1, h2⟩, fun a' e => by cases e; exact ⟨o, M.keepB _ _ h1, h2'⟩⟩

theorem DefAt.fn {p x a dV kV} (F : DefAt C p x a dV kV) (ok : textOkB p x [] = true) : ∃ fd body, FnOk C a fd body := by
  obtain ⟨o, pm, cd, doc, h1, h2, h3⟩ := F.here
  unfold textOkB at ok
  simp only [Bool.and_eq_true] at ok
  obtain ⟨⟨⟨⟨⟨k1, k2⟩, k3⟩, k4⟩, k5⟩, k6⟩ := ok
  exact ⟨fdOf p x pm cd doc dV kV, fnBody p x, ⟨⟨o, h1, h2⟩, h3, rfl, rfl, rfl, rfl, isFun_of k1, (Bool.not_eq_true' _).mp k2, (Bool.not_eq_true' _).mp k3, nodup_of k4⟩⟩
theorem Con_fn {p x a ds} (xs : List Str) {P : T → Prop} (F : DefAt C p x a .none .none) (hO : noDicts O) (hv : ∀ d ∈ ds, ∃ t, d = .val t) (hl : xs.length = ds.length) (ok : textOkB p x xs = true)
    (hb : ∀ pm cd doc vs, vs.length = xs.length → bindArgs (fdOf p x pm cd doc .none .none) ⟨vs, []⟩ = pure (xs.zip vs))
    (h : ∀ Ψ : Out → Prop, (∀ t O', P t → Ψ (.ret (.val t) O')) → WPs C n (fnScope p x).names (xs.zip ds) [] (fnBody p x) Ψ) : Con C (n + 1) (.ref a) O ds [] fun d O' => RetD O O' d fun t => P t := by
  refine Con.frame0 hO hv (by simp) (Con.drop (Con_plain xs F hl ok hb ((h (RetP P) fun t O' hP => RetP.intro hP).mono fun o ⟨t, O', e, hP⟩ => ?_)))
  subst e
  exact ⟨[], O', rfl, rfl, rfl, t, rfl, hP, by simp⟩
end

noncomputable def signsS : Str := "._+-"
noncomputable def inSigns (v : Str) : Bool := !(Builtin.Str.occurrences signsS v 0 signsS.length 1).isEmpty
noncomputable def stagesT : List (Str × Int) := [("dev", 10), ("alpha", 20), ("a", 20), ("beta", 30), ("b", 30), ("c", 40), ("RC", 50), ("rc", 50), ("pl", 200), ("p", 200)]
noncomputable def stage (v : Str) : Int := (stagesT.lookup v).getD 0
noncomputable def partT (v : Str) : List T := if inSigns v then [] else match PySem.intText? v with
  | some i => [.int 100, .int i]
  | none => [.int (stage v), .str v]
noncomputable def keyT (x : Str) : List T := (splitS x).flatMap partT

theorem mem_cuts {text : Array Nat} : ∀ {n st : Nat} {v : Str}, v ∈ cuts text n st → ∃ b e, v = ⟨text.extract b e⟩
  | 0, st, v, h => by
    unfold cuts at h
    exact ⟨_, _, List.mem_singleton.mp h⟩
  | n + 1, st, v, h => by
    unfold cuts at h
    split at h
    · exact ⟨_, _, List.mem_singleton.mp h⟩
    · rcases List.mem_cons.mp h with h | h
      · exact ⟨_, _, h⟩
      · rcases List.mem_cons.mp h with h | h
        · exact ⟨_, _, h⟩
        · exact mem_cuts h
structure TextOk (x : Str) : Prop where
  short : x.cps.size ≤ 600
  signs : ∀ c ∈ x.cps.toList, c < 16 ^ 8
theorem TextOk.piece {x v : Str} (h : TextOk x) (hv : v ∈ splitS x) : TextOk v := by
  obtain ⟨b, e, rfl⟩ := mem_cuts hv
  refine ⟨by have := h.short; show (x.cps.extract b e).size ≤ 600; rw [Array.size_extract]; (first | exact Nat.le_trans (Nat.sub_le _ _) (Nat.le_trans (Nat.min_le_right _ _) this) | omega), fun c hc => h.signs c ?_⟩
  simp only [Array.toList_extract] at hc
  exact List.mem_of_mem_drop (List.mem_of_mem_take hc)
theorem TextOk.few {x v : Str} (h : TextOk x) : (splitS x).length ≤ 1300 := by
  have := cuts_bound (text := x.cps) (x.cps.size + 1) 0
  have := h.short
  unfold splitS; (first | exact zLe (Nat.le_trans (by assumption) (Nat.succ_le_succ (Nat.mul_le_mul_left 2 (Nat.succ_le_succ this)))) rfl | lia)
theorem partT_few (v : Str) : (partT v).length ≤ 2 := by
  unfold partT
  split
  · exact Nat.zero_le _
  · split <;> exact Nat.le_refl _
theorem flatMap_few {α β : Type} {f : α → List β} {k : Nat} (hf : ∀ a, (f a).length ≤ k) : ∀ l : List α, (l.flatMap f).length ≤ k * l.length
  | [] => by simp
  | a :: l => by
    rw [List.flatMap_cons, List.length_append, List.length_cons, Nat.mul_add, Nat.mul_one]
    have := flatMap_few hf l
    have := hf a
    (first | exact Nat.le_trans (Nat.add_le_add this (by assumption)) (Nat.le_of_eq (Nat.add_comm _ _)) | lia)
theorem keyT_few {x : Str} (h : TextOk x) : (keyT x).length ≤ 2600 := by
  have h1 := flatMap_few partT_few (splitS x)
  have h2 := h.few (v := x)
  unfold keyT; (first | exact Nat.le_trans h1 (Nat.mul_le_mul_left 2 h2) | lia)

structure CvW (C : Cx) (p : Program) (a pt tb : Addr) : Prop where
  df : DefAt C p "_comparable_version" a .none .none
  pat : PatAt C.B pt
  gpat : C.mg "_twin_re_1" = some (.ref pt)
  gtab : C.mg "_ver_stages" = some (.ref tb)
  tab : ∃ f, C.B.MapOf (strKind C.prog C.w) tb f ∧ ∀ v, (f v = none ∧ stage v = 0) ∨ ∃ t, f v = some (.int (stage v) t)
  tabAt : ∃ o, C.B.get? tb = some o ∧ o.cls = .type "dict" ∧ o.dict = none
  tabNe : (tb == sysModules) = false
  int : Bi C "int" (.type "int")
  ve : Bi C "ValueError" (.type "ValueError")
structure AtomOk (sc : Kinds) (ρ : Vars) (e : Expr) (d : D) : Prop where
  ok : ∀ {C : Cx} {n : Nat} {O : List Ob} {Φ : D → List Ob → Prop}, Φ d O → WPe C n sc ρ O e Φ
  star : notStar e
  slice : notSlice e
  mark : ∀ op, behindInMarks op e = false
noncomputable def nameW (sc : Kinds) (ρ : Vars) (x : Str) (p : Pos) : (b : Bool) → (nameOkB sc x && !(x == ("__debug__" : Str))) = b → (o : Option D) → ρ.lookup x = o → Option (Subtype (AtomOk sc ρ (.Name x p)))
  | true, hb, some d, h => some ⟨d, fun k => WPe_var h (nameOk_of (Bool.and_eq_true_iff.mp hb).1) k ((Bool.not_eq_true' _).mp (Bool.and_eq_true_iff.mp hb).2), trivial, trivial, fun _ => rfl⟩
  | _, _, _, _ => none
noncomputable def atomW (sc : Kinds) (ρ : Vars) (e : Expr) : Option (Subtype (AtomOk sc ρ e)) := match e with
  | .Name x p => nameW sc ρ x p _ rfl _ rfl
  | .Constant c k p => match c with
    | .int i => some ⟨.val (.int i), fun k => WPe_int k, trivial, trivial, fun _ => rfl⟩
    | .str x => some ⟨.val (.str x), fun k => WPe_str k, trivial, trivial, fun _ => rfl⟩
    | .none => some ⟨.val .none, fun k => WPe_none k, trivial, trivial, fun _ => rfl⟩
    | _ => none
  | _ => none
noncomputable def atomsW (sc : Kinds) (ρ : Vars) : (es : List Expr) → Option { ds : List D // ∀ {C : Cx} {n : Nat} {O : List Ob} {Φ : List D → List Ob → Prop}, Φ ds O → WPl C n sc ρ O es Φ }
  | [] => some ⟨[], fun k => WPl_nil k⟩
  | e :: es => match atomW sc ρ e, atomsW sc ρ es with
    | some ⟨d, hd⟩, some ⟨ds, hs⟩ => some ⟨d :: ds, fun k => WPl_cons (hd.ok (hs k)) hd.star⟩
    | _, _ => none
noncomputable def outW {α : Type} {P : α → Prop} : Option (Subtype P) → Option α
  | some ⟨d, _⟩ => some d
  | none => none
theorem outW_ok {α : Type} {P : α → Prop} {d : α} : ∀ {o : Option (Subtype P)}, outW o = some d → P d
  | some ⟨_, h⟩, rfl => h
noncomputable def atomD (sc : Kinds) (ρ : Vars) (e : Expr) : Option D := outW (atomW sc ρ e)
noncomputable def atomsD (sc : Kinds) (ρ : Vars) (es : List Expr) : Option (List D) := outW (atomsW sc ρ es)
section
variable {C : Cx} {n : Nat} {sc : Kinds} {ρ : Vars} {O : List Ob} {Φ : D → List Ob → Prop}
theorem WPe_atom {e : Expr} {d : D} (h : some d = atomD sc ρ e) (k : Φ d O) : WPe C n sc ρ O e Φ := (outW_ok h.symm).ok k
theorem WPl_atoms {es : List Expr} {ds : List D} {Φ : List D → List Ob → Prop} (h : some ds = atomsD sc ρ es) (k : Φ ds O) : WPl C n sc ρ O es Φ := outW_ok h.symm k
theorem WPe_BinOp_a {l op r pos d₁ d₂} (hl : some d₁ = atomD sc ρ l) (hr : some d₂ = atomD sc ρ r) (h : WPt C n O [d₁, d₂] (fun vs => binaryOp op (vs.getD 0 .none) (vs.getD 1 .none)) Φ) : WPe C n sc ρ O (.BinOp l op r pos) Φ :=
  WPe_BinOp (WPe_atom hl (WPe_atom hr h))
theorem WPe_Compare_a {l op r pos d₁ d₂} (hl : some d₁ = atomD sc ρ l) (hr : some d₂ = atomD sc ρ r) (h : WPt C n O [d₁, d₂] (fun vs => compareOp op (vs.getD 0 .none) (vs.getD 1 .none)) Φ) : WPe C n sc ρ O (.Compare l [op] [r] pos) Φ :=
  WPe_Compare (WPe_atom hl (WPe_atom hr h)) ((outW_ok hr.symm).mark op)
theorem WPb_Compare_a {l op r pos d₁ d₂} {Ψ : Bool → List Ob → Prop} (hl : some d₁ = atomD sc ρ l) (hr : some d₂ = atomD sc ρ r) (h : WPt C n O [d₁, d₂] (fun vs => compareOp op (vs.getD 0 .none) (vs.getD 1 .none)) fun d O' => BoolP d fun b => Ψ b O') : WPb C n sc ρ O (.Compare l [op] [r] pos) Ψ :=
  WPb_Compare (WPe_atom hl (WPe_atom hr h)) ((outW_ok hr.symm).mark op)
theorem WPe_item_a {v i pos d₁ d₂} (hl : some d₁ = atomD sc ρ v) (hr : some d₂ = atomD sc ρ i) (h : ItemP O d₁ d₂ fun t => Φ (.val t) O) : WPe C n sc ρ O (.Subscript v i pos) Φ :=
  WPe_item (outW_ok hr.symm).slice (WPe_atom hl (WPe_atom hr h))
end
end Mine
end

section
set_option Elab.async false
set_option maxRecDepth 100000
set_option maxHeartbeats 1000000
set_option linter.unusedVariables false
namespace Mine
open PySem PySem.W PyProof.Rows

noncomputable def Kg {α : Type} (n : Nat) (c : Nat → Nat → Bool) : KasT α → (α → Prop) → Prop
  | .ret a, P => P a
  | .ask i j k, P => i < n ∧ j < n ∧ Kg n c (k (c i j)) P
theorem Kg_bind {α β : Type} {n : Nat} {c : Nat → Nat → Bool} {f : α → KasT β} {P : β → Prop} : ∀ (t : KasT α), Kg n c t (fun a => Kg n c (f a) P) → Kg n c (t.bind f) P
  | .ret a, h => h
  | .ask i j k, h => ⟨h.1, h.2.1, Kg_bind (k (c i j)) h.2.2⟩
theorem Kg_mono {α : Type} {n : Nat} {c : Nat → Nat → Bool} {P P' : α → Prop} (hp : ∀ a, P a → P' a) : ∀ (t : KasT α), Kg n c t P → Kg n c t P'
  | .ret a, h => hp a h
  | .ask i j k, h => ⟨h.1, h.2.1, Kg_mono hp (k (c i j)) h.2.2⟩

structure Weak (c : Nat → Nat → Bool) : Prop where
  irr : ∀ a, c a a = false
  asym : ∀ a b, c a b = true → c b a = false
  tr : ∀ a b d, c b a = false → c d b = false → c d a = false

noncomputable abbrev pv (p : Array Nat) (i : Nat) : Nat := p.getD i 0
structure Pm (n : Nat) (p : Array Nat) : Prop where
  perm : p.Perm (List.range n).toArray
theorem Pm.size {n : Nat} {p : Array Nat} (h : Pm n p) : p.size = n := by rw [h.perm.size_eq]; simp
theorem Pm.lt {n : Nat} {p : Array Nat} (h : Pm n p) {i : Nat} (hi : i < n) : pv p i < n := by
  have hs : i < p.size := by rw [h.size]; exact hi
  have e : pv p i = p[i] := by simp [pv, Array.getD, hs]
  have hm : p[i] ∈ (List.range n).toArray := h.perm.mem_iff.mp (Array.getElem_mem hs)
  rw [e]; simpa using hm
theorem pv_congr {p q : Array Nat} {i j : Nat} (h : p[i]? = q[j]?) : pv p i = pv q j := by simp [pv, h]
theorem pv_rev {p : Array Nat} {i j : Nat} (hj : j ≤ p.size) (k : Nat) : pv (kas_rev p i j) k = if i ≤ k ∧ k < j then pv p (i + j - 1 - k) else pv p k := by
  have e := getElem?_mirror_all (xs := p) (i := i) hj k
  by_cases h1 : i ≤ k ∧ k < j
  · rw [if_pos h1] at e ⊢; exact pv_congr e
  · rw [if_neg h1] at e ⊢; exact pv_congr e
theorem Pm.rev {n : Nat} {p : Array Nat} (h : Pm n p) (i j : Nat) : Pm n (kas_rev p i j) := ⟨(mirror_perm p i j _).trans h.perm⟩
theorem pv_bubble {p : Array Nat} {src d : Nat} (hs : src < p.size) (hd : d ≤ src) (k : Nat) : pv (bubble p src d) k = if k = src - d then pv p src else if src - d < k ∧ k ≤ src then pv p (k - 1) else pv p k := by
  have e := getElem?_bubble hs d hd k
  by_cases h1 : k = src - d
  · rw [if_pos h1] at e ⊢; exact pv_congr e
  · rw [if_neg h1] at e ⊢
    by_cases h2 : src - d < k ∧ k ≤ src
    · rw [if_pos h2] at e ⊢; exact pv_congr e
    · rw [if_neg h2] at e ⊢; exact pv_congr e
theorem Pm.bub {n : Nat} {p : Array Nat} (h : Pm n p) (i j : Nat) : Pm n (bubble p i j) := ⟨(bubble_perm p i j).trans h.perm⟩

theorem ltS {m f n : Nat} (h : m + (f + 1) ≤ n) : m < n := Nat.lt_of_lt_of_le (Nat.lt_add_of_pos_right (Nat.succ_pos f)) h
theorem lePS {m f n : Nat} (h : m + (f + 1) ≤ n) : m - 1 < n := Nat.lt_of_le_of_lt (Nat.sub_le _ _) (ltS h)
theorem leS {m f n : Nat} (h : m + (f + 1) ≤ n) : m + 1 + f ≤ n := by rw [Nat.add_right_comm]; exact h
theorem eqS {i m : Nat} (h : m ≤ i) (h2 : i < m + 1) : i = m := Nat.le_antisymm (Nat.le_of_lt_succ h2) h
theorem eq0 {i j : Nat} (h : i ≤ j) (h2 : j < 1) : i = 0 := Nat.lt_one_iff.mp (Nat.lt_of_le_of_lt h h2)
section
variable {n : Nat} {c : Nat → Nat → Bool} (W : Weak c)
noncomputable def Srt (c : Nat → Nat → Bool) (p : Array Nat) (k : Nat) : Prop := ∀ i j, i ≤ j → j < k → c (pv p j) (pv p i) = false
noncomputable def NonInc (c : Nat → Nat → Bool) (p : Array Nat) (k : Nat) : Prop := ∀ i j, i ≤ j → j < k → c (pv p i) (pv p j) = false
noncomputable def Alike (c : Nat → Nat → Bool) (p : Array Nat) (a b : Nat) : Prop := ∀ i j, a ≤ i → i < b → a ≤ j → j < b → c (pv p i) (pv p j) = false
include W
theorem Srt.succ {p : Array Nat} {k : Nat} (h : Srt c p k) (h1 : 1 ≤ k) (hk : c (pv p k) (pv p (k - 1)) = false) : Srt c p (k + 1) := fun i j hij hj => by
  by_cases e : j = k
  · subst e
    by_cases e2 : i = j
    · subst e2; exact W.irr _
    · exact W.tr _ _ _ (h i (j - 1) (by (first | exact Nat.le_sub_one_of_lt (Nat.lt_of_le_of_ne hij e2) | lia)) (by (first | exact Nat.sub_one_lt_of_lt h1 | omega))) hk
  · exact h i j hij (by (first | exact Nat.lt_of_le_of_ne (Nat.le_of_lt_succ hj) e | lia))
theorem NonInc.succ {p : Array Nat} {k : Nat} (h : NonInc c p k) (h1 : 1 ≤ k) (hk : c (pv p (k - 1)) (pv p k) = false) : NonInc c p (k + 1) := fun i j hij hj => by
  by_cases e : j = k
  · subst e
    by_cases e2 : i = j
    · subst e2; exact W.irr _
    · exact W.tr _ _ _ hk (h i (j - 1) (by (first | exact Nat.le_sub_one_of_lt (Nat.lt_of_le_of_ne hij e2) | lia)) (by (first | exact Nat.sub_one_lt_of_lt h1 | omega)))
  · exact h i j hij (by (first | exact Nat.lt_of_le_of_ne (Nat.le_of_lt_succ hj) e | lia))
theorem NonInc.revEq {p : Array Nat} {k a b : Nat} (h : NonInc c p k) (hb : b ≤ p.size) (ha : Alike c p a b) : NonInc c (kas_rev p a b) k := by
  have two : ∀ i, c (pv (kas_rev p a b) i) (pv p i) = false ∧ c (pv p i) (pv (kas_rev p a b) i) = false := fun i => by
    rw [pv_rev hb]
    split
    · exact ⟨ha _ _ (by (first | exact om50 (by assumption) | omega)) (by (first | exact om48 (by assumption) | omega)) (by lia) (by lia), ha _ _ (by lia) (by lia) (by (first | exact om50 (by assumption) | omega)) (by (first | exact om48 (by assumption) | omega))⟩
    · exact ⟨W.irr _, W.irr _⟩
  exact fun i j hij hj => W.tr _ _ _ (two j).2 (W.tr _ _ _ (h i j hij hj) (two i).1)
omit W in
theorem Srt.ofNonInc {p : Array Nat} {k : Nat} (h : NonInc c p k) (hk : k ≤ p.size) : Srt c (kas_rev p 0 k) k := fun i j hij hj => by
  rw [pv_rev hk, pv_rev hk, if_pos (by (first | exact ⟨Nat.zero_le _, hj⟩ | lia)), if_pos (by (first | exact ⟨Nat.zero_le _, Nat.lt_of_le_of_lt hij hj⟩ | lia))]
  exact h _ _ (by (first | exact Nat.sub_le_sub_left hij _ | omega)) (by (first | exact Nat.lt_of_le_of_lt (Nat.sub_le _ _) (Nat.lt_of_lt_of_eq (Nat.sub_one_lt_of_lt (Nat.lt_of_lt_of_le hj (Nat.le_add_left _ _))) (Nat.zero_add _)) | omega))

theorem g_asc {p : Array Nat} (hp : Pm n p) : ∀ (f m : Nat), 1 ≤ m → m + f ≤ n → Srt c p m → Kg n c (kas_asc p f m) fun m' => m ≤ m' ∧ m' ≤ m + f ∧ Srt c p m' ∧ (m' < m + f → c (pv p m') (pv p (m' - 1)) = true)
  | 0, m, h1, h2, hs => ⟨Nat.le_refl _, Nat.le_refl _, hs, fun h => absurd h (Nat.lt_irrefl _)⟩
  | f + 1, m, h1, h2, hs => by
    refine ⟨hp.lt (ltS h2), hp.lt (lePS h2), ?_⟩
    cases hc : c (pv p m) (pv p (m - 1)) with
    | true =>
      dsimp only
      rw [if_pos rfl]
      exact ⟨Nat.le_refl _, by (exact Nat.le_add_right _ _), hs, fun _ => hc⟩
    | false =>
      dsimp only
      rw [if_neg Bool.false_ne_true]
      exact Kg_mono (fun m' ⟨q1, q2, q3, q4⟩ => ⟨Nat.le_of_succ_le q1, Nat.le_trans q2 (Nat.le_of_eq zAs), q3, fun h => q4 (by (first | exact Nat.lt_of_lt_of_eq h zAs.symm | omega))⟩) _ (g_asc hp f (m + 1) (Nat.le_add_left _ _) (leS h2) (hs.succ W h1 hc))
theorem g_desc : ∀ (f : Nat) (p : Array Nat) (m q : Nat), Pm n p → q < m → m + f ≤ n → NonInc c p m → Alike c p (m - (q + 1)) m →
    Kg n c (kas_desc f p m q) fun r => Pm n r.1 ∧ m ≤ r.2.1 ∧ r.2.1 ≤ m + f ∧ r.2.2 < r.2.1 ∧ NonInc c r.1 r.2.1 ∧ Alike c r.1 (r.2.1 - (r.2.2 + 1)) r.2.1
  | 0, p, m, q, hp, h1, h2, hs, ha => ⟨hp, Nat.le_refl _, Nat.le_refl _, h1, hs, ha⟩
  | f + 1, p, m, q, hp, h1, h2, hs, ha => by
    have weaken : ∀ r : Array Nat × Nat × Nat, (Pm n r.1 ∧ m + 1 ≤ r.2.1 ∧ r.2.1 ≤ m + 1 + f ∧ r.2.2 < r.2.1 ∧ NonInc c r.1 r.2.1 ∧ Alike c r.1 (r.2.1 - (r.2.2 + 1)) r.2.1) →
        (Pm n r.1 ∧ m ≤ r.2.1 ∧ r.2.1 ≤ m + (f + 1) ∧ r.2.2 < r.2.1 ∧ NonInc c r.1 r.2.1 ∧ Alike c r.1 (r.2.1 - (r.2.2 + 1)) r.2.1) := fun r ⟨q1, q2, q3, q4⟩ => ⟨q1, Nat.le_of_succ_le q2, Nat.le_trans q3 (Nat.le_of_eq zAs), q4⟩
    have one : ∀ p' : Array Nat, Alike c p' m (m + 1) := fun p' i j hi hi2 hj hj2 => by
      have e1 := eqS hi hi2
      have e2 := eqS hj hj2
      subst e1; subst e2; exact W.irr _
    refine ⟨hp.lt (ltS h2), hp.lt (lePS h2), ?_⟩
    show Kg n c (if c (pv p m) (pv p (m - 1)) = true then (if q > 0 then kas_desc f (kas_rev p (m - (q + 1)) m) (m + 1) 0 else kas_desc f p (m + 1) 0) else .ask (pv p (m - 1)) (pv p m) fun d => if d = true then .ret (p, m, q) else kas_desc f p (m + 1) (q + 1)) _
    have hsz := hp.size
    cases hc : c (pv p m) (pv p (m - 1)) with
    | true =>
      try dsimp only
      rw [if_pos rfl]
      have hn := hs.succ W (Nat.lt_of_le_of_lt (Nat.zero_le _) h1) (W.asym _ _ hc)
      by_cases hq : q > 0
      · rw [if_pos hq]
        have hn' : NonInc c (kas_rev p (m - (q + 1)) m) (m + 1) := hn.revEq W (by (first | exact Nat.le_trans (Nat.le_of_add_right_le h2) (Nat.le_of_eq hsz.symm) | lia)) ha
        exact Kg_mono weaken _ (g_desc f _ (m + 1) 0 (hp.rev _ _) (Nat.succ_pos _) (leS h2) hn' (one _))
      · rw [if_neg hq]
        exact Kg_mono weaken _ (g_desc f p (m + 1) 0 hp (Nat.succ_pos _) (leS h2) hn (one _))
    | false =>
      try dsimp only
      rw [if_neg Bool.false_ne_true]
      refine ⟨hp.lt (lePS h2), hp.lt (ltS h2), ?_⟩
      cases hd : c (pv p (m - 1)) (pv p m) with
      | true =>
        try dsimp only
        rw [if_pos rfl]
        exact ⟨hp, Nat.le_refl _, Nat.le_add_right _ _, h1, hs, ha⟩
      | false =>
        try dsimp only
        rw [if_neg Bool.false_ne_true]
        refine Kg_mono weaken _ (g_desc f p (m + 1) (q + 1) hp (Nat.lt_succ_of_le h1) (leS h2) (hs.succ W (Nat.lt_of_le_of_lt (Nat.zero_le _) h1) hd) ?_)
        have l1 : ∀ i, m - (q + 1) ≤ i → i < m → c (pv p i) (pv p m) = false ∧ c (pv p m) (pv p i) = false := fun i hi hi2 =>
          ⟨W.tr _ _ _ hd (ha i (m - 1) hi hi2 (by (first | exact Nat.sub_le_sub_left (Nat.succ_le_succ (Nat.zero_le _)) _ | lia)) (by (first | exact Nat.sub_one_lt_of_lt h1 | lia))), W.tr _ _ _ (ha (m - 1) i (by (first | exact Nat.sub_le_sub_left (Nat.succ_le_succ (Nat.zero_le _)) _ | lia)) (by (first | exact Nat.sub_one_lt_of_lt h1 | lia)) hi hi2) hc⟩
        intro i j hi hi2 hj hj2
        by_cases e1 : i = m
        · by_cases e2 : j = m
          · subst e1; subst e2; exact W.irr _
          · subst e1; exact (l1 j (by (first | exact zEq (Nat.add_sub_add_right _ 1 _).symm hj | lia)) (by (first | exact Nat.lt_of_le_of_ne (Nat.le_of_lt_succ hj2) e2 | lia))).2
        · by_cases e2 : j = m
          · subst e2; exact (l1 i (by (first | exact zEq (Nat.add_sub_add_right _ 1 _).symm hi | lia)) (by (first | exact Nat.lt_of_le_of_ne (Nat.le_of_lt_succ hi2) e1 | lia))).1
          · exact ha i j (by (first | exact zEq (Nat.add_sub_add_right _ 1 _).symm hi | lia)) (by (first | exact Nat.lt_of_le_of_ne (Nat.le_of_lt_succ hi2) e1 | lia)) (by (first | exact zEq (Nat.add_sub_add_right _ 1 _).symm hj | lia)) (by (first | exact Nat.lt_of_le_of_ne (Nat.le_of_lt_succ hj2) e2 | lia))
noncomputable def RunOk (n : Nat) (c : Nat → Nat → Bool) (nrem : Nat) (r : Nat × Array Nat) : Prop := Pm n r.2 ∧ 1 ≤ r.1 ∧ r.1 ≤ nrem ∧ Srt c r.2 r.1
theorem g_tail3 {m nrem : Nat} {p : Array Nat} (hp : Pm n p) (h1 : 1 ≤ m) (h2 : m ≤ nrem) (h3 : nrem ≤ n) (hs : NonInc c p m) : Kg n c (kas_tail3 m nrem p) (RunOk n c nrem) := by
  have hsz := hp.size
  refine Kg_bind _ (Kg_mono (fun m' ⟨q1, q2, q3, q4⟩ => ?_) _ (g_asc W (hp.rev 0 m) (nrem - m) m h1 (by (first | exact zEq (Nat.add_sub_of_le h2) h3 | lia)) (Srt.ofNonInc hs (by (first | exact Nat.le_trans h2 (Nat.le_trans h3 (Nat.le_of_eq hsz.symm)) | lia)))))
  exact ⟨hp.rev 0 m, Nat.le_trans h1 q1, Nat.le_trans q2 (Nat.le_of_eq (Nat.add_sub_of_le h2)), q3⟩
theorem g_descPart {m nrem : Nat} {p : Array Nat} (hp : Pm n p) (h1 : 1 ≤ m) (h2 : m + 1 ≤ nrem) (h3 : nrem ≤ n) (hs : NonInc c p (m + 1)) : Kg n c (kas_descPart m nrem p) (RunOk n c nrem) := by
  refine Kg_bind _ (Kg_mono (fun r ⟨q1, q2, q3, q4, q5, q6⟩ => ?_) _ (g_desc W (nrem - (m + 1)) p (m + 1) 0 hp (by (exact Nat.succ_pos _)) (by (first | exact zEq (Nat.add_sub_of_le h2) h3 | omega)) hs (fun i j a1 a2 a3 a4 => by
    have e1 : i = m := eqS a1 a2
    have e2 : j = m := eqS a3 a4
    subst e1; subst e2; exact W.irr _)))
  have hsz := q1.size
  have o1 : 1 ≤ r.2.1 := Nat.le_trans (Nat.succ_le_succ (Nat.zero_le _)) q2
  have o2 : r.2.1 ≤ nrem := Nat.le_trans q3 (Nat.le_of_eq (Nat.add_sub_of_le h2))
  split
  · exact g_tail3 W (q1.rev _ _) o1 o2 h3 (q5.revEq W (Nat.le_trans o2 (Nat.le_trans h3 (Nat.le_of_eq hsz.symm))) q6)
  · exact g_tail3 W q1 o1 o2 h3 q5
theorem g_count {nrem : Nat} {p : Array Nat} (hp : Pm n p) (h1 : 1 ≤ nrem) (h3 : nrem ≤ n) : Kg n c (kas_count nrem p) (RunOk n c nrem) := by
  have hsz := hp.size
  refine Kg_bind _ (Kg_mono (fun m ⟨q1, q2, q3, q4⟩ => ?_) _ (g_asc W hp (nrem - 1) 1 (Nat.le_refl _) (by (first | exact zEq (Nat.add_sub_of_le h1) h3 | lia)) (fun i j hij hj => by
    have e1 := eq0 hij hj
    have e2 := eq0 (Nat.le_refl j) hj
    subst e1; subst e2; exact W.irr _)))
  have hle : m ≤ nrem := Nat.le_trans q2 (Nat.le_of_eq (Nat.add_sub_of_le h1))
  by_cases hm : m = nrem
  · rw [if_pos (by rw [hm]; exact beq_self_eq_true nrem)]
    exact ⟨hp, q1, by (exact Nat.le_of_eq hm), q3⟩
  · rw [if_neg (by simpa using hm)]
    have hml : m < nrem := Nat.lt_of_le_of_ne hle hm
    have hlast := q4 (Nat.lt_of_lt_of_eq hml (Nat.add_sub_of_le h1).symm)
    by_cases h2 : m > 1
    · rw [if_pos h2]
      refine ⟨hp.lt (by (first | exact Nat.lt_of_lt_of_le h1 h3 | lia)), hp.lt (Nat.lt_of_le_of_lt (Nat.sub_le _ _) (Nat.lt_of_lt_of_le hml h3)), ?_⟩
      cases hc : c (pv p 0) (pv p (m - 1)) with
      | true => dsimp only; rw [if_pos rfl]; exact ⟨hp, q1, hle, q3⟩
      | false =>
        try dsimp only
        rw [if_neg Bool.false_ne_true]
        have al : Alike c p 0 m := fun i j _ hi _ hj => W.tr _ _ _ (q3 j (m - 1) (by (exact Nat.le_sub_one_of_lt hj)) (by (first | exact Nat.sub_one_lt_of_lt h2 | omega))) (W.tr _ _ _ hc (q3 0 i (by (first | exact Nat.zero_le _ | omega)) hi))
        have hn : NonInc c p m := fun i j hij hj => al i j (by (exact Nat.le_add_left _ _)) (by (exact Nat.lt_of_le_of_lt hij hj)) (by (first | exact Nat.zero_le _ | lia)) hj
        have hn2 : NonInc c p (m + 1) := hn.succ W q1 (W.asym _ _ hlast)
        exact g_descPart W (hp.rev 0 m) q1 hml h3 (hn2.revEq W (Nat.le_trans hle (Nat.le_trans h3 (Nat.le_of_eq hsz.symm))) al)
    · rw [if_neg h2]
      have e : m = 1 := Nat.le_antisymm (Nat.le_of_not_lt h2) q1
      subst e
      refine g_descPart W hp (Nat.le_refl _) (by (first | exact Nat.lt_of_le_of_ne h1 hm | lia)) h3 ?_
      have hn : NonInc c p 1 := fun i j hij hj => by
        have e1 := eq0 hij hj
        have e2 := eq0 (Nat.le_refl j) hj
        subst e1; subst e2; exact W.irr _
      exact hn.succ W (Nat.succ_pos _) (W.asym _ _ hlast)
theorem g_place {p : Array Nat} (hp : Pm n p) {k : Nat} (hk : k < n) (hs : Srt c p k) : ∀ (f l r : Nat), r - l ≤ f → l ≤ r → r ≤ k → (∀ i, i < l → c (pv p k) (pv p i) = false) → (∀ i, r ≤ i → i < k → c (pv p k) (pv p i) = true) →
    Kg n c (kas_place p k f l r) fun l' => l' ≤ k ∧ (∀ i, i < l' → c (pv p k) (pv p i) = false) ∧ (∀ i, l' ≤ i → i < k → c (pv p k) (pv p i) = true)
  | 0, l, r, hf, hlr, hr, h1, h2 => by
    have e : l = r := by (first | exact Nat.le_antisymm hlr (Nat.le_of_sub_eq_zero (Nat.le_zero.mp hf)) | lia)
    subst e
    exact ⟨hr, h1, h2⟩
  | f + 1, l, r, hf, hlr, hr, h1, h2 => by
    show Kg n c (if l ≥ r then .ret l else .ask (pv p k) (pv p ((l + r) / 2)) fun b => if b = true then kas_place p k f l ((l + r) / 2) else kas_place p k f ((l + r) / 2 + 1) r) _
    by_cases hlt : l ≥ r
    · rw [if_pos hlt]
      have e : l = r := by (first | exact Nat.le_antisymm hlr hlt | lia)
      subst e
      exact ⟨hr, h1, h2⟩
    · rw [if_neg hlt]
      refine ⟨hp.lt hk, hp.lt (by (first | exact Nat.lt_of_lt_of_le (z28 (Nat.lt_of_not_le hlt)) (Nat.le_trans hr (Nat.le_of_lt hk)) | lia)), ?_⟩
      have m1 : l ≤ (l + r) / 2 := by (first | exact z40 (Nat.lt_of_not_le hlt) | lia)
      have m2 : (l + r) / 2 < r := by (first | exact z28 (Nat.lt_of_not_le hlt) | lia)
      generalize (l + r) / 2 = m at m1 m2
      cases hc : c (pv p k) (pv p m) with
      | true =>
        try dsimp only
        rw [if_pos rfl]
        refine g_place hp hk hs f l m (by (first | exact Nat.sub_le_iff_le_add.mpr (Nat.le_of_lt_succ (Nat.lt_of_lt_of_le m2 (Nat.le_trans (Nat.sub_le_iff_le_add.mp hf) (Nat.le_of_eq (Nat.add_right_comm _ 1 _))))) | lia)) m1 (by (exact Nat.le_of_lt (Nat.lt_of_lt_of_le m2 hr))) h1 fun i hi hi2 => ?_
        cases hci : c (pv p k) (pv p i) with
        | true => rfl
        | false => rw [W.tr _ _ _ (hs m i hi hi2) hci] at hc; cases hc
      | false =>
        try dsimp only
        rw [if_neg Bool.false_ne_true]
        refine g_place hp hk hs f (m + 1) r (by (first | exact Nat.pred_le_pred (Nat.le_trans (Nat.sub_le_sub_left m1 _) hf) | lia)) (by (exact m2)) hr (fun i hi => ?_) h2
        exact W.tr _ _ _ (hs i m (by (exact Nat.le_of_lt_succ hi)) (by (exact Nat.lt_of_lt_of_le m2 hr))) hc
theorem g_bin : ∀ (f : Nat) (p : Array Nat) (k : Nat), Pm n p → k + f ≤ n → Srt c p k → Kg n c (kas_bin f p k) fun p' => Pm n p' ∧ Srt c p' (k + f)
  | 0, p, k, hp, hk, hs => ⟨hp, hs⟩
  | f + 1, p, k, hp, hk, hs => by
    have hsz := hp.size
    refine Kg_bind _ (Kg_mono (fun l ⟨q1, q2, q3⟩ => ?_) _ (g_place W hp (by (first | exact Nat.lt_of_add_right_lt hk | lia)) hs k 0 k (by (exact Nat.le_refl _)) (by (first | exact Nat.zero_le _ | lia)) (Nat.le_refl _) (fun i h => absurd h (Nat.not_lt_zero _)) (fun i h h' => absurd h' (Nat.not_lt.mpr h))))
    have hb := fun i => pv_bubble (p := p) (src := k) (d := k - l) (by (first | exact Nat.lt_of_lt_of_eq (Nat.lt_of_add_right_lt hk) hsz.symm | lia)) (by (exact Nat.sub_le _ _)) i
    rw [Nat.sub_sub_self q1] at hb
    have hs' : Srt c (bubble p k (k - l)) (k + 1) := fun i j hij hj => by
      rw [hb i, hb j]
      by_cases ei : i = l
      · rw [if_pos ei]
        by_cases ej : j = l
        · rw [if_pos ej]; exact W.irr _
        · rw [if_neg ej, if_pos (by (first | exact ⟨Nat.lt_of_le_of_ne (zEq ei.symm hij) fun ze => ej ze.symm, Nat.le_of_lt_succ hj⟩ | lia))]
          exact W.asym _ _ (q3 (j - 1) (by (first | exact Nat.le_sub_one_of_lt (Nat.lt_of_le_of_ne (zEq ei.symm hij) fun ze => ej ze.symm) | lia)) (by (first | exact Nat.lt_of_lt_of_le (Nat.sub_one_lt_of_lt (Nat.lt_of_le_of_ne (zEq ei.symm hij) fun ze => ej ze.symm)) (Nat.le_of_lt_succ hj) | lia)))
      · rw [if_neg ei]
        by_cases ej : j = l
        · rw [if_pos ej, if_neg (by (first | exact fun zz => Nat.not_le_of_lt zz.1 (Nat.le_trans hij (Nat.le_of_eq ej)) | lia))]; exact q2 i (by (first | exact Nat.lt_of_le_of_ne (Nat.le_trans hij (Nat.le_of_eq ej)) ei | lia))
        · rw [if_neg ej]
          by_cases hi2 : l < i ∧ i ≤ k
          · rw [if_pos hi2, if_pos (by (first | exact ⟨Nat.lt_of_lt_of_le hi2.1 hij, Nat.le_of_lt_succ hj⟩ | lia))]; exact hs _ _ (by (first | exact Nat.sub_le_sub_right hij 1 | lia)) (by (first | exact Nat.lt_of_le_of_lt (Nat.sub_le_sub_right (Nat.le_of_lt_succ hj) 1) (Nat.sub_one_lt_of_lt (Nat.lt_of_lt_of_le hi2.1 hi2.2)) | lia))
          · rw [if_neg hi2]
            by_cases hj2 : l < j ∧ j ≤ k
            · rw [if_pos hj2]; exact hs _ _ (by (first | exact om19 hj2 hij hi2 | lia)) (by (first | exact Nat.lt_of_lt_of_le (Nat.sub_one_lt_of_lt hj2.1) hj2.2 | omega))
            · rw [if_neg hj2]; exact hs _ _ hij (Nat.lt_of_lt_of_le (Nat.lt_of_le_of_ne (Nat.le_of_not_lt fun zz => hj2 ⟨zz, Nat.le_of_lt_succ hj⟩) ej) q1)
    refine Kg_mono (fun p' ⟨a1, a2⟩ => ⟨a1, by rw [show k + (f + 1) = k + 1 + f by (first | exact zAs.symm | lia)]; exact a2⟩) _ (g_bin f _ (k + 1) (hp.bub _ _) (by (first | exact z18 hk | lia)) hs')
theorem g_sort (h1 : 1 ≤ n) : Kg n c (kas_sort n) fun p => Pm n p ∧ Srt c p n := by
  have p0 : Pm n (List.range n).toArray := ⟨Array.Perm.refl _⟩
  refine Kg_bind _ (Kg_mono (fun r ⟨q1, q2, q3, q4⟩ => ?_) _ (g_count W p0 h1 (Nat.le_refl _)))
  by_cases h : r.1 < n
  · rw [if_pos h]
    have hm : max r.1 1 = r.1 := by (first | exact Nat.max_eq_left q2 | lia)
    rw [hm]
    refine Kg_mono (fun p ⟨a1, a2⟩ => ⟨a1, by rw [show r.1 + (n - r.1) = n by (first | exact Nat.add_sub_of_le (Nat.le_of_lt h) | lia)] at a2; exact a2⟩) _ (g_bin W (n - r.1) r.2 r.1 q1 (by (first | exact Nat.le_of_eq (Nat.add_sub_of_le (Nat.le_of_lt h)) | lia)) q4)
  · rw [if_neg h]
    have e : r.1 = n := by (first | exact Nat.le_antisymm q3 (Nat.le_of_not_lt h) | lia)
    rw [e] at q4
    exact ⟨q1, q4⟩
end
end Mine
end

section
set_option Elab.async false
set_option maxRecDepth 100000
set_option maxHeartbeats 1000000
set_option linter.unusedVariables false
namespace Mine
open PySem PySem.W PyProof.Rows PySem.Calls

noncomputable def KeepBut (a : Addr) (h h' : Heap) : Prop := ∀ b o, b ≠ a → h.get? b = some o → h'.get? b = some o
theorem kasWp_of_Kg {α : Type} {n : Nat} {c : Nat → Nat → Bool} {cmp : Nat → Nat → (Bool → Shared → Prop) → Shared → Prop} {s : Shared} {Q : α → Shared → Prop} (hc : ∀ i j, i < n → j < n → ∀ C : Bool → Shared → Prop, C (c i j) s → cmp i j C s) : ∀ t : KasT α, Kg n c t (fun a => Q a s) → t.kasWp cmp Q s
  | .ret a, h => h
  | .ask i j k, h => hc i j h.1 h.2.1 _ (kasWp_of_Kg hc (k (c i j)) h.2.2)

section
variable {prog : Program} {w : World} {A : Around} {E : Value → Shared → Prop} {s : Shared}
theorem oneLt_den {H : PHeap} {ts us : List T} {v u : Value} {Q : Bool → Shared → Prop} (hs : ∀ a o, H a = some o → s.heap.get? a = some o) (h1 : Den H (.list ts) v) (h2 : Den H (.list us) u) (d1 : datTs ts = true) (d2 : datTs us = true) (hc : cmpTs ts us = true)
    (hu : A.units + depTs ts + 1 < cLine) (h : Q (ltTs ts us) s) : wpAny (model prog w) A (oneLt' true v u) Q E s := by
  unfold Den at h1 h2
  obtain ⟨a, vs, n, rfl, hH, dl⟩ := h1
  obtain ⟨b, ws, m, rfl, hH', dl'⟩ := h2
  rw [oneLt'_eq]
  simp only [if_true]
  refine wpAny_bind (wpAny_cRoomFor (by (first | exact Nat.lt_of_le_of_lt (Nat.le_trans (Nat.le_add_right _ _) (Nat.le_succ _)) hu | lia)) ?_)
  refine wpAny_bind (wpAny_callSpecialIfBound?_slot (T := "list") ⟨_, hs _ _ hH, rfl⟩ F.slot_list_lt ?_)
  rw [← ltGo_all ts us] at h
  have e1 := dl.size
  have e2 := dl'.size
  rw [← e1, ← e2] at h
  refine call_meets F.slot_list_lt ⟨_, hs _ _ hH, rfl⟩ F.entry_list_lt (F.args_list_lt_2 _ _) (list_ltAt a b vs ws n m none none #[] #[] (fun j => eqT (ts.getD j .none) (us.getD j .none)) (fun j => ltT (ts.getD j .none) (us.getD j .none)))
    ⟨hs _ _ hH, hs _ _ hH', fun j j1 j2 => ?_, fun j j1 j2 hp he => ?_, ?_⟩
  · have jt : j < ts.length := by (first | exact Nat.lt_of_lt_of_eq j1 e1 | lia)
    have ju : j < us.length := by (first | exact Nat.lt_of_lt_of_eq j2 e2 | lia)
    refine eqAt_den _ _ _ (Nat.le_refl _) A.in1 s _ _ hs (dl.getD j1) (dl'.getD j2) (datTs_get d1 jt) (datTs_get d2 ju) ?_
    have := depTs_get jt
    show A.units + 1 + _ < _
    (first | exact om134 hu this | lia)
  · have jt : j < ts.length := by (first | exact Nat.lt_of_lt_of_eq j1 e1 | lia)
    have ju : j < us.length := by (first | exact Nat.lt_of_lt_of_eq j2 e2 | lia)
    refine ltAt_den _ _ _ (Nat.le_refl _) A.in1 s _ _ hs (dl.getD j1) (dl'.getD j2) (datTs_get d1 jt) (datTs_get d2 ju) (cmpTs_get hc jt ju hp he) ?_
    have := depTs_get jt
    show A.units + 1 + _ < _
    (first | exact om134 hu this | lia)
  · exact wpAny_truthy_bool h

theorem sort_core {a : Addr} {n : Nat} {vs : List Value} {P : PySem.Fin → Shared → Prop} {c : Nat → Nat → Bool} (ho : s.heap.get? a = some (listO vs.toArray n)) (h64 : vs.length < 64) (W : Weak c)
    (hT : ∀ h', KeepBut a s.heap h' → ∀ v ∈ vs, ∀ s' : Shared, s'.heap = h' → s'.TypeIs v "list")
    (hcmp : ∀ h', KeepBut a s.heap h' → ∀ i j, i < vs.length → j < vs.length → ∀ (s' : Shared) (C : Bool → Shared → Prop) (E' : Value → Shared → Prop), s'.heap = h' → C (c i j) s' → wpAny (model prog w) A (oneLt' true (vs.getD i Value.none) (vs.getD j Value.none)) C E' s')
    (h : ∀ p h' k, Pm vs.length p → Srt c p vs.length → h'.get? a = some (listO (p.toList.map fun i => vs.getD i Value.none).toArray k) → KeepBut a s.heap h' → P (.done (.ret .none)) { s with heap := h' }) :
    wpAny (model prog w) A (Builtin.«list.sort» ⟨[.ref a], []⟩) P E s := by
  have ha : a < s.heap.objs.size := Heap.lt_size ho
  have hsz : vs.toArray.size = vs.length := by simp
  rw [list_sort_plain]
  refine wpAny_bind (listItems_at ho rfl ?_)
  refine wpAny_bind (listUpdate_at ho rfl ?_ (by rw [hsz, sizeLine_eq]; (exact (Nat.le_trans (Nat.le_of_lt h64) (by decide)))) (Nat.zero_le _))
  obtain ⟨e1, ho1⟩ : ∃ e1, (s.heap.update a (Obj.mapSeq fun _ => (#[] : Array Value))).get? a = some (listO #[] e1) := ⟨_, get?_update_seq ho fun _ => #[]⟩
  refine wpAny_bind (seqEpoch_at ho1 rfl ?_)
  refine wpAny_bind (wpAny_newTuple ?_ (by show vs.length ≤ _; rw [sizeLine_eq]; (first | exact zLe (Nat.le_of_lt h64) rfl | lia)))
  refine wpAny_bind (wpAny_newList ?_ (Nat.zero_le _))
  refine wpAny_holding ?_
  show wpAny (model prog w) A _ P E { s with heap := ((s.heap.update a (Obj.mapSeq fun _ => (#[] : Array Value))).push (seqObj "tuple" vs.toArray 0)).push (seqObj "list" #[] 0) }
  have ho3 : (((s.heap.update a (Obj.mapSeq fun _ => (#[] : Array Value))).push (seqObj "tuple" vs.toArray 0)).push (seqObj "list" #[] 0)).get? a = some (listO #[] e1) := Heap.get?_push_of_some _ (Heap.get?_push_of_some _ ho1)
  have k3 : KeepBut a s.heap (((s.heap.update a (Obj.mapSeq fun _ => (#[] : Array Value))).push (seqObj "tuple" vs.toArray 0)).push (seqObj "list" #[] 0)) := fun b o nb e =>
    Heap.get?_push_of_some _ (Heap.get?_push_of_some _ (by rw [Heap.get?_update_ne _ _ _ _ nb]; exact e))
  generalize ((s.heap.update a (Obj.mapSeq fun _ => (#[] : Array Value))).push (seqObj "tuple" vs.toArray 0)).push (seqObj "list" #[] 0) = h3 at ho3 k3 ⊢
  dsimp only
  -- the end, the same for both roads
  have fin : ∀ (st' : SortSt) (p : Array Nat), Pm vs.length p → Srt c p vs.length → arrOf st' = p.map (kas_item (pairsOf vs)) → failedOf st' = none →
      wpAny (model prog w) A (do
        let touched := (← seqEpoch a) != e1
        Builtin.List.listUpdate (.ref a) fun _ => (arrOf st').map (·.2)
        if let some e := failedOf st' then rule "list.sort.comparison-raised"; throw e
        if touched then rule "list.sort.modified"; raiseError "ValueError" "list modified during sort"
        ret .none) P E { s with heap := h3 } := fun st' p hp hs har hf => by
    have hout : (arrOf st').map (·.2) = List.toArray (p.toList.map fun i => vs.getD i Value.none) := by
      apply Array.toList_inj.mp
      rw [har, Array.map_map, Array.toList_map]
      exact List.map_congr_left fun i _ => by show (kas_item (pairsOf vs) i).2 = _; rw [kas_item_eq]
    have hsz2 : (List.toArray (p.toList.map fun i => vs.getD i Value.none)).size = vs.length := by rw [List.size_toArray, List.length_map, Array.length_toList, hp.size]
    rw [hout, hf]
    refine wpAny_bind (seqEpoch_at ho3 rfl ?_)
    refine wpAny_bind (listUpdate_at ho3 rfl ?_ (Nat.zero_le _) (Nat.le_trans (Nat.le_of_eq hsz2) (by rw [sizeLine_eq]; (exact (Nat.le_trans (Nat.le_of_lt h64) (by decide))))))
    simp only [bne_self_eq_false, Bool.false_eq_true, if_false]
    obtain ⟨k, hk⟩ : ∃ k, (h3.update a (Obj.mapSeq fun _ => List.toArray (p.toList.map fun i => vs.getD i Value.none))).get? a = some (listO (List.toArray (p.toList.map fun i => vs.getD i Value.none)) k) := ⟨_, get?_update_seq ho3 fun _ => List.toArray (p.toList.map fun i => vs.getD i Value.none)⟩
    exact wpAny_pure (h p _ k hp hs hk fun b o nb e => by
      show (h3.update a _).get? b = some o
      rw [Heap.get?_update_ne _ _ _ _ nb]; exact k3 b o nb e)
  by_cases h2 : vs.toArray.size < 2
  · rw [if_pos h2, if_pos h2]
    refine wpAny_bind (wpAny_pure ?_)
    rw [StateT.run_pure]
    refine wpAny_bind (wpAny_pure ?_)
    refine fin (SortSt.mk' general' (vs.toArray.zip vs.toArray) #[] 7 none) (List.range vs.length).toArray ⟨Array.Perm.refl _⟩ (fun i j hij hj => ?_) ?_ rfl
    · have e : i = j := by lia
      subst e; exact W.irr _
    · have e := kas_range (pairsOf vs)
      rw [pairsOf_size] at e
      exact e.symm
  · rw [if_neg h2, if_neg h2]
    have h2' : 2 ≤ vs.length := by (exact Nat.le_of_not_lt h2)
    refine wpAny_bind (kas_kind (T := .type "list") h2' (fun v hv A' Q' E' s' hk hq => ?_) (by rfl) (by rfl) ?_)
    · exact wpAny_typeOf (hT s'.heap (fun b o nb e => hk b o (k3 b o nb e)) v hv s' rfl) hq
    · have est : SortSt.mk' oneType' (vs.toArray.zip vs.toArray) #[] 7 none = kas_st oneType' (pairsOf vs) (List.toArray (List.range vs.length)) := by
        have e := kas_range (pairsOf vs)
        rw [pairsOf_size] at e
        show SortSt.mk' oneType' (pairsOf vs) #[] 7 none = SortSt.mk' oneType' ((List.toArray (List.range vs.length)).map (kas_item (pairsOf vs))) #[] 7 none
        rw [e]
      have ask : (kas_sort vs.length).kasWp (kas_cmp prog w A oneType' (pairsOf vs)) (fun p s' => s' = { s with heap := h3 } ∧ Pm vs.length p ∧ Srt c p vs.length) { s with heap := h3 } := by
        refine kasWp_of_Kg (c := c) (fun i j hi hj C hC => ?_) _ (Kg_mono (fun p hp => ⟨rfl, hp⟩) _ (g_sort W (by (exact Nat.le_of_succ_le h2'))))
        rw [← kas_ask_eq]
        unfold kas_ask
        rw [keyLt'_oneType]
        exact hcmp h3 k3 i j hi hj _ _ _ rfl hC
      have run := kas_runs (E := E) (Q := fun _ st' s' => s' = { s with heap := h3 } ∧ ∃ p : Array Nat, Pm vs.length p ∧ Srt c p vs.length ∧ arrOf st' = p.map (kas_item (pairsOf vs)) ∧ failedOf st' = none)
        h2' h64 (fun p' st' s' a1 a2 a3 a4 => ⟨a4.1, p', a4.2.1, a4.2.2, a2, a3⟩) ask
      rw [← est] at run
      refine wpAny_bind (wpAny_mono run ?_ fun _ _ e => e)
      rintro ⟨⟨⟩, st'⟩ s' ⟨rfl, p, hp, hs, har, hf⟩
      exact fin st' p hp hs har hf
end
end Mine
end

section
set_option Elab.async false
set_option maxRecDepth 100000
set_option maxHeartbeats 1000000
set_option linter.unusedVariables false
namespace Mine
open PySem PySem.W PyProof.Rows PySem.Calls

theorem eqT_comm (a b : T) : eqT a b = eqT b a := by
  cases h : eqT a b with
  | true => obtain rfl := eqT_eq a b h; exact h.symm
  | false =>
    cases h2 : eqT b a with
    | true => obtain rfl := eqT_eq b a h2; exact h.symm.trans h2
    | false => rfl
inductive Two : T → T → Prop
  | int (a b) : Two (.int a) (.int b)
  | str (a b) : Two (.str a) (.str b)
  | list (ts us) : Two (.list ts) (.list us)
theorem cmpT_two {a b : T} (h : cmpT a b = true) : Two a b := by
  cases a with
  | int a => cases b with
    | int b => exact .int a b
    | _ => cases h
  | str a => cases b with
    | str b => exact .str a b
    | _ => cases h
  | list a => cases b with
    | list b => exact .list a b
    | _ => cases h
  | _ => cases h
theorem ltT_two {a b : T} (h : ltT a b = true) : Two a b := by
  cases a with
  | int a => cases b with
    | int b => exact .int a b
    | _ => cases h
  | str a => cases b with
    | str b => exact .str a b
    | _ => cases h
  | list a => cases b with
    | list b => exact .list a b
    | _ => cases h
  | _ => cases h
theorem ltTs_eq {t u : T} (ts us : List T) (e : eqT t u = true) : ltTs (t :: ts) (u :: us) = ltTs ts us := by rw [ltTs, if_pos e]
theorem ltTs_ne {t u : T} (ts us : List T) (e : eqT t u = false) : ltTs (t :: ts) (u :: us) = ltT t u := by rw [ltTs, if_neg (by rw [e]; decide)]
theorem cmpTs_eq {t u : T} (ts us : List T) (e : eqT t u = true) : cmpTs (t :: ts) (u :: us) = cmpTs ts us := by rw [cmpTs, if_pos e]
theorem cmpTs_ne {t u : T} (ts us : List T) (e : eqT t u = false) : cmpTs (t :: ts) (u :: us) = cmpT t u := by rw [cmpTs, if_neg (by rw [e]; decide)]
theorem ltT_list (ts us : List T) : ltT (.list ts) (.list us) = ltTs ts us := by rw [ltT]
theorem cmpT_list (ts us : List T) : cmpT (.list ts) (.list us) = cmpTs ts us := by rw [cmpT]
theorem ltT_int (a b : Int) : ltT (.int a) (.int b) = decide (a < b) := by rw [ltT]
theorem ltT_str (a b : Str) : ltT (.str a) (.str b) = decide (a.cps.toList < b.cps.toList) := by rw [ltT]

theorem sizeOf_list {ts : List T} {k : Nat} (h : sizeOf (T.list ts) < k + 1) : sizeOf ts < k := by simp at h; (first | exact Nat.lt_of_succ_lt_succ (Nat.lt_of_le_of_lt (Nat.le_of_eq (Nat.add_comm _ 1)) h) | lia)
theorem sizeOf_cons {t : T} {ts : List T} {k : Nat} (h : sizeOf (t :: ts) < k) : sizeOf t < k ∧ sizeOf ts < k := by simp at h; (first | exact ⟨Nat.lt_of_le_of_lt (Nat.le_trans (Nat.le_add_left _ 1) (Nat.le_add_right _ _)) h, Nat.lt_of_le_of_lt (Nat.le_add_left _ _) h⟩ | lia)

theorem ltT_irr_k : ∀ (k : Nat) (a : T), sizeOf a < k → ltT a a = false
  | 0, _, h => absurd h (Nat.not_lt_zero _)
  | k + 1, a, h => by
    cases hl : ltT a a with
    | false => rfl
    | true =>
      cases ltT_two hl with
      | int a => rw [ltT_int] at hl; exact absurd (of_decide_eq_true hl) (Int.lt_irrefl a)
      | str a => rw [ltT_str] at hl; exact absurd (of_decide_eq_true hl) (List.lt_irrefl _)
      | list ts =>
        have hk := sizeOf_list h
        have go : ∀ ts : List T, sizeOf ts < k → ltTs ts ts = false := fun ts => by
          induction ts with
          | nil => exact fun _ => rfl
          | cons t ts ih =>
            intro hk
            cases e : eqT t t with
            | true => exact (ltTs_eq ts ts e).trans (ih (sizeOf_cons hk).2)
            | false => exact (ltTs_ne ts ts e).trans (ltT_irr_k k t (sizeOf_cons hk).1)
        exact absurd ((ltT_list ts ts).symm.trans hl) (by rw [go ts hk]; decide)
theorem ltT_irr (a : T) : ltT a a = false := ltT_irr_k _ a (Nat.lt_succ_self _)
theorem ltTs_irr (a : List T) : ltTs a a = false := (ltT_list a a).symm.trans (ltT_irr (.list a))
theorem ltT_asym_k : ∀ (k : Nat) (a b : T), sizeOf a < k → ltT a b = true → ltT b a = false
  | 0, _, _, h, _ => absurd h (Nat.not_lt_zero _)
  | k + 1, a, b, h, hl => by
    cases ltT_two hl with
    | int a b => rw [ltT_int] at hl ⊢; exact decide_eq_false (Int.lt_asymm (of_decide_eq_true hl))
    | str a b => rw [ltT_str] at hl ⊢; exact decide_eq_false (List.lt_asymm (of_decide_eq_true hl))
    | list ts us =>
      have go : ∀ ts us : List T, sizeOf ts < k → ltTs ts us = true → ltTs us ts = false := fun ts => by
        induction ts with
        | nil => intro us _ h; cases us with
          | nil => cases h
          | cons u us => rfl
        | cons t ts ih =>
          intro us hk h
          cases us with
          | nil => cases h
          | cons u us =>
            cases e : eqT t u with
            | true => exact (ltTs_eq us ts ((eqT_comm u t).trans e)).trans (ih us (sizeOf_cons hk).2 ((ltTs_eq ts us e).symm.trans h))
            | false => exact (ltTs_ne us ts ((eqT_comm u t).trans e)).trans (ltT_asym_k k t u (sizeOf_cons hk).1 ((ltTs_ne ts us e).symm.trans h))
      exact (ltT_list us ts).trans (go ts us (sizeOf_list h) ((ltT_list ts us).symm.trans hl))
theorem ltT_asym (a b : T) (h : ltT a b = true) : ltT b a = false := ltT_asym_k _ a b (Nat.lt_succ_self _) h
theorem ltTs_asym (a b : List T) (h : ltTs a b = true) : ltTs b a = false := (ltT_list b a).symm.trans (ltT_asym (.list a) (.list b) ((ltT_list a b).trans h))
theorem ltT_total_k : ∀ (k : Nat) (a b : T), sizeOf a < k → cmpT a b = true → ltT a b = false → ltT b a = false → eqT a b = true
  | 0, _, _, h, _, _, _ => absurd h (Nat.not_lt_zero _)
  | k + 1, a, b, h, hc, h1, h2 => by
    cases cmpT_two hc with
    | int a b =>
      rw [ltT_int] at h1 h2
      have e : a = b := Int.le_antisymm (Int.not_lt.mp (of_decide_eq_false h2)) (Int.not_lt.mp (of_decide_eq_false h1))
      rw [eqT, e]; exact beq_self_eq_true b
    | str a b =>
      rw [ltT_str] at h1 h2
      have e : a.cps.toList = b.cps.toList := List.le_antisymm (List.not_lt.mp (of_decide_eq_false h2)) (List.not_lt.mp (of_decide_eq_false h1))
      have e2 : a = b := by
        cases a; cases b
        congr 1
        exact Array.toList_inj.mp e
      rw [eqT, e2]; exact beq_self_eq_true b
    | list ts us =>
      have go : ∀ ts us : List T, sizeOf ts < k → cmpTs ts us = true → ltTs ts us = false → ltTs us ts = false → eqTs ts us = true := fun ts => by
        induction ts with
        | nil => intro us _ _ h1 _; cases us with
          | nil => rfl
          | cons u us => cases h1
        | cons t ts ih =>
          intro us hk hc h1 h2
          cases us with
          | nil => cases h2
          | cons u us =>
            cases e : eqT t u with
            | true =>
              rw [eqTs, e, ih us (sizeOf_cons hk).2 ((cmpTs_eq ts us e).symm.trans hc) ((ltTs_eq ts us e).symm.trans h1) ((ltTs_eq us ts ((eqT_comm u t).trans e)).symm.trans h2)]; rfl
            | false =>
              exact absurd (ltT_total_k k t u (sizeOf_cons hk).1 ((cmpTs_ne ts us e).symm.trans hc) ((ltTs_ne ts us e).symm.trans h1) ((ltTs_ne us ts ((eqT_comm u t).trans e)).symm.trans h2)) (by rw [e]; decide)
      rw [eqT]
      exact go ts us (sizeOf_list h) ((cmpT_list ts us).symm.trans hc) ((ltT_list ts us).symm.trans h1) ((ltT_list us ts).symm.trans h2)
theorem ltT_total (a b : T) (hc : cmpT a b = true) (h1 : ltT a b = false) (h2 : ltT b a = false) : eqT a b = true := ltT_total_k _ a b (Nat.lt_succ_self _) hc h1 h2
theorem cmpT_comm_k : ∀ (k : Nat) (a b : T), sizeOf a < k → cmpT a b = true → cmpT b a = true
  | 0, _, _, h, _ => absurd h (Nat.not_lt_zero _)
  | k + 1, a, b, h, hc => by
    cases cmpT_two hc with
    | int a b => rfl
    | str a b => rfl
    | list ts us =>
      have go : ∀ ts us : List T, sizeOf ts < k → cmpTs ts us = true → cmpTs us ts = true := fun ts => by
        induction ts with
        | nil => intro us _ _; cases us <;> rfl
        | cons t ts ih =>
          intro us hk hc
          cases us with
          | nil => rfl
          | cons u us =>
            cases e : eqT t u with
            | true => exact (cmpTs_eq us ts ((eqT_comm u t).trans e)).trans (ih us (sizeOf_cons hk).2 ((cmpTs_eq ts us e).symm.trans hc))
            | false => exact (cmpTs_ne us ts ((eqT_comm u t).trans e)).trans (cmpT_comm_k k t u (sizeOf_cons hk).1 ((cmpTs_ne ts us e).symm.trans hc))
      exact (cmpT_list us ts).trans (go ts us (sizeOf_list h) ((cmpT_list ts us).symm.trans hc))
theorem cmpT_comm (a b : T) (h : cmpT a b = true) : cmpT b a = true := cmpT_comm_k _ a b (Nat.lt_succ_self _) h
theorem leT_trans : ∀ (k : Nat) (a b d : T), sizeOf a < k → cmpT a b = true → cmpT b d = true → cmpT a d = true → ltT b a = false → ltT d b = false → ltT d a = false
  | 0, _, _, _, h, _, _, _, _, _ => absurd h (Nat.not_lt_zero _)
  | k + 1, a, b, d, hk, c1, c2, c3, h1, h2 => by
    cases cmpT_two c1 with
    | int a b => cases cmpT_two c2 with
      | int _ d =>
        rw [ltT_int] at h1 h2 ⊢
        exact decide_eq_false (Int.not_lt.mpr (Int.le_trans (Int.not_lt.mp (of_decide_eq_false h1)) (Int.not_lt.mp (of_decide_eq_false h2))))
    | str a b => cases cmpT_two c2 with
      | str _ d =>
        rw [ltT_str] at h1 h2 ⊢
        exact decide_eq_false (List.not_lt.mpr (List.le_trans (List.not_lt.mp (of_decide_eq_false h1)) (List.not_lt.mp (of_decide_eq_false h2))))
    | list ts us => cases cmpT_two c2 with
      | list _ vs =>
        -- along the lists
        have go : ∀ ts us vs : List T, sizeOf ts < k → cmpTs ts us = true → cmpTs us vs = true → cmpTs ts vs = true → ltTs us ts = false → ltTs vs us = false → ltTs vs ts = false := fun ts => by
          induction ts with
          | nil => intro us vs _ _ _ _ _ _; cases vs <;> rfl
          | cons t ts ih =>
            intro us vs hk c1 c2 c3 h1 h2
            cases us with
            | nil => cases h1
            | cons u us =>
              cases vs with
              | nil => cases h2
              | cons v vs =>
                cases e1 : eqT t u with
                | true =>
                  obtain rfl := eqT_eq t u e1
                  cases e2 : eqT t v with
                  | true =>
                    have e2' := (eqT_comm v t).trans e2
                    exact (ltTs_eq vs ts e2').trans (ih us vs (sizeOf_cons hk).2 ((cmpTs_eq ts us e1).symm.trans c1) ((cmpTs_eq us vs e2).symm.trans c2) ((cmpTs_eq ts vs e2).symm.trans c3) ((ltTs_eq us ts e1).symm.trans h1) ((ltTs_eq vs us e2').symm.trans h2))
                  | false =>
                    have e2' := (eqT_comm v t).trans e2
                    exact (ltTs_ne vs ts e2').trans ((ltTs_ne vs us e2').symm.trans h2)
                | false =>
                  have e1' := (eqT_comm u t).trans e1
                  cases e2 : eqT u v with
                  | true =>
                    obtain rfl := eqT_eq u v e2
                    exact (ltTs_ne vs ts e1').trans ((ltTs_ne us ts e1').symm.trans h1)
                  | false =>
                    have e2' := (eqT_comm v u).trans e2
                    have h1' := (ltTs_ne us ts e1').symm.trans h1
                    have h2' := (ltTs_ne vs us e2').symm.trans h2
                    have c1' := (cmpTs_ne ts us e1).symm.trans c1
                    cases e3 : eqT t v with
                    | true =>
                      obtain rfl := eqT_eq t v e3
                      exact absurd (ltT_total t u c1' h2' h1') (by rw [e1]; decide)
                    | false =>
                      exact (ltTs_ne vs ts ((eqT_comm v t).trans e3)).trans (leT_trans k t u v (sizeOf_cons hk).1 c1' ((cmpTs_ne us vs e2).symm.trans c2) ((cmpTs_ne ts vs e3).symm.trans c3) h1' h2')
        exact (ltT_list vs ts).trans (go ts us vs (sizeOf_list hk) ((cmpT_list ts us).symm.trans c1) ((cmpT_list us vs).symm.trans c2) ((cmpT_list ts vs).symm.trans c3) ((ltT_list us ts).symm.trans h1) ((ltT_list vs us).symm.trans h2))
theorem leT_tr {a b d : T} (c1 : cmpT a b = true) (c2 : cmpT b d = true) (c3 : cmpT a d = true) (h1 : ltT b a = false) (h2 : ltT d b = false) : ltT d a = false := leT_trans _ a b d (Nat.lt_succ_self _) c1 c2 c3 h1 h2

noncomputable def Fam (ts : List T) : Prop := ∀ a ∈ ts, ∀ b ∈ ts, cmpT a b = true
noncomputable def Up (ts : List T) : Prop := ts.Pairwise fun a b => ltT b a = false

section
variable {C : Cx} {n : Nat} {O : List Ob} {Φ : D → List Ob → Prop}
theorem getD_mem {ts : List T} {d : T} (i : Nat) : ts.getD i d ∈ ts ∨ ts.getD i d = d := by
  rw [List.getD_eq_getElem?_getD]
  cases h : ts[i]? with
  | none => exact .inr rfl
  | some t => exact .inl (List.mem_of_getElem? h)
theorem map_range_getD {α : Type} : ∀ (ts : List α) (d : α), (List.range ts.length).map (fun i => ts.getD i d) = ts := fun ts d => by
  refine List.ext_getElem (by simp) fun i h1 h2 => ?_
  simp [h2]
theorem DenL.mapIdx {H : PHeap} {ts : List T} {vs : List Value} (h : DenL H ts vs) : ∀ (is : List Nat), (∀ i ∈ is, i < ts.length) → DenL H (is.map fun i => ts.getD i .none) (is.map fun i => vs.getD i Value.none)
  | [], _ => .nil
  | i :: is, hi => by
    have hl := h.length
    have h1 := hi i (List.mem_cons_self ..)
    obtain ⟨v, e, d⟩ := h.get (i := i) (t := ts[i]) (List.getElem?_eq_getElem h1)
    refine .cons ?_ (DenL.mapIdx h is fun j hj => hi j (List.mem_cons_of_mem _ hj))
    show Den H (ts.getD i .none) (vs.getD i Value.none)
    rw [List.getD_eq_getElem?_getD, List.getD_eq_getElem?_getD, e, List.getElem?_eq_getElem h1]
    exact d

theorem F_sorted {d : D} {ts : List T} (hd : listD O d = some ts) (h64 : ts.length < 64) (hl : ∀ t ∈ ts, ∃ us, t = .list us) (hdat : datTs ts = true) (hdep : depTs ts ≤ 40) (hf : Fam ts)
    (h : ∀ us, us.Perm ts → Up us → Φ (.val (.list us)) O) : ConB C n (.builtin "sorted") O [d] [] Φ := ConB_1 fun A H as s E v rm M d1 => by
  obtain ⟨a, items, k, rfl, g, dl⟩ := listD_at M hd d1
  have hlen : items.toList.length = ts.length := dl.length
  have hu := rm.units
  have hcl : cLine = 9996 ∨ 9100 < cLine := by first | exact .inl (by decide +kernel) | exact .inr (by decide +kernel)
  have hcl' : 9100 < cLine := by (exact Nat.le_add_left _ _)
  have hg : s.heap.IsList a items.toList.toArray := by rw [Array.toArray_toList]; exact isList_of g
  refine Calls.call_function_entry kind_sorted plain_sorted entry_sorted (args_sorted1 _) ?_
  unfold Builtin.«sorted»
  refine wpAny_bind (m := checkCount "sorted" 1 1 _) (wpAny_pure ?_)
  refine wpAny_bind (collect_list hg ?_ (by rw [sizeLine_eq]; (first | exact zLe (zEq hlen (Nat.le_of_lt h64)) rfl | lia)))
  refine wpAny_bind (wpAny_newList ?_ (by rw [sizeLine_eq]; (first | exact zLe (zEq hlen (Nat.le_of_lt h64)) rfl | lia)))
  have hsz : ((s.heap.push (seqObj "list" #[] 0)).update s.heap.objs.size (Obj.mapSeq (· ++ items.toList.toArray))).objs.size = s.heap.objs.size + 1 := by
    rw [Heap.size_update, size_push']
  have hoL : (((s.heap.push (seqObj "list" #[] 0)).update s.heap.objs.size (Obj.mapSeq (· ++ items.toList.toArray))).push (seqObj "list" items.toList.toArray 0)).get? (s.heap.objs.size + 1) = some (listO items.toList.toArray 0) := by
    rw [← hsz]; exact Heap.get?_push_size _ rfl
  have keep : ∀ b o, s.heap.get? b = some o → (((s.heap.push (seqObj "list" #[] 0)).update s.heap.objs.size (Obj.mapSeq (· ++ items.toList.toArray))).push (seqObj "list" items.toList.toArray 0)).get? b = some o := fun b o q => by
    have hlt : b < s.heap.objs.size := Heap.lt_size q
    refine Heap.get?_push_of_some _ ?_
    rw [Heap.get?_update_ne _ _ _ _ (Nat.ne_of_lt hlt)]
    exact Heap.get?_push_of_some _ q
  show wpAny _ _ _ _ _ { s with heap := ((s.heap.push (seqObj "list" #[] 0)).update s.heap.objs.size (Obj.mapSeq (· ++ items.toList.toArray))).push (seqObj "list" items.toList.toArray 0) }
  rw [hsz]
  generalize ((s.heap.push (seqObj "list" #[] 0)).update s.heap.objs.size (Obj.mapSeq (· ++ items.toList.toArray))).push (seqObj "list" items.toList.toArray 0) = h₁ at hoL keep ⊢
  have hnew : s.heap.get? (s.heap.objs.size + 1) = none := Heap.get?_none_of_le (Nat.le_succ _)
  have hH : ∀ h', KeepBut (s.heap.objs.size + 1) h₁ h' → ∀ b o, H b = some o → h'.get? b = some o := fun h' kb b o e => by
    have e' := M.sat _ _ e
    exact kb b o (fun q => by rw [q, hnew] at e'; cases e') (keep b o e')
  let t0 : T := ts.headD (.list [])
  have mem0 : ∀ i, (ts.getD i t0) ∈ ts ∨ (ts = [] ∧ ts.getD i t0 = .list []) := fun i => by
    rcases getD_mem (ts := ts) (d := t0) i with q | q
    · exact .inl q
    · cases ts with
      | nil => exact .inr ⟨rfl, q⟩
      | cons x xs => refine .inl ?_; rw [q]; exact List.mem_cons_self ..
  have cm : ∀ i j, cmpT (ts.getD i t0) (ts.getD j t0) = true := fun i j => by
    rcases mem0 i with q | ⟨e, q⟩
    · rcases mem0 j with r | ⟨e, r⟩
      · exact hf _ q _ r
      · rw [e] at q; cases q
    · subst e; rfl
  have W : Weak fun i j => ltT (ts.getD i t0) (ts.getD j t0) := ⟨fun i => ltT_irr _, fun i j => ltT_asym _ _, fun i j l => leT_tr (cm i j) (cm j l) (cm i l)⟩
  have getv : ∀ i, i < ts.length → ∃ us, ts.getD i t0 = .list us ∧ Den H (.list us) (items.toList.getD i Value.none) ∧ datTs us = true ∧ depTs us + 1 ≤ 40 := fun i hi => by
    obtain ⟨v, e, d⟩ := dl.get (i := i) (t := ts[i]) (List.getElem?_eq_getElem hi)
    have em : ts.getD i t0 = ts[i] := by simp [hi]
    obtain ⟨us, eu⟩ := hl ts[i] (List.getElem_mem hi)
    have hdt : datT ts[i] = true := by
      have := datTs_get (ts := ts) (j := i) hdat hi
      rw [List.getD_eq_getElem?_getD, List.getElem?_eq_getElem hi] at this; exact this
    have hdp : depT ts[i] ≤ depTs ts := by
      have := depTs_get (ts := ts) (j := i) hi
      rw [List.getD_eq_getElem?_getD, List.getElem?_eq_getElem hi] at this; exact this
    refine ⟨us, by rw [em, eu], ?_, ?_, ?_⟩
    · rw [List.getD_eq_getElem?_getD, e, ← eu]; exact d
    · rw [eu] at hdt; unfold datT at hdt; exact hdt
    · rw [eu] at hdp; unfold depT at hdp; (exact Nat.le_trans hdp hdep)
  refine wpAny_bind (wpAny_holding (wpAny_call_entry slot_list_sort ⟨_, hoL, rfl⟩ entry_list_sort ?body (args_list_sort _)))
  case body =>
    refine sort_core (s := { s with heap := h₁ }) hoL (by (first | exact zEq (congrArg Nat.succ hlen) h64 | lia)) W (fun h' kb v hv s' es => ?_) (fun h' kb i j hi hj s' C' E' es hC => ?_) fun p h' k' hp hs hg' kb => ?_
    · obtain ⟨i, hi, rfl⟩ := List.getElem_of_mem hv
      obtain ⟨us, e1, e2, _⟩ := getv i (by (first | exact Nat.lt_of_lt_of_eq hi hlen | lia))
      have e3 : items.toList.getD i Value.none = items.toList[i] := by rw [List.getD_eq_getElem?_getD, List.getElem?_eq_getElem hi]; rfl
      rw [e3] at e2
      unfold Den at e2
      obtain ⟨b, ws, n', eb, hb, _⟩ := e2
      rw [eb]
      exact ⟨_, by rw [es]; exact hH h' kb _ _ hb, rfl⟩
    · obtain ⟨us, e1, e2, e3, e4⟩ := getv i (by (first | exact Nat.lt_of_lt_of_eq hi hlen | lia))
      obtain ⟨us', f1, f2, f3, f4⟩ := getv j (by (first | exact Nat.lt_of_lt_of_eq hj hlen | lia))
      have hc := cm i j
      rw [e1, f1] at hc hC
      unfold cmpT at hc
      unfold ltT at hC
      exact oneLt_den (fun b o e => by rw [es]; exact hH h' kb b o e) e2 f2 e3 f3 hc (by show A.units + 1 + 1 + _ + 1 < _; (first | exact Nat.lt_of_le_of_lt (zLe (Nat.succ_le_succ (Nat.add_le_add (Nat.succ_le_succ (Nat.succ_le_succ (Nat.le_of_add_right_le hu))) (Nat.le_of_succ_le e4))) rfl) hcl' | lia)) hC
    · have hpl : ∀ i ∈ p.toList, i < ts.length := fun i hi => by
        have := hp.perm.mem_iff.mp (Array.mem_toList_iff.mp hi)
        rw [List.mem_toArray, List.mem_range] at this; (first | exact Nat.lt_of_lt_of_eq this hlen | lia)
      have hperm : (p.toList.map fun i => ts.getD i .none).Perm ts := by
        have := (Array.perm_iff_toList_perm.mp hp.perm).map (fun i => ts.getD i T.none)
        rw [List.toList_toArray, hlen] at this
        exact this.trans (by rw [map_range_getD])
      have hup : Up (p.toList.map fun i => ts.getD i .none) := by
        unfold Up
        rw [List.pairwise_iff_getElem]
        intro i j hi hj hij
        have hps := hp.size
        rw [List.length_map, Array.length_toList] at hi hj
        have := hs i j (by (exact Nat.le_of_lt hij)) (by (first | exact Nat.lt_of_lt_of_eq hj hps | lia))
        simp only [List.getElem_map, Array.getElem_toList]
        have e1 : pv p i = p[i] := by simp [pv, Array.getD, hi]
        have e2 : pv p j = p[j] := by simp [pv, Array.getD, hj]
        rw [e1, e2] at this
        have l1 : p[i] < ts.length := hpl _ (Array.mem_toList_iff.mpr (Array.getElem_mem hi))
        have l2 : p[j] < ts.length := hpl _ (Array.mem_toList_iff.mpr (Array.getElem_mem hj))
        have g1 : ∀ i (hi : i < ts.length), ts.getD i .none = ts.getD i t0 := fun i hi => by simp [hi]
        rw [g1 _ l1, g1 _ l2]
        exact this
      obtain ⟨M₂, R₂⟩ := M.put (a := s.heap.objs.size + 1) (o := listO (p.toList.map fun i => items.toList.getD i Value.none).toArray k') (s' := { s with heap := h' }) hnew hg' (fun b o e => kb b o (fun q => by rw [q, hnew] at e; cases e) (keep b o e)) rfl rfl
      refine ⟨_, rfl, wpAny_pure ⟨_, rfl, ?_⟩⟩
      refine ⟨_, O, _, as, h _ hperm hup, M₂, ?_, R₂ _⟩
      unfold DenD Den
      exact ⟨_, _, k', rfl, PHeap.put_self, DenL.mono (R₂ []).mono _ _ (by rw [List.toList_toArray]; exact dl.mapIdx _ hpl)⟩
end
end Mine
end

section
set_option Elab.async false
set_option maxRecDepth 100000
set_option linter.unusedVariables false
namespace Mine
open PySem PySem.W PyProof.Rows PySem.Calls

theorem pick_runT {α : Type} (xs : List α) : ∀ (n a : Nat), a + n ≤ xs.length → ((List.range n).map (a + ·)).filterMap (xs[·]?) = (xs.drop a).take n
  | 0, a, h => by simp
  | n + 1, a, h => by
    have h1 : xs[a]? = some xs[a] := List.getElem?_eq_getElem (by (first | exact Nat.lt_of_add_right_lt h | omega))
    have e : (List.range (n + 1)).map (a + ·) = a :: (List.range n).map ((a + 1) + ·) := by
      rw [List.range_succ_eq_map, List.map_cons, List.map_map]
      congr 1
      refine List.map_congr_left fun x _ => ?_
      show a + (x + 1) = a + 1 + x
      (first | exact zAs.symm | lia)
    rw [e, List.filterMap_cons, h1]
    dsimp only
    rw [pick_runT xs n (a + 1) (by (first | exact z18 h | lia)), List.drop_eq_getElem_cons (by (first | exact Nat.lt_of_add_right_lt h | omega) : a < xs.length), List.take_succ_cons]
theorem sliceT_take {α : Type} {xs : List α} {b : Nat} (hb : b ≤ xs.length) : sliceT xs none (some b) none = xs.take b := by
  unfold sliceT
  rw [sliceBounds_plain]
  show (sliceRange ((0 : Nat) : Int) ((clipAt xs.length (b : Int) : Nat) : Int) 1).filterMap (xs[·]?) = _
  rw [clipAt_nat, Nat.min_eq_left hb, sliceRange_one, pick_runT _ _ _ (by (first | exact zEq (Nat.zero_add _) hb | lia))]
  simp
theorem sliceT_drop {α : Type} {xs : List α} {a : Nat} (ha : a ≤ xs.length) : sliceT xs (some a) none none = xs.drop a := by
  unfold sliceT
  rw [sliceBounds_plain]
  show (sliceRange ((clipAt xs.length (a : Int) : Nat) : Int) ((xs.length : Nat) : Int) 1).filterMap (xs[·]?) = _
  rw [clipAt_nat, Nat.min_eq_left ha, sliceRange_one, pick_runT _ _ _ (by (first | exact Nat.le_of_eq (Nat.add_sub_of_le ha) | lia))]
  rw [List.take_of_length_le (by rw [List.length_drop]; (exact Nat.le_refl _))]
end Mine
end

section
set_option Elab.async false
set_option maxRecDepth 100000
set_option maxHeartbeats 1000000
set_option linter.unusedVariables false
namespace Mine
open PySem PySem.W PyProof.Rows PySem.Calls

noncomputable abbrev comp2 (a b : Str) (p1 p2 p3 p4 : Pos) (iter : Expr) (scope : Scope) (pos : Pos) : Expr := .ListComp (.Name b p1) [⟨.Name a p2, iter, [], 0⟩, ⟨.Name b p3, .Name a p4, [], 0⟩] scope pos
theorem comp2_in (a b : Str) (p1 p2 p3 p4 : Pos) (iter : Expr) (scope : Scope) (pos : Pos) (it acc : Value) (env : Env) :
    compTurn (comp2 a b p1 p2 p3 p4 iter scope pos) 1 it acc env = (standAt p4 >>= fun _ => pyNext it >>= fun r => match r with
      | none => pure (.done .next)
      | some v => letOwnedTupleGo (.Name b p3) it v >>= fun _ => assign (.Name b p3) env v >>= fun _ =>
        (eval (.Name b p1) env >>= fun x => call (.builtin "list.append") [acc, x] >>= fun _ => pure ()) >>= fun _ =>
          again (.compLoop (comp2 a b p1 p2 p3 p4 iter scope pos) 1 it acc env)) := by rfl
theorem comp2_out (a b : Str) (p1 p2 p3 p4 : Pos) (iter : Expr) (scope : Scope) (pos : Pos) (it acc : Value) (env : Env) :
    compTurn (comp2 a b p1 p2 p3 p4 iter scope pos) 0 it acc env = (standAt iter.pos >>= fun _ => pyNext it >>= fun r => match r with
      | none => pure (.done .next)
      | some v => letOwnedTupleGo (.Name a p2) it v >>= fun _ => assign (.Name a p2) env v >>= fun _ =>
        (eval (.Name a p4) env >>= fun x => standAt p4 >>= fun _ => foldedSetIterable (.Name a p4) env x >>= fun x => holding [x] (pyIter x) >>= fun it2 => runOwn (.compStart (comp2 a b p1 p2 p3 p4 iter scope pos) 1 it2 acc env) env >>= fun _ =>
          again (.compLoop (comp2 a b p1 p2 p3 p4 iter scope pos) 0 it acc env))) := by rfl

section
variable {prog : Program} {w : World} {A : Around} {R : Result → Shared → Prop} {s : Shared} {env : Env}
theorem codeC_compStart2 {a b p1 p2 p3 p4 iter scope pos it acc}
    (h0 : codeC (model prog w) A (.compLoop (comp2 a b p1 p2 p3 p4 iter scope pos) 1 it acc env) R s)
    (h : wpAny (model prog w) A (pyIter it) (fun it' s' => codeC (model prog w) A (.compLoop (comp2 a b p1 p2 p3 p4 iter scope pos) 1 it' acc env) R s')
      (notedBy (model prog w) A env fun x s' => R (.error x) s') s) :
    codeC (model prog w) A (.compStart (comp2 a b p1 p2 p3 p4 iter scope pos) 1 it acc env) R s := by
  refine codeC_of_tree ?_
  show wpC _ _ ((compStart (comp2 a b p1 p2 p3 p4 iter scope pos) 1 it acc env).onRaise (fun x => do noteFrame x env; standAt theWindowsPlace)) _ _ s
  refine wpC_notedAt ?_
  unfold compStart
  refine .of ?_
  show wpAny _ _ (ask >>= _) _ _ s
  refine wpAny_bind (wpAny_askSetting (wpAny_ite ?_))
  split
  · first
      | exact wpAny_bind (wpAny_pure (wpAny_pure (And.intro rfl h0)))
      | exact wpAny_pure (And.intro rfl h0)
  · first
      | exact wpAny_bind (wpAny_rule (wpAny_bind (wpAny_standAt (wpAny_bind (wpAny_mono h (fun it' s' h' => wpAny_pure (And.intro rfl h')) fun _ _ x => x)))))
      | (refine wpAny_bind (wpAny_rule ?_); show wpAny _ _ (standAt _ >>= _) _ _ s; exact wpAny_bind (wpAny_standAt (wpAny_bind (wpAny_mono h (fun it' s' h' => wpAny_pure (And.intro rfl h')) fun _ _ x => x))))
end

theorem Rel.touchX {X H as s H' as' s'} (r : Rel X H as s H' as' s') {a : Addr} {h' : Heap} {tk : Nat} (ha : a ∈ X) (hl : Live h' a) (hs : Heap.ExtBut a s'.heap h') : Rel X H as s H' as' { s' with heap := h', toks := tk } :=
  ⟨r.mono, r.fresh, fun b o e hX hb => (r.keep b o e hX hb).trans fun o' e' => .inl (hs b o' (fun q => hX (q ▸ ha)) e'), fun b l => by
    by_cases q : b = a
    · subst q; exact hl
    · obtain ⟨o, e⟩ := r.alive b l; exact ⟨o, hs b o q e⟩, r.ext⟩

section
variable {C : Cx} {n : Nat} {sc : Kinds} {ρ : Vars} {O : List Ob} {A : Around} {E : Value → Shared → Prop}
inductive InS (C : Cx) (A : Around) (ρ : Vars) (O : List Ob) (env : Env) (X : List Addr) (H₀ : PHeap) (as₀ : List Addr) (s₀ : Shared) (as : List Addr) (I Da : Addr) {α : Type} (g : α → T) (fl : List α → List T) (all : List T) (m : Nat) (s' : Shared) : Prop
  | intro (ts' : List α) (acc' : List T) (H' : PHeap) (vs' : Array Value) (k' : Nat) (e : ts'.length = m) (he : acc' ++ fl ts' = all) (M : Mem C A H' as O s') (l : Loc H' as env ρ s') (hit : ItAt H' as O s'.heap I (ts'.map g)) (I2 : H' I = none) (D2 : H' Da = none)
      (a : s'.heap.get? Da = some (listO vs' k')) (den : DenL H' acc' vs'.toList) (R : Rel X H₀ as₀ s₀ H' as s')
inductive InD (C : Cx) (A : Around) (ρ : Vars) (O : List Ob) (env : Env) (X : List Addr) (H₀ : PHeap) (as₀ : List Addr) (s₀ : Shared) (as : List Addr) (Da : Addr) (all : List T) (s' : Shared) : Prop
  | intro (H' : PHeap) (vs' : Array Value) (k' : Nat) (M : Mem C A H' as O s') (l : Loc H' as env ρ s') (R : Rel X H₀ as₀ s₀ H' as s') (a : s'.heap.get? Da = some (listO vs' k')) (den : DenL H' all vs'.toList) (D2 : H' Da = none)
inductive SameD (C : Cx) (A : Around) (O : List Ob) (H : PHeap) (as : List Addr) (s : Shared) (t : T) (v : Value) (s' : Shared) : Prop
  | intro (H' : PHeap) (M : Mem C A H' as O s') (D : Den H' t v) (R : Rel [] H as s H' as s')
theorem var_same {env H as s x pos t} (eo : EnvOk sc env) (hx : nameOk sc x) (hd : (x == ("__debug__" : Str)) = false) (rm : Room n A) (M : Mem C A H as O s) (l : Loc H as env ((x, .val t) :: ρ) s) :
    wpC (model C.prog C.w) A (eval (.Name x pos) env) (SameD C A O H as s t) E s := by
  have hw := WPe_var (C := C) (n := n) (sc := sc) (ρ := (x, .val t) :: ρ) (O := O) (x := x) (pos := pos) (d := .val t) (Φ := fun d O' => d = .val t ∧ O' = O) (by rw [List.lookup_cons, beq_self_eq_true]) hx ⟨rfl, rfl⟩ hd
  refine wpC_mono (hw A env H as s _ rm eo M l) (fun v s' qq => qq.out fun d O' H' as' hq M' D' R' => ?_) fun _ _ x => x
  obtain ⟨rfl, rfl⟩ := hq
  obtain rfl := same_as M M' R'
  exact ⟨H', M', D', R'⟩
theorem sub_new {a : Str} (h : ρ.lookup a = none) (d : D) : Sub ρ ((a, d) :: ρ) := fun x e hx => by
  rw [lookup_cons_ne]; exact hx
  rintro rfl; rw [h] at hx; cases hx
theorem inner_code {env : Env} {H as s s₀ H₀ a b p1 p2 p3 p4 iter scope pos I Da Y ts acc vs k} (rm : Room n A) (h0n : 0 < n) (eo : EnvOk sc env) (hb : nameOk sc b) (hbd : (b == ("__debug__" : Str)) = false) (hρ : ρ.lookup b = none)
    (M : Mem C A H as O s) (l : Loc H as env ρ s) (hit : ItAt H as O s.heap I ts) (hne : I ≠ Da) (I0 : s₀.heap.get? I = none) (I1 : I ∉ as) (I2 : H I = none) (I3 : I ∉ slots env) (D1 : Da ∉ as) (D2 : H Da = none) (D3 : Da ∉ slots env)
    (hYb : TgtIn env Y (.Name b p3)) (IY : I ∉ Y) (DY : Da ∉ Y) (R : Rel (Da :: Y) H₀ as s₀ H as s) (hacc : s.heap.get? Da = some (listO vs k)) (hden : DenL H acc vs.toList) (hsz : acc.length + ts.length ≤ sizeLine) :
    codeC (model C.prog C.w) A (.compLoop (comp2 a b p1 p2 p3 p4 iter scope pos) 1 (.ref I) (.ref Da) env)
      (fun r s' => match r with | .ok f => InD C A ρ O env (Da :: Y) H₀ as s₀ as Da (acc ++ ts) s' | .error e => False) s := by
  refine codeC_loop rfl (InS C A ρ O env (Da :: Y) H₀ as s₀ as I Da id id (acc ++ ts)) (fun m s' hq => ?_) ts.length ⟨ts, acc, H, vs, k, rfl, rfl, M, l, by rw [List.map_id]; exact hit, I2, D2, hacc, hden, R⟩
  clear M l hit I2 D2 hacc hden R
  obtain ⟨ts', acc', H', vs', k', em, he, M, l, hit, I2, D2, hacc, hden, R⟩ := hq
  rw [List.map_id] at hit
  show wpC _ A ((compTurn (comp2 a b p1 p2 p3 p4 iter scope pos) 1 (.ref I) (.ref Da) env).onRaise (fun x => do noteFrame x env; theTreesLotGoes x)) _ _ s'
  refine wpC_noted ?_
  rw [comp2_in]
  refine wpC_bind (wpC_standAt (wpC_bind ?_))
  cases ts' with
  | nil => exact .of (ItAt.end rm h0n M hit fun h' hs => wpC_pure ⟨H', vs', k', M.touch I2 I1 hs hit.nd, l.touch I3 hs, R.touch I0 hs, hs Da _ (Ne.symm hne) hacc, by rw [← he]; exact (List.append_nil acc').symm ▸ hden, D2⟩)
  | cons t ts' =>
    have em : ts'.length < m := em ▸ Nat.lt_succ_self _
    have he : (acc' ++ [t]) ++ ts' = acc ++ ts := by rw [List.append_assoc]; exact he
    have hlen : vs'.size ≤ sizeLine := by
      rw [← Array.length_toList, hden.length]
      have := congrArg List.length he
      simp at this; (first | exact Nat.le_trans (Nat.le_trans (Nat.le_add_right _ _) (Nat.le_of_eq this)) hsz | lia)
    refine .of (ItAt.next rm M I1 I2 hit fun v h' tk hv hit' hs => ?_)
    refine wpC_bind (.of (letOwned_it (C := C) (s := { s' with heap := h', toks := tk }) (.name hb) hit' ?_))
    have M1 := M.touch (tk := tk) I2 I1 hs.extBut hit.nd
    have l1 := l.touch (tk := tk) I3 hs.extBut
    have R1 := R.touch (tk := tk) I0 hs.extBut
    have a1 : ({ s' with heap := h', toks := tk } : Shared).heap.get? Da = some (listO vs' k') := hs.extBut Da _ (Ne.symm hne) hacc
    have hit' : ItAt H' as O ({ s' with heap := h', toks := tk } : Shared).heap I ts' := hit'
    clear M l R hacc hs hit
    generalize ({ s' with heap := h', toks := tk } : Shared) = s1 at M1 l1 R1 a1 hit' ⊢
    refine wpC_bind (.of (assign_ (tgt := .Name b p3) (ρ' := (b, .val t) :: ρ) rm h0n eo M1 l1 hv (.name hb) .name fun s2 M2 l2 R2' => ?_))
    have R2 := R2' Y hYb
    have hit2 : ItAt H' as O s2.heap I ts' := hit'.rel (s := s1) R2 I1 IY
    have a2 := (R2.keep _ _ a1 DY D1).list
    have R12 := R1.trans (R2.weaken (Y := Da :: Y) fun _ h => List.mem_cons_of_mem _ h)
    clear R1 R2 R2' M1 l1 a1 hit' hv
    refine wpC_bind (wpC_bind (wpC_mono (var_same eo hb hbd rm M2 l2) (fun v4 s4 qq => qq.casesOn fun H4 M4 D4 R4 => ?_) fun _ _ x => x))
    have a4 := (R4.keep _ _ a2 List.not_mem_nil D1).list
    have offI4 := R4.off hit2.live I1 I2
    have offD4 := R4.off ⟨_, a2⟩ D1 D2
    refine wpC_bind (.of (wpAny_list_append_plain (items := vs') ⟨k', a4⟩ (fun h5 ⟨k5, g5⟩ hs5 => wpC_pure (wpC_pure (.inl ⟨rfl, ts'.length, em, ts', acc' ++ [t], H4, vs'.push v4, k5, rfl, he,
      M4.touch (tk := s4.toks) offD4.2 D1 hs5.extBut (fun o es n e q => by rw [a4] at e; cases e; cases q), ((l2.rel R4).touch (tk := s4.toks) D3 hs5.extBut).sub (sub_new hρ _), by rw [List.map_id]; exact (hit2.rel R4 I1 List.not_mem_nil).keep (fun o e => hs5.extBut I o hne e), offI4.2, offD4.2, g5,
      by rw [Array.toList_push]; exact (DenL.mono R4.mono _ _ hden).append (.cons D4 .nil), (R12.trans (R4.weaken (Y := Da :: Y) (by simp))).touchX (tk := s4.toks) (List.mem_cons_self ..) ⟨_, g5⟩ hs5.extBut⟩))) hlen))

theorem outer_code {env : Env} {H as as₀ s s₀ H₀ a b p1 p2 p3 p4 iter scope pos I Da Y ts acc vs k} (rm : Room n A) (h0n : 0 < n) (eo : EnvOk sc env) (ha : nameOk sc a) (hb : nameOk sc b) (had : (a == ("__debug__" : Str)) = false) (hbd : (b == ("__debug__" : Str)) = false)
    (hρa : ρ.lookup a = none) (hρb : ρ.lookup b = none) (hab : b ≠ a) (uss : List (List T)) (hts : ts = uss.map T.list)
    (M : Mem C A H as O s) (l : Loc H as env ρ s) (hit : ItAt H as O s.heap I ts) (hne : I ≠ Da) (I0 : s₀.heap.get? I = none) (D0 : s₀.heap.get? Da = none) (Y0 : ∀ c ∈ Y, s₀.heap.get? c = none) (I1 : I ∉ as) (I2 : H I = none) (I3 : I ∉ slots env) (D1 : Da ∉ as) (D2 : H Da = none) (D3 : Da ∉ slots env)
    (YS : ∀ c ∈ Y, c ∈ slots env) (hYa : TgtIn env Y (.Name a p2)) (hYb : TgtIn env Y (.Name b p3)) (IY : I ∉ Y) (DY : Da ∉ Y) (R : Rel [] H₀ as₀ s₀ H as s) (hacc : s.heap.get? Da = some (listO vs k)) (hden : DenL H acc vs.toList) (hsz : acc.length + uss.flatten.length ≤ sizeLine) :
    codeC (model C.prog C.w) A (.compLoop (comp2 a b p1 p2 p3 p4 iter scope pos) 0 (.ref I) (.ref Da) env)
      (fun r s' => match r with | .ok f => InD C A ρ O env [] H₀ as₀ s₀ as Da (acc ++ uss.flatten) s' | .error e => False) s := by
  refine codeC_loop rfl (InS C A ρ O env [] H₀ as₀ s₀ as I Da T.list List.flatten (acc ++ uss.flatten)) (fun m s' hq => ?_) uss.length ⟨uss, acc, H, vs, k, rfl, rfl, M, l, hts ▸ hit, I2, D2, hacc, hden, R⟩
  clear M l hit I2 D2 hacc hden R
  obtain ⟨us', acc', H', vs', k', em, he, M, l, hit, I2, D2, hacc, hden, R⟩ := hq
  show wpC _ A ((compTurn (comp2 a b p1 p2 p3 p4 iter scope pos) 0 (.ref I) (.ref Da) env).onRaise (fun x => do noteFrame x env; theTreesLotGoes x)) _ _ s'
  refine wpC_noted ?_
  rw [comp2_out]
  refine wpC_bind (wpC_standAt (wpC_bind ?_))
  cases us' with
  | nil => exact .of (ItAt.end rm h0n M hit fun h' hs => wpC_pure ⟨H', vs', k', M.touch I2 I1 hs hit.nd, l.touch I3 hs, R.touch I0 hs, hs Da _ (Ne.symm hne) hacc, by rw [← he]; exact (List.append_nil acc').symm ▸ hden, D2⟩)
  | cons u us' =>
    have em : us'.length < m := em ▸ Nat.lt_succ_self _
    have he : (acc' ++ u) ++ us'.flatten = acc ++ uss.flatten := by rw [List.append_assoc]; exact he
    have hlen : acc'.length + u.length ≤ sizeLine := by
      have := congrArg List.length he
      simp only [List.length_append] at this; (first | exact Nat.le_trans (Nat.le_trans (Nat.le_add_right _ _) (Nat.le_of_eq this)) hsz | lia)
    have hit : ItAt H' as O s'.heap I (.list u :: us'.map T.list) := hit
    refine .of (ItAt.next rm M I1 I2 hit fun v h' tk hv hit' hs => ?_)
    refine wpC_bind (.of (letOwned_it (C := C) (s := { s' with heap := h', toks := tk }) (.name ha) hit' ?_))
    have M1 := M.touch (tk := tk) I2 I1 hs.extBut hit.nd
    have l1 := l.touch (tk := tk) I3 hs.extBut
    have R1 := R.touch (tk := tk) I0 hs.extBut
    have a1 : ({ s' with heap := h', toks := tk } : Shared).heap.get? Da = some (listO vs' k') := hs.extBut Da _ (Ne.symm hne) hacc
    have hit' : ItAt H' as O ({ s' with heap := h', toks := tk } : Shared).heap I (us'.map T.list) := hit'
    clear M l R hacc hs hit
    generalize ({ s' with heap := h', toks := tk } : Shared) = s1 at M1 l1 R1 a1 hit' ⊢
    refine wpC_bind (.of (assign_ (tgt := .Name a p2) (ρ' := (a, .val (.list u)) :: ρ) rm h0n eo M1 l1 hv (.name ha) .name fun s2 M2 l2 R2' => ?_))
    have R2 := R2' Y hYa
    have hit2 : ItAt H' as O s2.heap I (us'.map T.list) := hit'.rel (s := s1) R2 I1 IY
    have a2 := (R2.keep _ _ a1 DY D1).list
    -- what the targets' slots and the list hold is no one else's
    have R12 : Rel [] H₀ as₀ s₀ H' as s2 := R1.own Y0 R2
    clear R1 R2 R2' M1 l1 a1 hit' hv
    refine wpC_bind (wpC_mono (var_same eo ha had rm M2 l2) (fun v4 s4 qq => qq.casesOn fun H4 M4 D4 R4 => ?_) fun _ _ x => x)
    have l4 := l2.rel R4
    have hit4 := hit2.rel R4 I1 List.not_mem_nil
    have a4 := (R4.keep _ _ a2 List.not_mem_nil D1).list
    have offI4 := R4.off hit2.live I1 I2
    have offD4 := R4.off ⟨_, a2⟩ D1 D2
    have den4 := DenL.mono R4.mono _ _ hden
    have R14 := R12.trans R4
    clear R12 R4 M2 l2 a2 hit2 hden
    refine wpC_bind (wpC_standAt (wpC_bind (wpC_of_eq (a := v4) rfl (wpC_bind (wpC_holding (.of ?_))))))
    refine iter_ rm M4 (d := .val (.list u)) (ts := u) rfl D4 fun J s5 hJ M5 R5 hk5 J1 J2 Jl hitJ _ => ?_
    have a5 := (R5.keep _ _ a4 List.not_mem_nil D1).list
    have hJD : J ≠ Da := fun q => by subst q; rw [a4] at hJ; cases hJ
    have hJS : J ∉ slots env := fun hm => (l4.off J hm).2.2.not_none hJ
    have hJY : J ∉ Y := fun hm => hJS (YS _ hm)
    have start := inner_code (C := C) (ρ := (a, .val (.list u)) :: ρ) (s₀ := s4) (H₀ := H4) (a := a) (p1 := p1) (p2 := p2) (p3 := p3) (p4 := p4) (iter := iter) (scope := scope) (pos := pos) (acc := acc') rm h0n eo hb hbd (by rw [lookup_cons_ne hab]; exact hρb) M5 (l4.rel R5) hitJ hJD hJ J1 J2 hJS D1 offD4.2 D3 hYb hJY DY
      (R5.weaken (Y := Da :: Y) (by simp)) a5 den4 hlen
    refine wpC_bind (wpC_runOwn (A := A) (env := env) (c := .compStart (comp2 a b p1 p2 p3 p4 iter scope pos) 1 (.ref J) (.ref Da) env) ?_ (by intro x; cases x))
    refine codeC_mono (codeC_compStart2 start (itself_ M5 hitJ start)) fun r s6 h => ?_
    cases r with
    | error e => exact h.elim
    | ok f =>
      refine wpC_pure (.inl ⟨rfl, us'.length, em, InD.casesOn h fun H6 vs6 k6 M6 l6 R6 g6 den6 n6 => ?_⟩)
      have IX : I ∉ Da :: Y := fun hm => (List.mem_cons.mp hm).elim hne IY
      exact ⟨us', acc' ++ u, H6, vs6, k6, rfl, he, M6, l6.sub (sub_new hρa _), hit4.rel R6 I1 IX, (R6.off hit4.live I1 offI4.2).2, n6, g6, den6, R14.own (X := Da :: Y) (fun c hc => (List.mem_cons.mp hc).elim (fun q => q ▸ D0) (Y0 c)) R6⟩

inductive Comp2I (O : List Ob) (d : D) (P : List T → Prop) : Prop
  | intro (uss : List (List T)) (h : itemsD O d = some (uss.map T.list)) (l : uss.flatten.length ≤ sizeLine) (k : P uss.flatten)
theorem WPe_Comp2 {a b p1 p2 p3 p4 iter scope pos} {Φ : D → List Ob → Prop} (ok : CompOk sc scope (.Tuple [.Name a p2, .Name b p3] 0 p2)) (ha : nameOk (relab sc scope.names) a) (hb : nameOk (relab sc scope.names) b) (hfa : scope.names.lookup a ≠ some .free) (hfb : scope.names.lookup b ≠ some .free) (had : (a == ("__debug__" : Str)) = false) (hbd : (b == ("__debug__" : Str)) = false) (hab : b ≠ a)
    (h : WPe C n sc ρ O iter fun d O' => Comp2I O' d fun us => Φ (.val (.list us)) O')
    (hs : ∀ (env : Env) x, foldedSetIterable iter env x = pure x) (h0n : 0 < n) : WPe C n sc ρ O (comp2 a b p1 p2 p3 p4 iter scope pos) Φ := fun A env H as s E rm eo M l => by
  rw [eval_ListComp]
  have hnames : ∀ x ∈ scope.names, x.2 = .local → scope.names.lookup x.1 = some .local := fun x hx e => by
    obtain ⟨y, k⟩ := x
    dsimp only at e; subst e
    exact lookup_nodup ok.nodup hx
  refine wpC_comprehension (g := ⟨.Name a p2, iter, [], 0⟩) (gs := [⟨.Name b p3, .Name a p4, [], 0⟩]) rfl (hs env) (comp_clos ok eo) ok.kind hnames (wpC_mono (h A env H as s E rm eo M l) (fun v s₁ qq => qq.out fun d O₁ H₁ as₁ hq M₁ D₁ R₁ => ?_) fun _ _ x => x)
  obtain ⟨uss, hi, hsz, hF⟩ := hq
  have l₁ := l.rel R₁
  refine iter_ rm M₁ hi D₁ fun I s₂ hI M₂ R₂ hk₂ h1 h2 hl hit _ => ?_
  have l₂ := l₁.rel R₂
  refine wpAny_newObj_type ?_ (by show ([] : List Value).toArray.size ≤ sizeLine; simp)
  have hDn := get?_size s₂.heap
  obtain ⟨M₃, R₃⟩ := M₂.same (s' := { s₂ with heap := s₂.heap.push (listO #[] 0) }) (fun b o e => Heap.get?_push_of_some _ e) rfl rfl
  have R₃ := R₃ []
  have l₃ := l₂.rel R₃
  have hit₃ := hit.rel R₃ h1 (by simp)
  obtain ⟨Y, eo', tok', loc', hkeep, hY, hYt, hslot, hLY⟩ := comp_env ok eo M₃ l₃
  refine newCompEnv (env := env) ?_
  have RR₃ := (R₁.trans R₂).trans R₃
  obtain ⟨M₄, R₄⟩ := M₃.same (s' := { s₂ with heap := pushCells ((s₂.heap.push (listO #[] 0)).push { cls := .type "dict", data := .dict #[] }) scope.names }) hkeep rfl rfl
  have R₄ := R₄ []
  have hsI : s.heap.get? I = none := R₁.back hI
  have hsD : s.heap.get? s₂.heap.objs.size = none := R₁.back (R₂.back hDn)
  have hsY : ∀ a ∈ Y, s.heap.get? a = none := fun a ha => RR₃.back (hY a ha)
  have hID : I ≠ s₂.heap.objs.size := by obtain ⟨o, e⟩ := hl; exact Nat.ne_of_lt (Heap.lt_size e)
  have live3 : ∀ a, Live s₂.heap a → ∀ b ∈ Y, a ≠ b := fun a ⟨o, e⟩ b hb q => by
    subst q
    have := hY a hb
    rw [Heap.get?_push_of_some _ e] at this; cases this
  have D3live : ({ s₂ with heap := s₂.heap.push (listO #[] 0) } : Shared).heap.get? s₂.heap.objs.size = some (listO #[] 0) := Heap.get?_push_size _ rfl
  have hDY : s₂.heap.objs.size ∉ Y := fun hm => by have := hY _ hm; rw [D3live] at this; cases this
  have hIY : I ∉ Y := fun hm => live3 I hl I hm rfl
  generalize hcenv : compEnv' (relabel scope env) (cellsFrom ((s₂.heap.push (listO #[] 0)).objs.size + 1) scope.names (closL env.cells scope.names [])) (s₂.heap.push (listO #[] 0)).objs.size env = cenv at eo' loc' hYt hslot hLY
  have notSlot : ∀ a, a ∉ Y → s.heap.get? a = none → a ∈ slots cenv → False := fun a hnY hn q => by
    rcases hslot a q with h | h
    · exact hnY h
    · obtain ⟨_, _, o, e⟩ := l.off a h
      rw [hn] at e; cases e
  have D1 : s₂.heap.objs.size ∉ as₁ := fun hm => (M₂.live _ hm).not_none hDn
  have D2 : H₁ s₂.heap.objs.size = none := M₂.fresh_none hDn
  have hLc : s.heap.get? (s₂.heap.push (listO #[] 0)).objs.size = none := RR₃.back (get?_size _)
  have nofree : ∀ x, scope.names.lookup x ≠ some .free → (capt scope.names ρ).lookup x = none := fun x hx => by
    cases q : (capt scope.names ρ).lookup x with
    | none => rfl
    | some d => exact absurd (capt_lookup q).1 hx
  let Y' := (slots cenv).filter fun c => decide (c ∈ Y)
  have memY' : ∀ c, c ∈ slots cenv → c ∈ Y → c ∈ Y' := fun c h1 h2 => List.mem_filter.mpr ⟨h1, by simpa using h2⟩
  have both : ∀ x, SlotIn cenv x Y → SlotIn cenv x Y' := fun x q =>
    ⟨fun h => memY' _ (SlotIn.all.1 h) (q.1 h), fun c h hc => memY' c (SlotIn.all.2 c h hc) (q.2 c h hc)⟩
  have loop := outer_code (C := C) (s₀ := s) (H₀ := H) (O := O₁) (ρ := capt scope.names ρ) (a := a) (b := b) (p1 := p1) (p2 := p2) (p3 := p3) (p4 := p4) (iter := iter) (scope := scope) (pos := pos) (I := I) (Da := s₂.heap.objs.size) (Y := Y') (acc := []) (vs := #[]) (k := 0)
    rm h0n eo' ha hb had hbd (nofree a hfa) (nofree b hfb) hab uss rfl M₄ loc' (hit₃.rel R₄ h1 (by simp)) hID hsI hsD (fun c hc => hsY c (by simpa using (List.mem_filter.mp hc).2)) h1 h2 (notSlot I hIY hsI) D1 D2 (notSlot _ hDY hsD)
    (fun c hc => (List.mem_filter.mp hc).1) (.name (both a hYt.of_pair.1)) (.name (both b hYt.of_pair.2)) (fun hm => hIY (by simpa using (List.mem_filter.mp hm).2)) (fun hm => hDY (by simpa using (List.mem_filter.mp hm).2))
    (RR₃.trans R₄) (hkeep _ _ D3live) .nil (by simpa using hsz)
  have done := codeC_mono (R' := fun r s' => compPostC (model C.prog C.w) A E none (After C A [] H as s Φ) (.ref s₂.heap.objs.size) (s₂.heap.push (listO #[] 0)).objs.size r s') loop fun r s' hr => by
    cases r with
    | error e => exact hr.elim
    | ok f =>
      obtain ⟨H', vs', k', M', L', R', g', den', hn'⟩ := hr
      have M'' := M'.lay hn' D1 g' (by intro _ _ q; cases q)
      have R'' := R'.lay (o := listO vs' k') hn' hsD
      have hloc : cenv.locals = (s₂.heap.push (listO #[] 0)).objs.size := by rw [← hcenv]; rfl
      have hLoff := L'.off _ (List.mem_cons_self ..)
      rw [hloc] at hLoff
      have hLne : (s₂.heap.push (listO #[] 0)).objs.size ≠ s₂.heap.objs.size := by rw [Heap.size_push]; exact Nat.ne_of_gt (Nat.lt_succ_self _)
      refine ⟨_, by rw [← hloc]; exact L'.ns.choose_spec.1, fun h'' hs'' => ?_⟩
      have hHL : (H'.put s₂.heap.objs.size (listO vs' k')) (s₂.heap.push (listO #[] 0)).objs.size = none := by
        unfold PHeap.put
        rw [if_neg hLne]; exact hLoff.2.1
      refine ⟨_, O₁, _, as₁, hF, M''.touchA hHL hLoff.1 hs''.extBut (M.apart_new hLc), ?_, R''.touch hLc hs''.extBut⟩
      unfold DenD Den
      rw [List.nil_append] at den'
      exact ⟨_, vs', k', rfl, PHeap.put_self, DenL.mono (put_mono' hn') _ _ den'⟩
  subst hcenv
  exact codeC_compStart_list done (itself_ M₄ (hit₃.rel R₄ h1 (by simp)) done)
end
end Mine
end

section
set_option compiler.extract_closed false
set_option Elab.async false
set_option maxRecDepth 100000
set_option maxHeartbeats 4000000
set_option linter.unusedVariables false
namespace Mine
open PySem PySem.W PyProof.Rows PySem.Calls PySem.NumText
local macro_rules | `(tactic| walk_at "m.body") => `(tactic| ((conv => (arg 3; whnf)); (conv => (arg 6; whnf)); try dsimp only [List.zip_cons_cons, List.zip_nil_left]))
local macro_rules | `(tactic| walk_at "m.red") => `(tactic| try dsimp only [List.nil_append, List.cons_append, List.length_nil, List.length_cons, List.set_cons_zero, List.set_cons_succ, List.getD_cons_zero, List.getD_cons_succ])
local macro_rules | `(tactic| walk_at "e1") => `(tactic| first
  | (with_reducible show WPe ..); first | refine WPe_atom rfl ?_ | refine WPe_BinOp_a rfl rfl ?_ | refine WPe_Compare_a rfl rfl ?_ | refine WPe_item_a rfl rfl ?_ | refine WPe_Compare ?_ rfl | refine WPe_item trivial ?_ | with_reducible (first | apply WPe_BinOp | apply WPe_UnaryOp | apply WPe_slice)
  | (with_reducible show WPl ..); first | refine WPl_atoms rfl ?_ | refine WPl_cons ?_ trivial
  | (with_reducible show WPb ..); first | refine WPb_Compare_a rfl rfl ?_ | refine WPb_Compare ?_ rfl
  | (with_reducible show WPo ..); dsimp only [WPo]
  | with_reducible (first | apply WPk_nil | apply WPk_cons))
local macro_rules | `(tactic| walk_at "m1") => `(tactic| first
  | walk_at "e1"
  | with_reducible apply WPs_nil
  | (with_reducible apply WPs_cons); first
      | refine WPx_Assign (nameOk_of rfl) ?_ fun _ _ => rfl
      | refine WPx_Expr ?_ fun _ _ => rfl
      | with_reducible (first | apply WPx_If | apply WPx_Return))
local macro_rules | `(tactic| walk_at "m") => `(tactic| repeat (walk_at "m1"; try walk_at "m.red"))
local macro_rules | `(tactic| walk_at "e") => `(tactic| repeat (walk_at "e1"; try walk_at "m.red"))
local macro_rules | `(tactic| walk_at "asg") => `(tactic| (refine WPs_cons ?_; refine WPx_Assign (nameOk_of rfl) ?_ fun _ _ => rfl; walk_at "e"))

section
noncomputable abbrev PW : Program := PySem.Challenge.pw_wn0033_01


theorem con_cv {C : Cx} {a pt tb} (W : CvW C PW a pt tb) {x : Str} (hx : TextOk x) {n : Nat} {O : List Ob} (hO : noDicts O) : Con C (n + 3) (.ref a) O [.val (.str x)] [] fun d O' => RetD O O' d fun t => t = .list (keyT x) := by
  refine Con_fn ["version"] W.df hO (by simp) rfl (by decide +kernel) (fun pm cd doc => vs1 fun _ => rfl) ?_
  intro Ψr hΨr
  walk_at "m.body"
  refine WPs_cons (WPx_Assign (.inl rfl) (WPe_glob W.gpat rfl ?_ rfl) (by intro env eo; rfl))
  walk_at "m.red"
  refine WPs_cons (WPx_Assign (.inl rfl) (WPe_ListOwn (WPl_nil ⟨rfl, [], rfl, ?_⟩)) (by intro env eo; rfl))
  walk_at "m.red"
  refine WPs_cons (WPx_For (.name (nameOk_of rfl)) ?_ (fun _ _ => rfl) (Nat.succ_pos _))
  refine WPe_CallM (fun _ _ => rfl) (ns_of rfl) (by decide) rfl plainAttrs_rePattern slot_split type_split ?_
  walk_at "m"
  refine ⟨tyPat W.pat, ?_⟩
  walk_at "m"
  refine ConB.con (F_split W.pat (by have := hx.short; (exact Nat.le_trans this (Nat.le_add_left _ _))) ?_)
  refine ⟨_, _, rfl, rfl, ?_⟩
  refine ForP_map (σ := List T) T.str (fun r => [("result", .ref 0), ("component_re", .val (.static (.ref pt))), ("version", .val (.str x))]) (fun r => [.list r]) (fun vs r => r ++ vs.flatMap partT = keyT x ∧ ∀ v ∈ vs, v ∈ splitS x) 1 (fun _ => rfl) (fun _ => rfl) ?_ ?_ _ [] _ ?_ ?_
  · rintro v vs r ⟨hr, hs⟩
    have hvo := hx.piece (hs v (List.mem_cons_self ..))
    have hlen : r.length ≤ 2600 := by
      have := congrArg List.length hr
      have := keyT_few hx
      simp at *; lia
    refine ⟨_, .name, fun Ψl hΨl => ?_⟩
    walk_at "m"
    refine C_notInS ?_
    refine ⟨_, rfl, ?_⟩
    split
    · rename_i hb
      have hb' : inSigns v = false := by unfold inSigns; rw [Bool.not_eq_false']; exact hb
      cases hi : PySem.intText? v with
      | none =>
        have hp : partT v = [.int (stage v), .str v] := by unfold partT; rw [hb', hi]; rfl
        obtain ⟨f, hf1, hf2⟩ := W.tab
        obtain ⟨ot, ht1, ht2, ht3⟩ := W.tabAt
        refine WPs_cons (WPx_TryCatch (X := "ValueError") (T' := "ValueError") (WPxr_Assign (WPer_CallB (.inr ⟨_, rfl⟩) (ns_of rfl) (WPe_builtin W.int.1 W.int.2 rfl ⟨rfl, ?_⟩ rfl)) (by intro env eo; rfl)) rfl W.ve.1 W.ve.2 (by rw [isSubtype_type]; kernel_rfl) (by first | (rw [isSubtype_type]; kernel_rfl) | kernel_rfl) (by rw [isSubtype_type]; kernel_rfl) ?_ rfl)
        · walk_at "m"
          exact ⟨rfl, R_int10 (Nat.le_trans (seen_length v) (by have := hvo.short; show v.cps.size ≤ 640; (exact Nat.le_trans this (Nat.le_add_left _ _)))) hi (by have h1 := StrLaws.reprText_len v hvo.signs; have h2 := hvo.short; have h3 : v.length = v.cps.size := rfl; lia) (Nat.succ_pos _)⟩
        · walk_at "m"
          refine WPe_CallM (fun _ _ => rfl) (ns_of rfl) (by decide) rfl F.plainAttrs_dict F.slot_dict_get F.type_dict_get (WPe_glob W.gtab rfl ⟨tyDictB ht1 ht2 ht3, ?_⟩ rfl)
          walk_at "m"
          refine ConB.con (F_getStr hf1 W.tabNe (hf2 v) ?_)
          walk_at "m"
          refine WPe_CallM (fun _ _ => rfl) (ns_of rfl) (by decide) rfl F.plainAttrs_list F.slot_list_extend F.type_list_extend ?_
          walk_at "m"
          refine ⟨tyList rfl, ?_⟩
          refine WPl_cons (WPe_Tuple ?_) trivial
          walk_at "m"
          refine ⟨rfl, _, rfl, ?_⟩
          walk_at "m"
          refine ConB.con (F_extendT rfl (by rw [sizeLine_eq]; simp; (exact Nat.le_trans hlen (Nat.le_add_left _ _))) ?_)
          walk_at "m"
          refine ⟨rfl, ?_⟩
          walk_at "m"
          refine (hΨl _ _ ?_).1
          refine ⟨r ++ [.int (stage v), .str v], [], ⟨?_, fun u hu => hs u (List.mem_cons_of_mem _ hu)⟩, ?_, rfl⟩
          · rw [List.flatMap_cons, hp] at hr; rw [List.append_assoc]; exact hr
          · exact Sub.cons rfl (Sub.cons rfl (Sub.cons rfl Sub.nil))
      | some i =>
        have hp : partT v = [.int 100, .int i] := by unfold partT; rw [hb', hi]; rfl
        refine WPs_cons (WPx_TryCalm ?_)
        walk_at "m"
        refine WPe_CallB (.inr ⟨_, rfl⟩) (ns_of rfl) (WPe_builtin W.int.1 W.int.2 rfl ⟨rfl, ?_⟩ rfl)
        walk_at "m"
        refine ConB.con (F_int10 (Nat.le_trans (seen_length v) (by have := hvo.short; show v.cps.size ≤ 640; lia)) hi ?_)
        walk_at "m"
        refine WPe_CallM (fun _ _ => rfl) (ns_of rfl) (by decide) rfl F.plainAttrs_list F.slot_list_extend F.type_list_extend ?_
        walk_at "m"
        refine ⟨tyList rfl, ?_⟩
        refine WPl_cons (WPe_Tuple ?_) trivial
        walk_at "m"
        refine ⟨rfl, _, rfl, ?_⟩
        walk_at "m"
        refine ConB.con (F_extendT rfl (by rw [sizeLine_eq]; simp; lia) ?_)
        walk_at "m"
        refine ⟨rfl, ?_⟩
        walk_at "m"
        refine (hΨl _ _ ?_).1
        refine ⟨r ++ [.int 100, .int i], [], ⟨?_, fun u hu => hs u (List.mem_cons_of_mem _ hu)⟩, ?_, rfl⟩
        · rw [List.flatMap_cons, hp] at hr; rw [List.append_assoc]; exact hr
        · exact Sub.cons rfl (Sub.cons rfl (Sub.cons rfl Sub.nil))
    · rename_i hb
      have hb' : inSigns v = true := by unfold inSigns; rw [Bool.not_eq_true']; exact Bool.eq_false_iff.mpr hb
      have hp : partT v = [] := by unfold partT; rw [hb']; rfl
      walk_at "m"
      refine (hΨl _ _ ?_).1
      refine ⟨r, [], ⟨?_, fun u hu => hs u (List.mem_cons_of_mem _ hu)⟩, ?_, rfl⟩
      · rw [List.flatMap_cons, hp] at hr; exact hr
      · exact Sub.cons rfl (Sub.cons rfl (Sub.cons rfl Sub.nil))
  · rintro r ρ ⟨hr, hs⟩ hsub
    rw [List.flatMap_nil, List.append_nil] at hr
    subst hr
    refine WPs.sub (WPs_freeze (i := 0) rfl ?_) hsub
    walk_at "m"
    exact hΨr _ _ rfl
  · exact ⟨rfl, fun v hv => hv⟩
  · exact Sub.cons rfl (Sub.cons rfl (Sub.cons rfl Sub.nil))
end

section
structure BisD (C : Cx) (dt kd : Addr) : Prop where
  tup : ∃ o t k, C.B.get? dt = some o ∧ o.data = .seq #[.int 0 t, .none] k
  kw : ∃ m, C.B.Ns kd m ∧ m "key" = some .none
structure KeyAt (C : Cx) (n : Nat) (ka : Addr) (ok : T → Prop) (kf : T → T) : Prop where
  fn : ∃ fd body, FnOk C ka fd body
  con : ∀ t, ok t → ∀ O, noDicts O → Con C n (.ref ka) O [.val t] [] fun d O' => RetD O O' d fun u => u = kf t
structure BisW (C : Cx) (p : Program) (bi ins dt kd dt' kd' : Addr) : Prop where
  bi : DefAt C p "bisect_left" bi (.ref dt) (.ref kd)
  ins : DefAt C p "insort_left" ins (.ref dt') (.ref kd')
  d1 : BisD C dt kd
  d2 : BisD C dt' kd'
  len : Bi C "len" (.builtin "len")
noncomputable def BisTo (kf : T → T) (x : T) (ts : List T) (lo hi p : Nat) : Prop :=
  lo ≤ p ∧ p ≤ hi ∧ (∀ i t, lo ≤ i → i < p → ts[i]? = some t → ltT (kf t) x = true) ∧ (∀ i t, p ≤ i → i < hi → ts[i]? = some t → ltT (kf t) x = false)
noncomputable def Rises (kf : T → T) (x : T) (ts : List T) (lo hi : Nat) : Prop :=
  ∀ i j t u, lo ≤ i → i ≤ j → j < hi → ts[i]? = some t → ts[j]? = some u → ltT (kf u) x = true → ltT (kf t) x = true
noncomputable def CmpOk (kf : T → T) (x : T) (ts : List T) : Prop := datT x = true ∧ ∀ t ∈ ts, datT (kf t) = true ∧ cmpT (kf t) x = true ∧ depT (kf t) ≤ 60
section
variable {C : Cx} {A : Around} {H : PHeap} {as : List Addr} {O : List Ob} {s : Shared}
noncomputable def bisXs : List Str := ["a", "x", "lo", "hi", "key"]
theorem bind_b3 {pm cd doc : Value} {dt kd} (W : BisD C dt kd) (M : Mem C A H as O s) (va vx vl vh vk : Value) : BindsTo s (fdOf PW "bisect_left" pm cd doc (.ref dt) (.ref kd)) ⟨[va, vx, vl, vh], [("key", vk)]⟩ (bisXs.zip [va, vx, vl, vh, vk]) := by
  obtain ⟨o, t, k, h1, h2⟩ := W.tup
  exact BindsTo.of_defaults rfl (M.keepB _ _ h1) h2 rfl rfl
theorem bind_i3 {pm cd doc : Value} {dt kd} (W : BisD C dt kd) (M : Mem C A H as O s) (va vx vl vh vk : Value) : BindsTo s (fdOf PW "insort_left" pm cd doc (.ref dt) (.ref kd)) ⟨[va, vx, vl, vh], [("key", vk)]⟩ (bisXs.zip [va, vx, vl, vh, vk]) := by
  obtain ⟨o, t, k, h1, h2⟩ := W.tup
  exact BindsTo.of_defaults rfl (M.keepB _ _ h1) h2 rfl rfl
theorem bind_b2 {pm cd doc : Value} {dt kd} (W : BisD C dt kd) (M : Mem C A H as O s) (va vx vk : Value) : ∃ t, BindsTo s (fdOf PW "insort_left" pm cd doc (.ref dt) (.ref kd)) ⟨[va, vx], [("key", vk)]⟩ (bisXs.zip [va, vx, .int 0 t, .none, vk]) := by
  obtain ⟨o, t, k, h1, h2⟩ := W.tup
  exact ⟨t, BindsTo.of_defaults rfl (M.keepB _ _ h1) h2 rfl rfl⟩


noncomputable abbrev bisV (ka : Addr) (x : T) (l h : Nat) : Vars := [("a", .ref 0), ("x", .val x), ("lo", .val (.int l)), ("hi", .val (.int h)), ("key", .val (.static (.ref ka)))]
theorem con_bis {n : Nat} {bi ins dt kd dt' kd' ka : Addr} {ok kf} (W : BisW C PW bi ins dt kd dt' kd') (K : KeyAt C n ka ok kf) (h0n : 0 < n) {ts : List T} {x : T} {lo hi : Nat} {hiD : D} (hhd : (hiD = .val .none ∧ hi = ts.length) ∨ hiD = .val (.int hi))
    (hlh : lo ≤ hi) (hhi : hi ≤ ts.length) (hsz : ts.length ≤ sizeLine) (hok : ∀ t ∈ ts, ok t) (hc : CmpOk kf x ts) (hr : Rises kf x ts lo hi) :
    Con C (n + 1) (.ref bi) [.list ts] [.ref 0, .val x, .val (.int lo), hiD] [("key", .val (.static (.ref ka)))] fun d O' => ∃ p : Nat, d = .val (.int p) ∧ O' = [.list ts] ∧ BisTo kf x ts lo hi p := by
  refine Con_at W.bi (ρ₀ := bisXs.zip [.ref 0, .val x, .val (.int lo), hiD, .val (.static (.ref ka))]) (by show textOkB PW "bisect_left" bisXs = true; decide +kernel) (fun pm cd doc A H as s vs kvs M h1 h2 h3 => ?_) ?_
  · obtain ⟨va, vx, vl, vh, rfl, q1, q2, q3, q4⟩ := dens4 h1
    obtain ⟨vk, rfl, q5⟩ := kw1 h2 h3
    exact ⟨_, bind_b3 W.d1 M va vx vl vh vk, .of rfl ⟨q1, q2, q3, q4, q5, trivial⟩⟩
  · walk_at "m.body"
    dsimp only [bisXs, List.zip_cons_cons, List.zip_nil_left]
    walk_at "m"
    refine C_ltI (.neg (by simp) ?_)
    refine WPs_nil ?_
    walk_at "m.red"
    refine WPs_seq (bisXs.zip [.ref 0, .val x, .val (.int lo), .val (.int hi), .val (.static (.ref ka))]) [.list ts] ?_ ?_
    · refine WPx_If ?_
      walk_at "m"
      rcases hhd with ⟨e, e2⟩ | e
      · subst e
        refine C_isNone (by intro u q; cases q) (.pos (by rfl) ?_)
        walk_at "m"
        refine WPe_CallB (.inl ⟨_, rfl⟩) (ns_of rfl) (WPe_builtin W.len.1 W.len.2 rfl ⟨rfl, ?_⟩ rfl)
        walk_at "m"
        refine ConB.con (F_len rfl (by rw [sizeLine_eq] at hsz; lia) ?_)
        walk_at "m"
        refine ⟨?_, rfl⟩
        rw [e2]
        exact Sub.cons rfl (Sub.cons rfl (Sub.cons rfl (Sub.cons rfl (Sub.cons rfl Sub.nil))))
      · subst e
        refine C_isNone (by intro u q; cases q) (.neg (by simp [isNoneD]) ?_)
        walk_at "m"
        exact ⟨Sub.refl, rfl⟩
    · dsimp only [bisXs, List.zip_cons_cons, List.zip_nil_left]
      walk_at "m"
      refine C_isNone (by intro u q; cases q; simp) (.neg (by simp [isNoneD]) ?_)
      refine WPs_cons (WPx_While (k := hi - lo) (fun k ρ O => ∃ l h : Nat, ρ = ([("a", .ref 0), ("x", .val x), ("lo", .val (.int l)), ("hi", .val (.int h)), ("key", .val (.static (.ref ka)))] : Vars) ∧ O = [.list ts] ∧ k = h - l ∧ lo ≤ l ∧ l ≤ h ∧ h ≤ hi ∧
          (∀ i t, lo ≤ i → i < l → ts[i]? = some t → ltT (kf t) x = true) ∧ (∀ i t, h ≤ i → i < hi → ts[i]? = some t → ltT (kf t) x = false)) ⟨_, Sub.refl, lo, hi, rfl, rfl, rfl, Nat.le_refl _, hlh, Nat.le_refl _, fun i t h1 h2 => by lia, fun i t h1 h2 => by lia⟩ ?_)
      rintro k ρ O ⟨l, h, rfl, rfl, rfl, q1, q2, q3, q4, q5⟩
      walk_at "m"
      refine C_ltI ⟨_, rfl, ?_⟩
      by_cases hlt : l < h
      · rw [if_pos (by simpa using hlt)]
        walk_at "m"
        refine B_add ?_
        walk_at "m"
        refine B_floordiv (by decide) (by decide) ?_
        have emid : Int.fdiv ((l : Int) + (h : Int)) 2 = (((l + h) / 2 : Nat) : Int) := by
          rw [Int.fdiv_eq_ediv_of_nonneg _ (by decide)]; rfl
        rw [emid]
        have hm1 : l ≤ (l + h) / 2 := by lia
        have hm2 : (l + h) / 2 < h := by lia
        generalize (l + h) / 2 = mid at hm1 hm2
        obtain ⟨t, ht⟩ : ∃ t, ts[mid]? = some t := ⟨ts[mid]'(by lia), List.getElem?_eq_getElem (by lia)⟩
        have htm : t ∈ ts := List.mem_of_getElem? ht
        obtain ⟨fd, body, Fk⟩ := K.fn
        walk_at "m"
        refine WPe_Call Fk (ns_of rfl) (by decide) ?_
        walk_at "m"
        refine ⟨rfl, ?_⟩
        walk_at "m"
        refine ⟨ts, mid, t, rfl, rfl, by lia, by rw [sizeLine_eq] at hsz; lia, by simpa using ht, ?_⟩
        walk_at "m"
        refine ⟨rfl, (K.con t (hok t htm) [.list ts] ⟨trivial, trivial⟩).retE ?_⟩
        walk_at "m"
        obtain ⟨c1, c2, c3⟩ := hc.2 t htm
        refine C_lt c1 hc.1 c2 c3 ⟨_, rfl, ?_⟩
        cases hb : ltT (kf t) x with
        | true =>
          rw [if_pos rfl]
          walk_at "m"
          refine B_add ?_
          walk_at "m"
          refine ⟨h - (mid + 1), bisV ka x (mid + 1) h, by omega, Sub.cons rfl (Sub.cons rfl (Sub.cons rfl (Sub.cons rfl (Sub.cons rfl Sub.nil)))), mid + 1, h, ?_, rfl, rfl, by lia, by (exact hm2), q3, ?_, q5⟩
          · rfl
          · intro i u hi1 hi2 hu
            exact hr i mid u t hi1 (by (exact Nat.le_of_lt_succ hi2)) (by (exact Nat.lt_of_lt_of_le hm2 q3)) hu ht hb
        | false =>
          rw [if_neg Bool.false_ne_true]
          walk_at "m"
          refine ⟨mid - l, bisV ka x l mid, by lia, Sub.cons rfl (Sub.cons rfl (Sub.cons rfl (Sub.cons rfl (Sub.cons rfl Sub.nil)))), l, mid, rfl, rfl, rfl, q1, by omega, by (exact Nat.le_of_lt (Nat.lt_of_lt_of_le hm2 q3)), q4, ?_⟩
          intro i u hi1 hi2 hu
          cases hlu : ltT (kf u) x with
          | false => rfl
          | true => rw [hr mid i t u (by (exact Nat.le_trans q1 hm1)) hi1 hi2 ht hu hlu] at hb; cases hb
      · rw [if_neg (by simpa using hlt)]
        walk_at "m"
        exact ⟨l, rfl, rfl, q1, by (exact Nat.le_trans q2 q3), q4, fun i t h1 h2 hu => q5 i t (by lia) h2 hu⟩

theorem ins_body {n : Nat} {bi ins dt kd dt' kd' ka : Addr} {ok kf} (W : BisW C PW bi ins dt kd dt' kd') (K : KeyAt C n ka ok kf) (h0n : 0 < n) {ts : List T} {x : T} {lo hi : Nat} {hiD : D} (hhd : (hiD = .val .none ∧ hi = ts.length) ∨ hiD = .val (.int hi))
    (hlh : lo ≤ hi) (hhi : hi ≤ ts.length) (hsz : ts.length ≤ sizeLine) (hok : ∀ t ∈ ts, ok t) (hx : ok x) (hc : CmpOk kf (kf x) ts) (hr : Rises kf (kf x) ts lo hi) :
    WPs C (n + 1) (fnScope PW "insort_left").names (bisXs.zip [.ref 0, .val x, .val (.int lo), hiD, .val (.static (.ref ka))]) [.list ts] (fnBody PW "insort_left") fun o => ∃ p ρ, BisTo kf (kf x) ts lo hi p ∧ o = .next ρ [.list (insT ts p x)] := by
  walk_at "m.body"
  dsimp only [bisXs, List.zip_cons_cons, List.zip_nil_left]
  walk_at "m"
  refine C_isNone (by intro u q; cases q; simp) (.neg (by simp [isNoneD]) ?_)
  obtain ⟨fd, body, Fk⟩ := K.fn
  obtain ⟨fdb, bodyb, Fb⟩ := W.bi.fn (by decide +kernel)
  walk_at "m"
  refine WPe_Call Fb (ns_of rfl) (by decide) (WPe_glob W.bi.glob rfl ⟨rfl, ?_⟩ rfl)
  walk_at "m"
  refine WPe_Call Fk (ns_of rfl) (by decide) ?_
  walk_at "m"
  refine ⟨rfl, ?_⟩
  walk_at "m"
  refine ⟨rfl, ((K.con x hx [.list ts] ⟨trivial, trivial⟩).le (Nat.le_succ n)).retE ?_⟩
  walk_at "m"
  refine ⟨rfl, (con_bis W K h0n hhd hlh hhi hsz hok hc hr).mono ?_⟩
  rintro d O' ⟨p, rfl, rfl, hp⟩
  walk_at "m"
  refine WPe_CallM (fun _ _ => rfl) (ns_of rfl) (by decide) rfl F.plainAttrs_list F.slot_list_insert F.type_list_insert ?_
  walk_at "m"
  refine ⟨tyList rfl, ?_⟩
  walk_at "m"
  refine ConB.con (F_insert rfl (by lia) (by have := hp.2.1; lia) hsz ?_)
  walk_at "m"
  refine ⟨rfl, ?_⟩
  walk_at "m"
  exact ⟨p, _, hp, rfl⟩

theorem con_ins2 {n : Nat} {bi ins dt kd dt' kd' ka : Addr} {ok kf} (W : BisW C PW bi ins dt kd dt' kd') (K : KeyAt C n ka ok kf) (h0n : 0 < n) {ts : List T} {x : T}
    (hsz : ts.length ≤ sizeLine) (hok : ∀ t ∈ ts, ok t) (hx : ok x) (hc : CmpOk kf (kf x) ts) (hr : Rises kf (kf x) ts 0 ts.length) :
    Con C (n + 2) (.ref ins) [.list ts] [.ref 0, .val x] [("key", .val (.static (.ref ka)))] fun d O' => ∃ p : Nat, d = .val .none ∧ O' = [.list (insT ts p x)] ∧ BisTo kf (kf x) ts 0 ts.length p := by
  refine Con_at W.ins (ρ₀ := bisXs.zip [.ref 0, .val x, .val (.int (0 : Nat)), .val .none, .val (.static (.ref ka))]) (by show textOkB PW "insort_left" bisXs = true; decide +kernel) (fun pm cd doc A H as s vs kvs M h1 h2 h3 => ?_) ((ins_body W K h0n (.inl ⟨rfl, rfl⟩) (Nat.zero_le _) (Nat.le_refl _) hsz hok hx hc hr).mono ?_)
  · obtain ⟨va, vx, rfl, q1, q2⟩ := dens2 h1
    obtain ⟨vk, rfl, q5⟩ := kw1 h2 h3
    obtain ⟨t, hb⟩ := bind_b2 W.d2 M va vx vk
    exact ⟨_, hb, .of rfl ⟨q1, q2, isInt, isNone, q5, trivial⟩⟩
  · rintro o ⟨p, ρ, hp, rfl⟩
    exact ⟨p, rfl, rfl, hp⟩
theorem con_ins4 {n : Nat} {bi ins dt kd dt' kd' ka : Addr} {ok kf} (W : BisW C PW bi ins dt kd dt' kd') (K : KeyAt C n ka ok kf) (h0n : 0 < n) {ts : List T} {x : T} {lo hi : Nat}
    (hlh : lo ≤ hi) (hhi : hi ≤ ts.length) (hsz : ts.length ≤ sizeLine) (hok : ∀ t ∈ ts, ok t) (hx : ok x) (hc : CmpOk kf (kf x) ts) (hr : Rises kf (kf x) ts lo hi) :
    Con C (n + 2) (.ref ins) [.list ts] [.ref 0, .val x, .val (.int lo), .val (.int hi)] [("key", .val (.static (.ref ka)))] fun d O' => ∃ p : Nat, d = .val .none ∧ O' = [.list (insT ts p x)] ∧ BisTo kf (kf x) ts lo hi p := by
  refine Con_at W.ins (ρ₀ := bisXs.zip [.ref 0, .val x, .val (.int lo), .val (.int hi), .val (.static (.ref ka))]) (by show textOkB PW "insort_left" bisXs = true; decide +kernel) (fun pm cd doc A H as s vs kvs M h1 h2 h3 => ?_) ((ins_body W K h0n (.inr rfl) hlh hhi hsz hok hx hc hr).mono ?_)
  · obtain ⟨va, vx, vl, vh, rfl, q1, q2, q3, q4⟩ := dens4 h1
    obtain ⟨vk, rfl, q5⟩ := kw1 h2 h3
    exact ⟨_, bind_i3 W.d2 M va vx vl vh vk, .of rfl ⟨q1, q2, q3, q4, q5, trivial⟩⟩
  · rintro o ⟨p, ρ, hp, rfl⟩
    exact ⟨p, rfl, rfl, hp⟩
end
end

section
structure SubW (C : Cx) (p : Program) (a : Addr) : Prop where
  df : DefAt C p "_substitution_cost" a .none .none
  mc : ∃ t, C.mg "_MOVE_COST" = some (.int 2 t)
  cc : ∃ t, C.mg "_CASE_COST" = some (.int 1 t)
noncomputable def costT (x y : Str) : Int := if x == y then 0 else if Txt.lower x == Txt.lower y then 1 else 2
noncomputable def LowOk (x : Str) : Prop := Builtin.Str.tooLong (Txt.lower x).length = false

section
variable {C : Cx} {n : Nat}
theorem con_sub {a} (W : SubW C PW a) {x y : Str} (hx : LowOk x) (hy : LowOk y) {O : List Ob} (hO : noDicts O) : Con C (n + 1) (.ref a) O [.val (.str x), .val (.str y)] [] fun d O' => RetD O O' d fun t => t = .int (costT x y) := by
  refine Con_fn ["ch_a", "ch_b"] W.df hO (by simp) rfl (by decide +kernel) (fun pm cd doc => vs2 fun _ _ => rfl) ?_
  intro Ψr hΨr
  obtain ⟨tm, hm⟩ := W.mc
  obtain ⟨tc, hcc⟩ := W.cc
  walk_at "m.body"
  walk_at "m"
  refine C_eqS ⟨_, rfl, ?_⟩
  cases e1 : x == y with
  | true =>
    rw [if_pos rfl]
    walk_at "m"
    exact hΨr _ _ (by unfold costT; rw [e1]; rfl)
  | false =>
    rw [if_neg Bool.false_ne_true]
    refine WPs_nil ?_
    walk_at "m.red"
    walk_at "m"
    refine WPe_CallM (fun _ _ => rfl) (ns_of rfl) (by decide) rfl F.plainAttrs_str F.slot_str_lower F.type_str_lower ?_
    walk_at "m"
    refine ⟨tyStr, ?_⟩
    walk_at "m"
    refine ConB.con (F_lower hx ?_)
    walk_at "m"
    refine WPe_CallM (fun _ _ => rfl) (ns_of rfl) (by decide) rfl F.plainAttrs_str F.slot_str_lower F.type_str_lower ?_
    walk_at "m"
    refine ⟨tyStr, ?_⟩
    walk_at "m"
    refine ConB.con (F_lower hy ?_)
    refine C_eqS ⟨_, rfl, ?_⟩
    cases e2 : Txt.lower x == Txt.lower y with
    | true =>
      rw [if_pos rfl]
      walk_at "m"
      refine WPe_glob_int hcc rfl ?_ rfl
      exact hΨr _ _ (by unfold costT; rw [e1, e2]; rfl)
    | false =>
      rw [if_neg Bool.false_ne_true]
      refine WPs_nil ?_
      walk_at "m.red"
      walk_at "m"
      refine WPe_glob_int hm rfl ?_ rfl
      exact hΨr _ _ (by unfold costT; rw [e1, e2]; rfl)

noncomputable def headT : T → T
  | .list (t :: _) => t
  | t => t
theorem con_first {a} (W : DefAt C PW "_law_first" a .none .none) {t : T} {ts : List T} {O : List Ob} (hO : noDicts O) : Con C (n + 1) (.ref a) O [.val (.list (t :: ts))] [] fun d O' => RetD O O' d fun u => u = t := by
  refine Con_fn ["item"] W hO (by simp) rfl (by decide +kernel) (fun pm cd doc => vs1 fun _ => rfl) ?_
  intro Ψr hΨr
  walk_at "m.body"
  walk_at "m"
  exact ⟨_, 0, t, rfl, rfl, by decide, by decide, rfl, hΨr _ _ rfl⟩
theorem key_first {a} (W : DefAt C PW "_law_first" a .none .none) : KeyAt C (n + 1) a (fun t => ∃ u us, t = .list (u :: us)) headT :=
  ⟨W.fn (by decide +kernel), fun t ⟨u, us, e⟩ O hO => by subst e; exact con_first W hO⟩
noncomputable def keyV : T → T
  | .str x => .list (keyT x)
  | t => t
theorem key_cv {a pt tb} (W : CvW C PW a pt tb) : KeyAt C (n + 3) a (fun t => ∃ x, t = .str x ∧ TextOk x) keyV :=
  ⟨W.df.fn (by decide +kernel), fun t ⟨x, e, hx⟩ O hO => by subst e; exact con_cv W hx hO⟩
end
end

section
structure Pr where
  r0 : Int
  w0 : Str
  r1 : Int
  w1 : Str
  deriving Inhabited
noncomputable def tabW : List Pr := [⟨0, "A", 20, "a"⟩, ⟨0, "ALPHA", 20, "alpha"⟩, ⟨0, "B", 30, "b"⟩, ⟨0, "BETA", 30, "beta"⟩, ⟨0, "C", 40, "c"⟩, ⟨0, "DEV", 10, "dev"⟩, ⟨50, "RC", 50, "rc"⟩, ⟨0, "P", 200, "p"⟩, ⟨0, "PL", 200, "pl"⟩, ⟨0, "X", 0, "x"⟩, ⟨0, "SS", 0, "ss"⟩, ⟨0, "ß", 0, "ẞ"⟩]
noncomputable def Pr.t (p : Pr) : T := .list [.list [.int p.r0, .str p.w0], .list [.int p.r1, .str p.w1]]

section
variable {C : Cx} {n : Nat}
theorem bind_pairs (pm cd doc : Value) : bindArgs (fdOf PW "_law_pairs" pm cd doc .none .none) ⟨[], []⟩ = pure [] := rfl
theorem con_pairs {a} (W : DefAt C PW "_law_pairs" a .none .none) {O : List Ob} (hO : noDicts O) : Con C (n + 1) (.ref a) O [] [] fun d O' => d = .ref O.length ∧ O' = O ++ [.list (tabW.map Pr.t)] := by
  refine Con.frame0 hO (by simp) (by simp) ?_
  refine Con_plain (ds := []) [] W rfl (by decide +kernel) (fun pm cd doc => vs0 (bind_pairs pm cd doc)) ?_
  walk_at "m.body"
  refine WPs_cons ?_
  refine WPx_Return ?_
  walk_at "m.red"
  refine WPe_ListOwn ?_
  have step : ∀ {sc : Kinds} {ρ : Vars} {k1 k2 k3 k4 : Nat} {p1 p2 p3 p4 p5 p6 p7 : Pos} {i j : Int} {u v : Str} {Φ : D → List Ob → Prop}, Φ (.val (Pr.t ⟨i, u, j, v⟩)) [] →
      WPe C n sc ρ [] (.List [.List [.Constant (.int i) k1 p1, .Constant (.str u) k2 p2] p3, .List [.Constant (.int j) k3 p4, .Constant (.str v) k4 p5] p6] p7) Φ := by
    intro sc ρ k1 k2 k3 k4 p1 p2 p3 p4 p5 p6 p7 i j u v Φ h
    refine WPe_List ?_
    refine WPl_cons ?_ trivial
    refine WPe_List ?_
    walk_at "m"
    refine ⟨rfl, _, rfl, ?_⟩
    refine WPl_cons ?_ trivial
    refine WPe_List ?_
    walk_at "m"
    refine ⟨rfl, _, rfl, ?_⟩
    refine WPl_nil ?_
    exact ⟨rfl, _, rfl, h⟩
  iterate 12 (refine WPl_cons ?_ trivial; refine step ?_)
  refine WPl_nil ?_
  refine ⟨rfl, _, rfl, ?_⟩
  exact ⟨rfl, rfl⟩

theorem rangeT_length : ∀ (x c : Int) (n : Nat), (rangeT x c n).length = n
  | _, _, 0 => rfl
  | x, c, n + 1 => by simp [rangeT, rangeT_length (x + c) c n]
theorem itemsD_one {O : List Ob} {a b : Int} (h1 : -(2 ^ 62) ≤ a) (h2 : a < 2 ^ 62) (h3 : -(2 ^ 62) ≤ b) (h4 : b < 2 ^ 62) : itemsD O (.val (.range a b 1)) = some (rangeT a 1 (b - a).toNat) := by
  have e : Builtin.Range.rangeSize a b 1 = ((b - a).toNat : Nat) := by
    rw [rangeSize_one]; split <;> omega
  unfold itemsD
  dsimp only
  rw [if_pos ⟨small_one h1 h2 h3 h4, by rw [e]; exact Int.natCast_nonneg _⟩, e, Int.toNat_natCast]
theorem itemsD_range {O : List Ob} {a b : Nat} (h : b < 2 ^ 61) (hab : a ≤ b) : itemsD O (.val (.range a b 1)) = some (rangeT a 1 (b - a)) := by
  rw [itemsD_one (by omega) (by omega) (by omega) (by omega)]
  congr 2
  omega
theorem rangeT_cons {t : T} {ts : List T} {x : Int} {m : Nat} (h : t :: ts = rangeT x 1 m) : t = .int x ∧ ∃ m', m = m' + 1 ∧ ts = rangeT (x + 1) 1 m' := by
  cases m with
  | zero => cases h
  | succ m => rw [rangeT] at h; cases h; exact ⟨rfl, m, rfl, rfl⟩
noncomputable def intsT (ns : List Int) : List T := ns.map T.int
theorem intsT_get {ns : List Int} {i : Nat} (h : i < ns.length) : (intsT ns)[i]? = some (.int (ns.getD i 0)) := by
  unfold intsT
  rw [List.getElem?_map, List.getElem?_eq_getElem h, List.getD_eq_getElem?_getD, List.getElem?_eq_getElem h]; rfl
theorem intsT_length {ns : List Int} : (intsT ns).length = ns.length := by unfold intsT; rw [List.length_map]
theorem intsT_set {ns : List Int} {i : Nat} {x : Int} : (intsT ns).set i (.int x) = intsT (ns.set i x) := by unfold intsT; rw [List.map_set]

theorem fmod_nat (k m : Nat) (hm : 0 < m) : Int.fmod (k : Int) (m : Int) = ((k % m : Nat) : Int) := by
  rw [Int.fmod_eq_emod_of_nonneg _ (by lia)]; rfl
theorem con_cells {a} (W : DefAt C PW "_law_cells" a .none .none) (hlen : Bi C "len" (.builtin "len")) (hran : Bi C "range" (.type "range")) {O : List Ob} (hO : noDicts O) {ns : List Int} (hns : ns.length ≤ 63) :
    Con C (n + 2) (.ref a) O [.val (.list (intsT ns))] [] fun d O' => RetD O O' d fun t => ∃ cs : List Int, cs.length = 6 ∧ t = .list (intsT cs) := by
  refine Con_fn ["script"] W hO (by simp) rfl (by decide +kernel) (fun pm cd doc => vs1 fun _ => rfl) ?_
  intro Ψr hΨr
  walk_at "m.body"
  refine WPs_cons ?_
  refine WPx_Assign (nameOk_of rfl) ?_ (by intro env eo; rfl)
  refine WPe_ListOwn ?_
  walk_at "m"
  refine ⟨rfl, _, rfl, ?_⟩
  walk_at "m.red"
  refine WPs_cons ?_
  refine WPx_For (.name (nameOk_of rfl)) ?_ (fun _ _ => rfl) (Nat.succ_pos _)
  refine WPe_CallB (.inr ⟨_, rfl⟩) (ns_of rfl) (WPe_builtin hran.1 hran.2 rfl ⟨rfl, ?_⟩ rfl)
  walk_at "m"
  refine WPe_CallB (.inl ⟨_, rfl⟩) (ns_of rfl) (WPe_builtin hlen.1 hlen.2 rfl ⟨rfl, ?_⟩ rfl)
  walk_at "m"
  refine ConB.con (F_len rfl (by rw [intsT_length]; lia) ?_)
  walk_at "m"
  refine ConB.con (F_range1 ?_)
  rw [intsT_length]
  refine ⟨_, rangeT 0 1 ns.length, rfl, itemsD_range (a := 0) (by lia) (by (exact Nat.le_add_left _ _)), ?_⟩
  refine ForP_rng (σ := List Int) (fun cs => [("cells", .ref 0), ("script", .val (.list (intsT ns)))]) (fun cs => [.list (intsT cs)]) (fun k m cs => cs.length = 6 ∧ k + m = ns.length) 1 (fun _ => rfl) (fun _ => rfl) ?_ ?_ 0 ns.length [3, 100, 57, 54, 781, 0] _ ⟨rfl, by (exact Nat.add_comm _ _)⟩ (Sub.cons rfl (Sub.cons rfl Sub.nil))
  · rintro k m' cs ⟨h6, hkm⟩
    refine ⟨_, .name, fun Ψl hΨl => ?_⟩
    have e6 : Int.fmod (k : Int) 6 = ((k % 6 : Nat) : Int) := fmod_nat k 6 (by decide)
    have hk6 : k % 6 < cs.length := by lia
    refine WPs_cons ?_
    refine WPx_setL ?_ (by intro env eo; rfl)
    walk_at "m"
    refine B_mod (by decide) ?_
    rw [e6]
    refine ⟨_, _, _, rfl, rfl, by lia, by lia, by rw [Int.toNat_natCast]; exact intsT_get hk6, ?_⟩
    walk_at "m"
    refine ⟨_, _, _, rfl, rfl, by lia, by lia, by rw [Int.toNat_natCast]; exact intsT_get (show k < ns.length by lia), ?_⟩
    refine B_add ?_
    walk_at "m"
    refine B_mod (by decide) ?_
    rw [e6]
    refine ⟨0, _, _, _, rfl, rfl, rfl, by lia, by lia, ?_, rfl, ?_⟩
    · rw [intsT_length, Int.toNat_natCast]; exact hk6
    walk_at "m"
    rw [intsT_set, Int.toNat_natCast]
    refine (hΨl _ _ ?_).1
    exact ⟨_, [], ⟨by rw [List.length_set]; exact h6, by lia⟩, Sub.cons rfl (Sub.cons rfl Sub.nil), rfl⟩
  · rintro _ cs ρ ⟨h6, _⟩ hsub
    refine WPs.sub (WPs_freeze (i := 0) rfl ?_) hsub
    walk_at "m"
    exact hΨr _ _ ⟨cs, h6, rfl⟩
end
end

section
noncomputable def Pr.rank (p : Pr) (s : Nat) : Int := if s = 0 then p.r0 else p.r1
noncomputable def Pr.word (p : Pr) (s : Nat) : Str := if s = 0 then p.w0 else p.w1
structure Nm where
  pr : Pr
  num : Nat
  z : Nat
  ahead : Bool
  deriving Inhabited
noncomputable def Nm.figs (m : Nm) : Str := repStr "0" m.z ++ Str.ofString (toString (m.num : Int))
noncomputable def Nm.text (m : Nm) (s : Nat) : Str := if m.ahead then m.figs ++ m.pr.word s else m.pr.word s ++ m.figs
noncomputable def Nm.due (m : Nm) (s : Nat) : List T := if m.ahead then [.int 100, .int m.num, .int (m.pr.rank s), .str (m.pr.word s)] else [.int (m.pr.rank s), .str (m.pr.word s), .int 100, .int m.num]
noncomputable def Nm.entry (m : Nm) (s : Nat) : T := .list [.str (m.text s), .list (m.due s)]
noncomputable def Nm.t (m : Nm) : T := .list [m.entry 0, m.entry 1]
structure Names (ms : List Nm) : Prop where
  three : ms.length = 3
  from_ : ∃ rest, (ms.map Nm.pr ++ rest).Perm tabW
  num : ∀ m ∈ ms, m.num < 120 ∧ m.z < 3
theorem fmodN (a : Int) (m : Nat) (hm : 0 < m) : ∃ k : Nat, k < m ∧ Int.fmod a (m : Int) = k := by
  have h1 := Int.fmod_nonneg_of_pos a (b := (m : Int)) (by lia)
  have h2 := Int.fmod_lt_of_pos a (b := (m : Int)) (by lia)
  exact ⟨(Int.fmod a m).toNat, by omega, by omega⟩
theorem eraseIdx_mapL {α β : Type} (f : α → β) : ∀ (l : List α) (q : Nat), (l.map f).eraseIdx q = (l.eraseIdx q).map f
  | [], q => by simp
  | a :: l, 0 => by simp
  | a :: l, q + 1 => by simp [eraseIdx_mapL f l q]
theorem split_at {α : Type} {l : List α} {q : Nat} {a : α} (h : l[q]? = some a) : l = l.take q ++ a :: l.drop (q + 1) := by
  obtain ⟨h1, h2⟩ := List.getElem?_eq_some_iff.mp h
  rw [← h2, ← List.drop_eq_getElem_cons h1, List.take_append_drop]
theorem figs_short {m : Nm} (h : m.num < 120 ∧ m.z < 3) : m.figs.length ≤ 10 := by
  have h1 : ∀ z < 3, ∀ k < 120, (repStr "0" z ++ Str.ofString (toString ((k : Nat) : Int))).length ≤ 10 := by decide +kernel
  exact h1 m.z h.2 m.num h.1
theorem tab_short : ∀ p ∈ tabW, ∀ s, (p.word s).length ≤ 10 := by
  intro p hp s
  have h : ∀ p ∈ tabW, p.w0.length ≤ 10 ∧ p.w1.length ≤ 10 := by
    intro p hp
    simp only [tabW, List.mem_cons, List.not_mem_nil, or_false] at hp
    rcases hp with rfl | rfl | rfl | rfl | rfl | rfl | rfl | rfl | rfl | rfl | rfl | rfl <;> exact ⟨by decide +kernel, by decide +kernel⟩
  unfold Pr.word
  split
  · exact (h p hp).1
  · exact (h p hp).2

section
variable {C : Cx} {n : Nat}
theorem con_names {a ap} (W : DefAt C PW "_law_names" a .none .none) (Wp : DefAt C PW "_law_pairs" ap .none .none) (hlen : Bi C "len" (.builtin "len")) (hran : Bi C "range" (.type "range")) (hstr : Bi C "str" (.type "str")) {O : List Ob} (hO : noDicts O) {cs : List Int} (hcs : cs.length = 6) :
    Con C (n + 3) (.ref a) O [.val (.list (intsT cs))] [] fun d O' => RetD O O' d fun t => ∃ ms, Names ms ∧ t = .list (ms.map Nm.t) := by
  refine Con_fn ["cells"] W hO (by simp) rfl (by decide +kernel) (fun pm cd doc => vs1 fun _ => rfl) ?_
  intro Ψr hΨr
  obtain ⟨fdp, bodyp, Fp⟩ := Wp.fn (by decide +kernel)
  walk_at "m.body"
  walk_at "m"
  refine WPe_Call Fp (ns_of rfl) (by decide) (WPe_glob Wp.glob rfl ⟨rfl, ?_⟩ rfl)
  walk_at "m"
  refine ⟨rfl, (con_pairs Wp (n := n + 1) (O := []) trivial).eqE ?_⟩
  walk_at "m.red"
  refine WPs_cons ?_
  refine WPx_Assign (nameOk_of rfl) ?_ (by intro env eo; rfl)
  refine WPe_ListOwn ?_
  walk_at "m"
  refine ⟨rfl, _, rfl, ?_⟩
  walk_at "m.red"
  refine WPs_cons ?_
  refine WPx_For (.name (nameOk_of rfl)) ?_ (fun _ _ => rfl) (Nat.succ_pos _)
  refine WPe_CallB (.inr ⟨_, rfl⟩) (ns_of rfl) (WPe_builtin hran.1 hran.2 rfl ⟨rfl, ?_⟩ rfl)
  walk_at "m"
  refine ConB.con (F_range1 ?_)
  refine ⟨_, rangeT 0 1 3, rfl, itemsD_range (a := 0) (b := 3) (by (exact Nat.le_add_left _ _)) (by (exact Nat.le_add_left _ _)), ?_⟩
  refine ForP_st (σ := List Pr × List Nm) (fun st => [("names", .ref 1), ("pairs", .ref 0), ("cells", .val (.list (intsT cs)))]) (fun st => [.list (st.1.map Pr.t), .list (st.2.map Nm.t)])
    (fun ts st => ∃ m : Nat, st.2.length + m = 3 ∧ ts = rangeT st.2.length 1 m ∧ (st.2.map Nm.pr ++ st.1).Perm tabW ∧ ∀ m ∈ st.2, m.num < 120 ∧ m.z < 3) 2 (fun _ => rfl) (fun _ => rfl) ?_ ?_ _ (tabW, []) _ ⟨3, rfl, rfl, List.Perm.refl _, by simp⟩ (Sub.cons rfl (Sub.cons rfl (Sub.cons rfl Sub.nil)))
  · rintro t ts ⟨P, N⟩ ⟨m, hm, hts, hperm, hnum⟩
    obtain ⟨rfl, m', rfl, rfl⟩ := rangeT_cons hts
    dsimp only at hm hperm hnum ⊢
    have hPl : P.length = 12 - N.length := by
      have h1 := hperm.length_eq
      have h2 : tabW.length = 12 := rfl
      rw [List.length_append, List.length_map, h2] at h1; lia
    obtain ⟨num, hn1, hn2⟩ := fmodN ((cs.getD (3 + N.length) 0).fdiv 6) 120 (by decide)
    obtain ⟨z, hz1, hz2⟩ := fmodN ((cs.getD (3 + N.length) 0).fdiv 720) 3 (by decide)
    obtain ⟨q, hq1, hq2⟩ := fmodN ((cs.getD N.length 0).fdiv 6) P.length (by lia)
    obtain ⟨b, hb1, hb2⟩ := fmodN ((cs.getD N.length 0).fdiv 72) 2 (by decide)
    have i3 : ((3 : Int) + (N.length : Int)).toNat = 3 + N.length := by rfl
    have hg3 : (intsT cs)[((3 : Int) + (N.length : Int)).toNat]? = some (.int (cs.getD (3 + N.length) 0)) := by rw [i3]; exact intsT_get (by lia)
    have hg0 : (intsT cs)[((N.length : Nat) : Int).toNat]? = some (.int (cs.getD N.length 0)) := by rw [Int.toNat_natCast]; exact intsT_get (by lia)
    refine ⟨_, .name, fun Ψl hΨl => ?_⟩
    walk_at "m"
    refine B_add ⟨_, _, _, rfl, rfl, by lia, by lia, hg3, ?_⟩
    walk_at "m"
    refine B_floordiv (by decide) (by decide) ?_
    walk_at "m"
    refine B_mod (by decide) ?_
    rw [show ((120 : Int)) = ((120 : Nat) : Int) from rfl, hn2]
    walk_at "m"
    refine B_add ⟨_, _, _, rfl, rfl, by lia, by lia, hg3, ?_⟩
    walk_at "m"
    refine B_floordiv (by decide) (by decide) ?_
    walk_at "m"
    refine B_mod (by decide) ?_
    rw [show ((3 : Int)) = ((3 : Nat) : Int) from rfl, hz2]
    refine B_mulS (by omega) (by omega) (by decide +kernel) (by rw [Int.toNat_natCast, sizeLine_eq]; have : (Str.ofString "0").length = 1 := by decide +kernel
                                                                rw [this]; lia) ?_
    rw [Int.toNat_natCast]
    refine WPe_CallB (.inr ⟨_, rfl⟩) (ns_of rfl) (WPe_builtin hstr.1 hstr.2 rfl ⟨rfl, ?_⟩ rfl)
    walk_at "m"
    refine ConB.con (F_strI (by
      have : (num : Int).natAbs = num := rfl
      rw [this]
      exact Nat.lt_of_le_of_lt (Nat.log2_le_self num) (by lia)) ?_)
    have hfl : (repStr (Str.ofString "0") z).length + (Str.ofString (toString (num : Int))).length ≤ 10 := by
      have h1 : ∀ z < 3, ∀ k < 120, (repStr (Str.ofString "0") z).length + (Str.ofString (toString ((k : Nat) : Int))).length ≤ 10 := by decide +kernel
      exact h1 z hz1 num hn1
    refine B_addS (by rw [sizeLine_eq]; (exact Nat.le_trans hfl (Nat.le_add_left _ _))) ?_
    refine WPs_cons ?_
    refine WPx_Assign (nameOk_of rfl) ?_ (by intro env eo; rfl)
    refine WPe_ListOwn ?_
    walk_at "m"
    refine ⟨rfl, _, rfl, ?_⟩
    walk_at "m.red"
    refine WPs_cons ?_
    refine WPx_For (.pair (nameOk_of rfl) (nameOk_of rfl)) ?_ (fun _ _ => rfl) (Nat.succ_pos _)
    refine WPe_CallM (fun _ _ => rfl) (ns_of rfl) (by decide) rfl F.plainAttrs_list F.slot_list_pop F.type_list_pop ?_
    walk_at "m"
    refine ⟨tyList rfl, ?_⟩
    walk_at "m"
    refine ⟨_, _, _, rfl, rfl, by lia, by lia, hg0, ?_⟩
    walk_at "m"
    refine B_floordiv (by decide) (by decide) ?_
    refine WPe_CallB (.inl ⟨_, rfl⟩) (ns_of rfl) (WPe_builtin hlen.1 hlen.2 rfl ⟨rfl, ?_⟩ rfl)
    walk_at "m"
    refine ConB.con (F_len rfl (by rw [List.length_map]; lia) ?_)
    refine B_mod (by rw [List.length_map]; lia) ?_
    rw [List.length_map, hq2]
    walk_at "m"
    obtain ⟨p, hp⟩ : ∃ p, P[q]? = some p := ⟨P[q], List.getElem?_eq_getElem hq1⟩
    have hpm : p ∈ P := List.mem_of_getElem? hp
    have hpt : p ∈ tabW := hperm.mem_iff.mp (List.mem_append_right _ hpm)
    refine ConB.con (F_pop (t := p.t) rfl (by lia) (by rw [Int.toNat_natCast, List.getElem?_map, hp]; rfl) (by rw [List.length_map, sizeLine_eq]; lia) ?_)
    walk_at "m.red"
    rw [Int.toNat_natCast]
    have hEr : (P.map Pr.t).eraseIdx q = (P.eraseIdx q).map Pr.t := eraseIdx_mapL _ _ _
    rw [hEr]
    have hperm' : ((N.map Nm.pr ++ [p]) ++ P.eraseIdx q).Perm tabW := by
      refine List.Perm.trans ?_ hperm
      rw [List.append_assoc]
      refine List.Perm.append_left _ ?_
      have e2 : P.eraseIdx q = P.take q ++ P.drop (q + 1) := List.eraseIdx_eq_take_drop_succ ..
      rw [e2]
      have e := split_at hp
      generalize P.take q = A1 at e ⊢
      generalize P.drop (q + 1) = A2 at e ⊢
      rw [e]
      show (p :: (A1 ++ A2)).Perm _
      exact List.perm_middle.symm
    refine ⟨_, _, rfl, rfl, ?_⟩
    let nm : Nm := ⟨p, num, z, b == 1⟩
    refine ForP_map (σ := List T) (fun s : Nat => .list [.int (p.rank s), .str (p.word s)]) (fun acc => [("name", .ref 2), ("figures", .val (.str nm.figs)), ("number", .val (.int num)), ("j", .val (.int N.length)), ("names", .ref 1), ("pairs", .ref 0), ("cells", .val (.list (intsT cs)))]) (fun acc => [.list ((P.eraseIdx q).map Pr.t), .list (N.map Nm.t), .list acc])
      (fun ss acc => acc ++ ss.map nm.entry = [nm.entry 0, nm.entry 1]) 3 (fun _ => rfl) (fun _ => rfl) ?_ ?_ [0, 1] [] _ rfl (Sub.cons rfl (Sub.cons rfl (Sub.cons rfl (Sub.cons rfl (Sub.cons rfl (Sub.cons rfl (Sub.cons rfl Sub.nil)))))))
    · intro s ss acc hacc
      have hal : acc.length ≤ 2 := by
        have := congrArg List.length hacc
        simp at this; lia
      have hwl := tab_short p hpt s
      have hfg : nm.figs.length ≤ 10 := figs_short ⟨hn1, hz1⟩
      refine ⟨_, .pair, fun Ψl hΨm => ?_⟩
      walk_at "m"
      refine ⟨_, _, _, rfl, rfl, by lia, by lia, hg0, ?_⟩
      walk_at "m"
      refine B_floordiv (by decide) (by decide) ?_
      walk_at "m"
      refine B_mod (by decide) ?_
      rw [show ((2 : Int)) = ((2 : Nat) : Int) from rfl, hb2]
      walk_at "m"
      refine C_eqI ⟨_, rfl, ?_⟩
      have hlist : ∀ (sc : Kinds) (ρ : Vars), True := fun _ _ => trivial
      by_cases hb : b = 1
      · have hah : nm.ahead = true := by show (b == 1) = true; rw [hb]; rfl
        rw [if_pos (by rw [hb]; rfl)]
        walk_at "m"
        refine WPe_CallM (fun _ _ => rfl) (ns_of rfl) (by decide) rfl F.plainAttrs_list F.slot_list_append F.type_list_append ?_
        walk_at "m"
        refine ⟨tyList rfl, ?_⟩
        refine WPl_cons ?_ trivial
        refine WPe_List ?_
        walk_at "m"
        refine B_addS (by rw [sizeLine_eq]; lia) ?_
        refine WPl_cons ?_ trivial
        refine WPe_List ?_
        walk_at "m"
        refine ⟨rfl, _, rfl, ?_⟩
        walk_at "m"
        refine ⟨rfl, _, rfl, ?_⟩
        walk_at "m"
        refine ConB.con (F_append rfl (by rw [sizeLine_eq]; (exact Nat.le_trans hal (Nat.le_add_left _ _))) ?_)
        walk_at "m"
        refine ⟨rfl, ?_⟩
        walk_at "m"
        have hent : nm.entry s = .list [.str (nm.figs ++ p.word s), .list [.int 100, .int num, .int (p.rank s), .str (p.word s)]] := by
          unfold Nm.entry Nm.text Nm.due
          rw [hah]; rfl
        refine (hΨm _ _ ?_).1
        exact ⟨acc ++ [nm.entry s], [], by show _ = _; rw [List.append_assoc]; exact hacc, Sub.cons rfl (Sub.cons rfl (Sub.cons rfl (Sub.cons rfl (Sub.cons rfl (Sub.cons rfl (Sub.cons rfl Sub.nil)))))), by rw [hent]; rfl⟩
      · have hb0 : b = 0 := by lia
        have hah : nm.ahead = false := by show (b == 1) = false; rw [hb0]; rfl
        rw [if_neg (by rw [hb0]; decide)]
        walk_at "m"
        refine WPe_CallM (fun _ _ => rfl) (ns_of rfl) (by decide) rfl F.plainAttrs_list F.slot_list_append F.type_list_append ?_
        walk_at "m"
        refine ⟨tyList rfl, ?_⟩
        refine WPl_cons ?_ trivial
        refine WPe_List ?_
        walk_at "m"
        refine B_addS (by rw [sizeLine_eq]; lia) ?_
        refine WPl_cons ?_ trivial
        refine WPe_List ?_
        walk_at "m"
        refine ⟨rfl, _, rfl, ?_⟩
        walk_at "m"
        refine ⟨rfl, _, rfl, ?_⟩
        walk_at "m"
        refine ConB.con (F_append rfl (by rw [sizeLine_eq]; lia) ?_)
        walk_at "m"
        refine ⟨rfl, ?_⟩
        walk_at "m"
        have hent : nm.entry s = .list [.str (p.word s ++ nm.figs), .list [.int (p.rank s), .str (p.word s), .int 100, .int num]] := by
          unfold Nm.entry Nm.text Nm.due
          rw [hah]; rfl
        refine (hΨm _ _ ?_).1
        exact ⟨acc ++ [nm.entry s], [], by show _ = _; rw [List.append_assoc]; exact hacc, Sub.cons rfl (Sub.cons rfl (Sub.cons rfl (Sub.cons rfl (Sub.cons rfl (Sub.cons rfl (Sub.cons rfl Sub.nil)))))), by rw [hent]; rfl⟩
    · intro acc ρ hacc hsub
      rw [List.map_nil, List.append_nil] at hacc
      subst hacc
      refine WPs.sub (WPs_freeze (i := 2) rfl ?_) hsub
      walk_at "m"
      refine WPe_CallM (fun _ _ => rfl) (ns_of rfl) (by decide) rfl F.plainAttrs_list F.slot_list_append F.type_list_append ?_
      walk_at "m"
      refine ⟨tyList rfl, ?_⟩
      walk_at "m"
      refine ConB.con (F_append rfl (by rw [List.length_map, sizeLine_eq]; lia) ?_)
      walk_at "m"
      refine ⟨rfl, ?_⟩
      walk_at "m"
      refine (hΨl _ _ ?_).1
      refine ⟨(P.eraseIdx q, N ++ [nm]), [.gone], ⟨m', ?_, ?_, ?_, ?_⟩, Sub.cons rfl (Sub.cons rfl (Sub.cons rfl Sub.nil)), ?_⟩
      · rw [List.length_append]; simp; lia
      · rw [List.length_append]; rfl
      · rw [List.map_append]; exact hperm'
      · intro m hm'
        rcases List.mem_append.mp hm' with h | h
        · exact hnum m h
        · have : m = nm := by simpa using h
          rw [this]; exact ⟨hn1, hz1⟩
      · rw [List.map_append]; rfl
  · rintro ⟨P, N⟩ ρ ⟨m, hm, hts, hperm, hnum⟩ hsub
    have hm0 : m = 0 := by cases m with
      | zero => rfl
      | succ m => rw [rangeT] at hts; cases hts
    refine WPs.sub (WPs_freeze (i := 1) rfl ?_) hsub
    walk_at "m"
    exact hΨr _ _ ⟨N, ⟨by dsimp only at hm; lia, ⟨P, hperm⟩, hnum⟩, rfl⟩
end
end

section
noncomputable def insW {α : Type} (lt : α → α → Bool) (x : α) (xs : List α) : List α := xs.takeWhile (fun y => lt y x) ++ x :: xs.dropWhile (fun y => lt y x)
theorem take_while_at {α : Type} {p : α → Bool} : ∀ {xs : List α} {k : Nat}, k ≤ xs.length → (∀ i t, i < k → xs[i]? = some t → p t = true) → (∀ i t, k ≤ i → i < xs.length → xs[i]? = some t → p t = false) → xs.takeWhile p = xs.take k ∧ xs.dropWhile p = xs.drop k
  | [], k, hk, _, _ => by simp
  | x :: xs, 0, hk, h1, h2 => by
    have := h2 0 x (Nat.le_refl _) (by simp) (by simp)
    simp [this]
  | x :: xs, k + 1, hk, h1, h2 => by
    have h0 := h1 0 x (by (exact Nat.succ_pos _)) (by simp)
    obtain ⟨e1, e2⟩ := take_while_at (xs := xs) (k := k) (by simpa using hk) (fun i t hi ht => h1 (i + 1) t (by (exact Nat.lt_succ_of_le hi)) (by simpa using ht)) (fun i t hi hi2 ht => h2 (i + 1) t (by (exact Nat.succ_le_succ hi)) (by simp; omega) (by simpa using ht))
    simp [h0, e1, e2]
theorem insT_eq {kf : T → T} {x : T} {ts : List T} {p : Nat} (h : BisTo kf (kf x) ts 0 ts.length p) : insT ts p x = insW (fun a b => ltT (kf a) (kf b)) x ts := by
  obtain ⟨_, h1, h2, h3⟩ := h
  obtain ⟨e1, e2⟩ := take_while_at (p := fun y => ltT (kf y) (kf x)) h1 (fun i t hi ht => h2 i t (Nat.zero_le _) hi ht) (fun i t hi hi2 ht => h3 i t hi hi2 ht)
  unfold insW insT
  rw [e1, e2]
theorem insW_perm {α : Type} {lt : α → α → Bool} {x : α} {xs : List α} : (insW lt x xs).Perm (x :: xs) := by
  unfold insW
  refine List.perm_middle.trans ?_
  rw [List.takeWhile_append_dropWhile]
theorem insW_map {α β : Type} {lt : β → β → Bool} {f : α → β} {x : α} {xs : List α} : insW lt (f x) (xs.map f) = (insW (fun a b => lt (f a) (f b)) x xs).map f := by
  unfold insW
  rw [List.takeWhile_map, List.dropWhile_map, List.map_append, List.map_cons]
  rfl
noncomputable def UpBy (kf : T → T) (ts : List T) : Prop := ts.Pairwise fun a b => ltT (kf b) (kf a) = false
theorem UpBy.rises {kf : T → T} {ts : List T} {x : T} (h : UpBy kf ts) (hc : ∀ a ∈ ts, ∀ b ∈ ts, cmpT (kf a) (kf b) = true) (hx : ∀ a ∈ ts, cmpT (kf a) x = true) (lo hi : Nat) : Rises kf x ts lo hi := fun i j t u _ hij _ ht hu hl => by
  by_cases e : i = j
  · subst e; rw [ht] at hu; cases hu; exact hl
  · have hi2 := (List.getElem?_eq_some_iff.mp ht)
    have hj2 := (List.getElem?_eq_some_iff.mp hu)
    obtain ⟨i1, i2⟩ := hi2
    obtain ⟨j1, j2⟩ := hj2
    have hle := List.pairwise_iff_getElem.mp h i j i1 j1 (by lia)
    rw [i2, j2] at hle
    have mt : t ∈ ts := List.mem_of_getElem? ht
    have mu : u ∈ ts := List.mem_of_getElem? hu
    cases q : ltT (kf t) x with
    | true => rfl
    | false =>
      -- x ≤ t ≤ u, so not u < x
      have := leT_tr (a := x) (b := kf t) (d := kf u) (cmpT_comm _ _ (hx t mt)) (hc t mt u mu) (cmpT_comm _ _ (hx u mu)) q hle
      rw [this] at hl; cases hl

section
variable {C : Cx} {n : Nat}
theorem call_ins {bi ins dt kd dt' kd' ka : Addr} {ok kf} (W : BisW C PW bi ins dt kd dt' kd') (K : KeyAt C n ka ok kf) (h0n : 0 < n) {O : List Ob} (hO : noDicts O) {i : Nat} {ts : List T} {x : T} (hi : O[i]? = some (.list ts))
    (hsz : ts.length ≤ sizeLine) (hok : ∀ t ∈ ts, ok t) (hx : ok x) (hd : ∀ t, ok t → datT (kf t) = true ∧ depT (kf t) ≤ 60) (hf : ∀ a, ok a → ∀ b, ok b → cmpT (kf a) (kf b) = true) (hup : UpBy kf ts) :
    Con C (n + 2) (.ref ins) O [.ref i, .val x] [("key", .val (.static (.ref ka)))] fun d O' => d = .val .none ∧ O' = O.set i (.list (insW (fun a b => ltT (kf a) (kf b)) x ts)) := by
  have h := con_ins2 W K h0n (ts := ts) (x := x) hsz hok hx ⟨(hd x hx).1, fun t ht => ⟨(hd t (hok t ht)).1, hf t (hok t ht) x hx, (hd t (hok t ht)).2⟩⟩
    (hup.rises (fun a ha b hb => hf a (hok a ha) b (hok b hb)) (fun a ha => hf a (hok a ha) x hx) 0 ts.length)
  refine Con.frame1 (ds := [.ref 0, .val x]) hO hi (by simp) (by simp) (h.mono ?_)
  rintro d O' ⟨p, rfl, rfl, hp⟩
  exact ⟨_, [], rfl, rfl, by rw [insT_eq hp, List.append_nil]⟩
end

noncomputable abbrev Lt := Nat × Nat
noncomputable def Lok (l : Lt) : Prop := l.1 < 3 ∧ l.2 < 2
noncomputable def ltx (ms : List Nm) (l : Lt) : Str := (ms.getD l.1 default).text l.2
noncomputable def ldue (ms : List Nm) (l : Lt) : List T := (ms.getD l.1 default).due l.2
structure Letters (ms : List Nm) : Prop where
  txt : ∀ l, Lok l → TextOk (ltx ms l)
  low : ∀ l, Lok l → LowOk (ltx ms l)
  key : ∀ l, Lok l → keyT (ltx ms l) = ldue ms l
  cost : ∀ l, Lok l → ∀ l', Lok l' → costT (ltx ms l) (ltx ms l') = if l = l' then 0 else if l.1 = l'.1 then 1 else 2
  inj : ∀ l, Lok l → ∀ l', Lok l' → ltx ms l = ltx ms l' → l = l'
  dat : ∀ l, Lok l → datTs (ldue ms l) = true ∧ depTs (ldue ms l) ≤ 2
  cmp : ∀ l, Lok l → ∀ l', Lok l' → cmpTs (ldue ms l) (ldue ms l') = true
  old : ∀ j, j < 3 → ltTs (ldue ms (j, 0)) (ldue ms (j, 1)) = true
  nums : ∀ l, Lok l → ∀ t ∈ ldue ms l, (∃ i : Int, t = .int i ∧ i.natAbs ≤ 1000) ∨ ∃ x, t = .str x
noncomputable def termT (ms : List Nm) (t : List Lt) : T := .list (t.map fun l => .str (ltx ms l))
noncomputable def llt (ms : List Nm) (a b : Lt) : Bool := ltTs (ldue ms a) (ldue ms b)
noncomputable def rubs (t : List Lt) (j : Nat) : List (List Lt) := (List.range t.length).filterMap fun p => if t[p]? = some (j, 1) then some (t.eraseIdx p) else none
noncomputable def grow1 (ms : List Nm) (l : Lt) (t : List Lt) : List (List Lt) := insW (llt ms) l t :: if l.2 = 0 then rubs t l.1 else []
noncomputable def growP (ms : List Nm) (ts : List (List Lt)) (l : Lt) : List (List Lt) := ts.flatMap (grow1 ms l)
structure TermOk (ms : List Nm) (t : List Lt) : Prop where
  ok : ∀ l ∈ t, Lok l
  up : t.Pairwise fun a b => llt ms b a = false
  short : t.length ≤ 10
end

section
noncomputable def compOkB (sc : Kinds) (scope : Scope) (xs : List Str) : Bool :=
  isFun scope.kind && nodupB (scope.names.map (·.1)) && scope.names.all (fun p => match p.2 with
    | .free => (match sc.lookup p.1 with | some .cell => true | _ => false)
    | _ => true) && xs.all (nameOkB scope.names)
theorem compOk_parts {sc scope xs} (h : compOkB sc scope xs = true) : scope.kind = .function ∧ (scope.names.map (·.1)).Nodup ∧ (∀ p ∈ scope.names, p.2 = .free → sc.lookup p.1 = some .cell) ∧ ∀ x ∈ xs, nameOk scope.names x := by
  unfold compOkB at h
  simp only [Bool.and_eq_true] at h
  obtain ⟨⟨⟨h1, h2⟩, h3⟩, h4⟩ := h
  refine ⟨isFun_of h1, nodup_of h2, fun p hp e => ?_, fun x hx => nameOk_of (List.all_eq_true.mp h4 x hx)⟩
  have := List.all_eq_true.mp h3 p hp
  rw [e] at this
  dsimp only at this
  split at this
  · assumption
  · cases this
theorem CompOk.name {sc scope x p} (h : compOkB sc scope [x] = true) : CompOk sc scope (.Name x p) := by
  obtain ⟨h1, h2, h3, h4⟩ := compOk_parts h
  exact ⟨h1, h2, h3, .name (h4 x (by simp))⟩
theorem CompOk.pair {sc scope x y p q k r} (h : compOkB sc scope [x, y] = true) : CompOk sc scope (.Tuple [.Name x p, .Name y q] k r) := by
  obtain ⟨h1, h2, h3, h4⟩ := compOk_parts h
  exact ⟨h1, h2, h3, .pair (h4 x (by simp)) (h4 y (by simp))⟩
noncomputable def Small (t : T) : Prop := (∃ i : Int, t = .int i ∧ i.natAbs ≤ 1000) ∨ ∃ x, t = .str x
noncomputable def strT : T → T
  | .int i => .str (Str.ofString (toString i))
  | t => t
theorem eqT_iff {t u : T} (hd : datT t = true) : eqT t u = true ↔ t = u := ⟨eqT_eq t u, fun h => h ▸ eqT_refl t hd⟩
section
variable {C : Cx} {n : Nat}
theorem KeyAt.weaken {m ka} {ok ok' : T → Prop} {kf} (K : KeyAt C m ka ok kf) (h : ∀ t, ok' t → ok t) : KeyAt C m ka ok' kf := ⟨K.fn, fun t ht => K.con t (h t ht)⟩
theorem insW_congr {α : Type} {lt lt' : α → α → Bool} {x : α} : ∀ {xs : List α}, (∀ y ∈ xs, lt y x = lt' y x) → insW lt x xs = insW lt' x xs := fun {xs} h => by
  have h1 : ∀ {xs : List α}, (∀ y ∈ xs, lt y x = lt' y x) → xs.takeWhile (fun y => lt y x) = xs.takeWhile (fun y => lt' y x) ∧ xs.dropWhile (fun y => lt y x) = xs.dropWhile (fun y => lt' y x) := by
    intro xs
    induction xs with
    | nil => intro _; exact ⟨rfl, rfl⟩
    | cons y ys ih =>
      intro h
      obtain ⟨e1, e2⟩ := ih fun z hz => h z (List.mem_cons_of_mem _ hz)
      have e := h y (List.mem_cons_self ..)
      rw [List.takeWhile_cons, List.takeWhile_cons, List.dropWhile_cons, List.dropWhile_cons, e, e1, e2]
      exact ⟨rfl, rfl⟩
  unfold insW
  rw [(h1 h).1, (h1 h).2]
noncomputable def okL (ms : List Nm) (t : T) : Prop := ∃ l, Lok l ∧ t = .str (ltx ms l)
noncomputable def cInt (l l' : Lt) : Int := if l = l' then 0 else if l.1 = l'.1 then 1 else 2
noncomputable def cStr (l l' : Lt) : Str := Str.ofString (toString (cInt l l'))
theorem F_strT (hstr : Bi C "str" (.type "str")) {O : List Ob} {t : T} (ht : Small t) : ConB C n (.type "str") O [.val t] [] fun d O' => O' = O ∧ d = .val (strT t) := by
  rcases ht with ⟨i, rfl, hi⟩ | ⟨x, rfl⟩
  · exact F_strI (Nat.lt_of_le_of_lt (Nat.log2_le_self _) (by lia)) ⟨rfl, rfl⟩
  · exact F_strS ⟨rfl, rfl⟩
theorem con_grown {a : Addr} {bi ins dt kd dt' kd' cv pt tb sub : Addr} (W : DefAt C PW "_law_grown" a .none .none) (Wb : BisW C PW bi ins dt kd dt' kd') (Wc : CvW C PW cv pt tb) (Ws : SubW C PW sub) (hlen : Bi C "len" (.builtin "len")) (hran : Bi C "range" (.type "range")) (hstr : Bi C "str" (.type "str")) (hint : Bi C "int" (.type "int")) (hlist : Bi C "list" (.type "list"))
    {ms : List Nm} (L : Letters ms) (h3 : ms.length = 3) {l : Lt} (hl : Lok l) {ts : List (List Lt)} (hts : ∀ t ∈ ts, TermOk ms t) (hfew : (growP ms ts l).length ≤ 100000) {O : List Ob} (hO : noDicts O) :
    Con C (n + 7) (.ref a) O [.val (.list (ts.map (termT ms))), .val ((ms.getD l.1 default).t), .val (.int l.2)] [] fun d O' => RetD O O' d fun t => t = .list ((growP ms ts l).map (termT ms)) := by
  refine Con_fn ["terms", "name", "side"] W hO (by simp) rfl (by decide +kernel) (fun pm cd doc => vs3 fun _ _ _ => rfl) ?_
  intro Ψr hΨr
  obtain ⟨j, s⟩ := l
  obtain ⟨hj, hs⟩ := hl
  dsimp only at hj hs ⊢
  obtain ⟨fdc, bodyc, Fc⟩ := Wc.df.fn (by decide +kernel)
  obtain ⟨fdi, bodyi, Fi⟩ := Wb.ins.fn (by decide +kernel)
  obtain ⟨fds, bodys, Fs⟩ := Ws.df.fn (by decide +kernel)
  have hl : Lok (j, s) := ⟨hj, hs⟩
  have hl' : Lok (j, 1 - s) := ⟨hj, by show 1 - s < 2; omega⟩
  have e1 : (ms.getD j default).text s = ltx ms (j, s) := rfl
  have e2 : (ms.getD j default).text (1 - s) = ltx ms (j, 1 - s) := rfl
  have e3 : (ms.getD j default).due s = ldue ms (j, s) := rfl
  have hent : ∀ q : Nat, q < 2 → ([(ms.getD j default).entry 0, (ms.getD j default).entry 1] : List T)[((q : Nat) : Int).toNat]? = some (.list [.str ((ms.getD j default).text q), .list ((ms.getD j default).due q)]) := by
    intro q hq
    rw [Int.toNat_natCast]
    match q, hq with
    | 0, _ => rfl
    | 1, _ => rfl
  walk_at "m.body"
  walk_at "m"
  refine ⟨_, _, _, rfl, rfl, by lia, by lia, hent s hs, ?_⟩
  walk_at "m"
  refine ⟨_, _, _, rfl, rfl, by decide, by decide, rfl, ?_⟩
  walk_at "m"
  refine B_sub ?_
  have es : ((1 : Int) - (s : Int)) = ((1 - s : Nat) : Int) := by omega
  rw [es]
  refine ⟨_, _, _, rfl, rfl, by lia, by lia, hent (1 - s) (by lia), ?_⟩
  walk_at "m"
  refine ⟨_, _, _, rfl, rfl, by decide, by decide, rfl, ?_⟩
  rw [e1, e2]
  walk_at "m"
  refine WPe_Call Fc (ns_of rfl) (by decide) (WPe_glob Wc.df.glob rfl ⟨rfl, ?_⟩ rfl)
  walk_at "m"
  refine ⟨rfl, ((con_cv Wc (L.txt _ hl) (O := []) trivial).le (lek rfl : 0 + 3 ≤ n + 6)).retE ?_⟩
  rw [L.key _ hl]
  walk_at "m"
  refine WPe_ListComp (CompOk.name (by decide +kernel)) ?_ (fun _ _ => rfl) (Nat.succ_pos _)
  walk_at "m"
  have hsmall : ∀ t ∈ ldue ms (j, s), Small t := L.nums _ hl
  have hdl : (ldue ms (j, s)).length ≤ 10 := by
    show (Nm.due _ s).length ≤ 10
    unfold Nm.due
    split <;> simp
  refine ⟨ldue ms (j, s), rfl, by rw [sizeLine_eq]; (exact Nat.le_trans hdl (Nat.le_add_left _ _)), CompP_map strT _ [] (fun t ht => ⟨_, .name, ?_⟩) ?_⟩
  · refine WPe_CallB (.inr ⟨_, rfl⟩) (ns_of rfl) (WPe_builtin hstr.1 hstr.2 rfl ⟨rfl, ?_⟩ rfl)
    walk_at "m"
    exact (F_strT hstr (hsmall t ht)).con
  rw [List.nil_append]
  refine WPe_ListComp (CompOk.name (by decide +kernel)) ?_ (fun _ _ => rfl) (Nat.succ_pos _)
  walk_at "m"
  refine ⟨_, _, _, rfl, rfl, by lia, by lia, hent s hs, ?_⟩
  walk_at "m"
  refine ⟨_, _, _, rfl, rfl, by decide, by decide, rfl, ?_⟩
  rw [e3]
  refine ⟨ldue ms (j, s), rfl, by rw [sizeLine_eq]; lia, CompP_map strT _ [] (fun t ht => ⟨_, .name, ?_⟩) ?_⟩
  · refine WPe_CallB (.inr ⟨_, rfl⟩) (ns_of rfl) (WPe_builtin hstr.1 hstr.2 rfl ⟨rfl, ?_⟩ rfl)
    walk_at "m"
    exact (F_strT hstr (hsmall t ht)).con
  rw [List.nil_append]
  have hsd : datTs ((ldue ms (j, s)).map strT) = true ∧ depTs ((ldue ms (j, s)).map strT) ≤ 40 := by
    generalize ldue ms (j, s) = ds at hsmall
    clear hdl
    induction ds with
    | nil => exact ⟨rfl, Nat.zero_le _⟩
    | cons t ds ih =>
      obtain ⟨i1, i2⟩ := ih (fun u hu => hsmall u (List.mem_cons_of_mem _ hu))
      rcases hsmall t (List.mem_cons_self ..) with ⟨i, rfl, _⟩ | ⟨x, rfl⟩
      · exact ⟨by rw [List.map_cons, datTs, i1]; rfl, by rw [List.map_cons, depTs]; show max 0 _ ≤ _; (exact i2)⟩
      · exact ⟨by rw [List.map_cons, datTs, i1]; rfl, by rw [List.map_cons, depTs]; show max 0 _ ≤ _; lia⟩
  refine C_neL hsd.1 hsd.1 hsd.2 (.neg (by rw [eqTs_refl _ hsd.1]; decide) ?_)
  refine WPs_nil ?_
  walk_at "m.red"
  walk_at "m"
  refine WPe_Call Fc (ns_of rfl) (by decide) (WPe_glob Wc.df.glob rfl ⟨rfl, ?_⟩ rfl)
  walk_at "m"
  refine ⟨rfl, ((con_cv Wc (L.txt _ hl') (O := []) trivial).le (lek rfl : 0 + 3 ≤ n + 6)).retE ?_⟩
  rw [L.key _ hl']
  have dep1 : ∀ l, Lok l → depT (.list (ldue ms l)) ≤ 60 := fun l hl => by
    have := (L.dat l hl).2
    rw [depT]; lia
  have dat1 : ∀ l, Lok l → datT (.list (ldue ms l)) = true := fun l hl => by rw [datT]; exact (L.dat l hl).1
  have hold : ltT (.list (ldue ms (j, s))) (.list (ldue ms (j, 1 - s))) = decide (s = 0) := by
    rw [ltT]
    match s, hs with
    | 0, _ => exact L.old j hj
    | 1, _ => exact ltTs_asym _ _ (L.old j hj)
  refine C_lt (dat1 _ hl) (dat1 _ hl') (by rw [cmpT]; exact L.cmp _ hl _ hl') (dep1 _ hl) ?_
  rw [hold]
  walk_at "m.red"
  refine WPs_cons ?_
  refine WPx_Assign (nameOk_of rfl) ?_ (by intro env eo; rfl)
  refine WPe_ListOwn ?_
  walk_at "m"
  refine ⟨rfl, _, rfl, ?_⟩
  walk_at "m.red"
  refine WPs_cons ?_
  refine WPx_For (.name (nameOk_of rfl)) ?_ (fun _ _ => rfl) (Nat.succ_pos _)
  walk_at "m"
  refine ⟨_, _, rfl, rfl, ?_⟩
  refine ForP_map (σ := List (List Lt)) (termT ms) (fun gs => [("grown", .ref 0), ("older", .val (.bool (decide (s = 0)))), ("other", .val (.str (ltx ms (j, 1 - s)))), ("letter", .val (.str (ltx ms (j, s)))), ("terms", .val (.list (List.map (termT ms) ts)))]) (fun gs => [.list (gs.map (termT ms))])
    (fun rest gs => (∀ t ∈ rest, TermOk ms t) ∧ gs ++ growP ms rest (j, s) = growP ms ts (j, s)) 1 (fun _ => rfl) (fun _ => rfl) ?_ ?_ ts [] _ ⟨hts, rfl⟩ (Sub.cons rfl (Sub.cons rfl (Sub.cons rfl (Sub.cons rfl (Sub.cons rfl Sub.nil)))))
  · rintro t rest gs ⟨hok, hgs⟩
    refine ⟨_, .name, fun Ψl hΨ1 => ?_⟩
    have ht : TermOk ms t := hok t (List.mem_cons_self ..)
    have hgl : gs.length + (grow1 ms (j, s) t).length ≤ 100000 := by
      have := congrArg List.length hgs
      rw [growP, List.flatMap_cons, List.length_append, List.length_append] at this
      lia
    have htl := ht.short
    refine WPs_cons ?_
    refine WPx_Assign (nameOk_of rfl) ?_ (by intro env eo; rfl)
    refine WPe_CallB (.inr ⟨_, rfl⟩) (ns_of rfl) (WPe_builtin hlist.1 hlist.2 rfl ⟨rfl, ?_⟩ rfl)
    walk_at "m"
    refine ConB.con (F_list (ts := t.map fun l => .str (ltx ms l)) rfl (by rw [List.length_map, sizeLine_eq]; (exact Nat.le_trans htl (Nat.le_add_left _ _))) ?_)
    walk_at "m"
    refine WPe_Call Fi (ns_of rfl) (by decide) (WPe_glob Wb.ins.glob rfl ⟨rfl, ?_⟩ rfl)
    walk_at "m"
    refine WPe_glob Wc.df.glob rfl ?_ rfl
    walk_at "m"
    have KL : KeyAt C (0 + 3) cv (okL ms) keyV := (key_cv Wc).weaken fun u ⟨l, hl, e⟩ => ⟨_, e, L.txt l hl⟩
    have hkV : ∀ l, Lok l → keyV (.str (ltx ms l)) = .list (ldue ms l) := fun l hl => by show T.list _ = _; rw [L.key l hl]
    refine ⟨rfl, ((call_ins Wb KL (by (exact Nat.succ_pos _)) (O := [.list (gs.map (termT ms)), .list (t.map fun l => .str (ltx ms l))]) (i := 1) (x := .str (ltx ms (j, s))) ⟨trivial, trivial, trivial⟩ rfl (by rw [List.length_map, sizeLine_eq]; lia) (fun u hu => ?_) ⟨_, hl, rfl⟩ (fun u ⟨l, hl, e⟩ => ?_) (fun u ⟨l, hl, e⟩ v ⟨l', hl', e'⟩ => ?_) ?_).le (lek rfl : 0 + 3 + 2 ≤ n + 6)).mono ?_⟩
    · obtain ⟨l, hl, rfl⟩ := List.mem_map.mp hu
      exact ⟨l, ht.ok l hl, rfl⟩
    · rw [e, hkV l hl]; exact ⟨dat1 l hl, dep1 l hl⟩
    · rw [e, e', hkV l hl, hkV l' hl', cmpT]; exact L.cmp l hl l' hl'
    · unfold UpBy
      rw [List.pairwise_map]
      exact List.Pairwise.imp_of_mem (fun {a b} ha hb h => by rw [hkV _ (ht.ok a ha), hkV _ (ht.ok b hb), ltT]; exact h) ht.up
    rintro d O' ⟨rfl, rfl⟩
    have hins : insW (fun a b => ltT (keyV a) (keyV b)) (.str (ltx ms (j, s))) (t.map fun l => .str (ltx ms l)) = (insW (llt ms) (j, s) t).map fun l => .str (ltx ms l) := by
      rw [insW_map (f := fun l => T.str (ltx ms l))]
      congr 1
      refine insW_congr fun y hy => ?_
      rw [hkV _ (ht.ok y hy), hkV _ hl, ltT]; rfl
    rw [hins]
    walk_at "m"
    refine C_isNotNone (by intro u q; cases q) (.neg (by decide) ?_)
    refine WPs_nil ?_
    walk_at "m.red"
    refine WPs_freeze (i := 1) rfl ?_
    walk_at "m"
    refine WPe_CallM (fun _ _ => rfl) (ns_of rfl) (by decide) rfl F.plainAttrs_list F.slot_list_append F.type_list_append ?_
    walk_at "m"
    refine ⟨tyList rfl, ?_⟩
    walk_at "m"
    refine ConB.con (F_append (t := termT ms (insW (llt ms) (j, s) t)) rfl (by rw [List.length_map, sizeLine_eq]; lia) ?_)
    walk_at "m"
    refine ⟨rfl, ?_⟩
    walk_at "m.red"
    refine WPs_cons ?_
    refine WPx_For (.name (nameOk_of rfl)) ?_ (fun _ _ => rfl) (Nat.succ_pos _)
    refine WPe_CallB (.inr ⟨_, rfl⟩) (ns_of rfl) (WPe_builtin hran.1 hran.2 rfl ⟨rfl, ?_⟩ rfl)
    walk_at "m"
    refine WPe_CallB (.inl ⟨_, rfl⟩) (ns_of rfl) (WPe_builtin hlen.1 hlen.2 rfl ⟨rfl, ?_⟩ rfl)
    walk_at "m"
    refine ConB.con (F_len (ts := t.map fun l => .str (ltx ms l)) rfl (by rw [List.length_map]; lia) ?_)
    rw [List.length_map]
    walk_at "m"
    refine ConB.con (F_range1 ?_)
    have happ : List.map (termT ms) gs ++ [termT ms (insW (llt ms) (j, s) t)] = List.map (termT ms) (gs ++ [insW (llt ms) (j, s) t]) := by rw [List.map_append]; rfl
    rw [happ]
    refine ⟨_, rangeT 0 1 t.length, rfl, itemsD_range (a := 0) (by lia) (by (exact Nat.le_add_left _ _)), ?_⟩
    refine ForP_rng (σ := List (List Lt)) (fun g2 => [("term", .val (termT ms t)), ("grown", .ref 0), ("older", .val (.bool (decide (s = 0)))), ("other", .val (.str (ltx ms (j, 1 - s)))), ("letter", .val (.str (ltx ms (j, s)))), ("terms", .val (.list (List.map (termT ms) ts)))]) (fun g2 => [.list (g2.map (termT ms)), .gone])
      (fun k m g2 => k + m = t.length ∧ g2 ++ (if s = 0 then (List.range' k m).filterMap (fun p => if t[p]? = some (j, 1) then some (t.eraseIdx p) else none) else []) = gs ++ grow1 ms (j, s) t) 2 (fun _ => rfl) (fun _ => rfl) ?_ ?_ 0 t.length (gs ++ [insW (llt ms) (j, s) t]) _ ⟨by (exact Nat.add_comm _ _), ?_⟩ ?_
    · rintro k m' g2 ⟨hkm, hg2⟩
      refine ⟨_, .name, fun Ψl hΨ2 => ?_⟩
      obtain ⟨l, hlk⟩ : ∃ l, t[k]? = some l := ⟨t[k], List.getElem?_eq_getElem (by omega)⟩
      have hlo : Lok l := ht.ok l (List.mem_of_getElem? hlk)
      have hgk : ∀ (A : List Ob) , (t.map fun l => T.str (ltx ms l))[((k : Nat) : Int).toNat]? = some (.str (ltx ms l)) := fun _ => by rw [Int.toNat_natCast, List.getElem?_map, hlk]; rfl
      have hgk := hgk []
      have cEq : costT (ltx ms l) (ltx ms (j, s)) = cInt l (j, s) := L.cost l hlo _ hl
      have cEq' : costT (ltx ms (j, s)) (ltx ms l) = cInt l (j, s) := by
        rw [L.cost _ hl l hlo]
        unfold cInt
        by_cases h1 : l = (j, s)
        · rw [if_pos h1, if_pos h1.symm]
        · rw [if_neg h1, if_neg (Ne.symm h1)]
          by_cases h2 : l.1 = j
          · rw [if_pos h2, if_pos h2.symm]
          · rw [if_neg h2, if_neg (Ne.symm h2)]
      have cSmall : (cInt l (j, s)).natAbs.log2 < 1920 := by
        unfold cInt
        split
        · decide
        · split <;> decide
      walk_at "asg"
      -- what is due
      refine WPs_seq [("due", .val (.str (cStr l (j, s)))), ("place", .val (.int k)), ("term", .val (termT ms t)), ("grown", .ref 0), ("older", .val (.bool (decide (s = 0)))), ("other", .val (.str (ltx ms (j, 1 - s)))), ("letter", .val (.str (ltx ms (j, s)))), ("terms", .val (.list (List.map (termT ms) ts)))] [.list (g2.map (termT ms)), .gone] ?_ ?_
      · refine WPx_If ?_
        walk_at "e"
        refine ⟨_, _, _, rfl, rfl, by lia, by lia, hgk, ?_⟩
        refine WPe_List ?_
        walk_at "e"
        refine ⟨rfl, _, rfl, ?_⟩
        refine C_in (ts := [.str (ltx ms (j, s)), .str (ltx ms (j, 1 - s))]) rfl rfl (Nat.zero_le _) rfl ⟨_, rfl, ?_⟩
        have hin : ([T.str (ltx ms (j, s)), .str (ltx ms (j, 1 - s))].any fun u => eqT u (.str (ltx ms l))) = decide (l.1 = j) := by
          have h1 : ∀ l', Lok l' → eqT (.str (ltx ms l')) (.str (ltx ms l)) = decide (l' = l) := fun l' hl' => by
            rw [Bool.eq_iff_iff, decide_eq_true_iff, eqT_iff rfl]
            exact ⟨fun h => L.inj _ hl' _ hlo (by injection h), fun h => by rw [h]⟩
          rw [List.any_cons, List.any_cons, List.any_nil, h1 _ hl, h1 _ hl', Bool.or_false, Bool.eq_iff_iff]
          simp only [Bool.or_eq_true, decide_eq_true_eq]
          obtain ⟨l1, l2⟩ := l
          obtain ⟨q1, q2⟩ := hlo
          dsimp only at q1 q2 ⊢
          constructor
          · rintro (h | h) <;> (injection h with h1 h2; exact h1.symm)
          · intro h
            by_cases h2 : l2 = s
            · exact .inl (by rw [h, h2])
            · exact .inr (by rw [h]; congr 1; lia)
        rw [hin]
        by_cases hlj : l.1 = j
        · rw [if_pos (by simpa using hlj)]
          refine WPs_cons ?_
          refine WPx_Assign (nameOk_of rfl) ?_ (by intro env eo; rfl)
          refine WPe_CallB (.inr ⟨_, rfl⟩) (ns_of rfl) (WPe_builtin hstr.1 hstr.2 rfl ⟨rfl, ?_⟩ rfl)
          walk_at "e"
          refine WPe_CallB (.inr ⟨_, rfl⟩) (ns_of rfl) (WPe_builtin hint.1 hint.2 rfl ⟨rfl, ?_⟩ rfl)
          walk_at "e"
          refine ⟨_, _, _, rfl, rfl, by lia, by lia, hgk, ?_⟩
          walk_at "e"
          refine C_eqS ?_
          walk_at "e"
          have hb : (ltx ms l == ltx ms (j, 1 - s)) = decide (l ≠ (j, s)) := by
            rw [Bool.eq_iff_iff, beq_iff_eq, decide_eq_true_iff]
            obtain ⟨l1, l2⟩ := l
            obtain ⟨q1, q2⟩ := hlo
            dsimp only at q1 q2 hlj ⊢
            subst hlj
            constructor
            · intro h e
              have := L.inj _ ⟨q1, q2⟩ _ hl' h
              rw [e] at this
              injection this with _ h2
              lia
            · intro h
              have h2 : l2 ≠ s := fun e => h (by rw [e])
              congr 1
              show (l1, l2) = (l1, 1 - s)
              congr 1; lia
          have hc1 : cInt l (j, s) = if (ltx ms l == ltx ms (j, 1 - s)) = true then 1 else 0 := by
            rw [hb]
            unfold cInt
            by_cases h : l = (j, s)
            · rw [if_pos h, if_neg (by simpa using h)]
            · rw [if_neg h, if_pos hlj, if_pos (by simpa using h)]
          refine ConB.con (F_intB ?_)
          rw [← hc1]
          walk_at "e"
          refine ConB.con (F_strI cSmall ?_)
          refine WPs_nil ?_
          exact ⟨Sub.cons rfl (Sub.cons rfl (Sub.cons rfl (Sub.cons rfl (Sub.cons rfl (Sub.cons rfl (Sub.cons rfl (Sub.cons rfl Sub.nil))))))), rfl⟩
        · rw [if_neg (by simpa using hlj)]
          refine WPs_nil ?_
          have hc2 : cStr l (j, s) = "2" := by
            unfold cStr cInt
            rw [if_neg (fun h => hlj (by rw [h])), if_neg hlj]
            decide +kernel
          rw [hc2]
          exact ⟨Sub.refl, rfl⟩
      refine WPs_cons ?_
      refine WPx_Assign (nameOk_of rfl) ?_ (by intro env eo; rfl)
      refine WPe_CallB (.inr ⟨_, rfl⟩) (ns_of rfl) (WPe_builtin hstr.1 hstr.2 rfl ⟨rfl, ?_⟩ rfl)
      walk_at "e"
      refine WPe_Call Fs (ns_of rfl) (by decide) (WPe_glob Ws.df.glob rfl ⟨rfl, ?_⟩ rfl)
      walk_at "e"
      refine ⟨_, _, _, rfl, rfl, by lia, by lia, hgk, ?_⟩
      walk_at "e"
      refine ⟨rfl, ((con_sub Ws (L.low _ hlo) (L.low _ hl) (O := [.list (g2.map (termT ms)), .gone]) ⟨trivial, trivial, trivial⟩).le (lek rfl : 0 + 1 ≤ n + 6)).retE ?_⟩
      rw [cEq]
      walk_at "e"
      refine ConB.con (F_strI cSmall ?_)
      walk_at "e"
      refine WPs_cons ?_
      refine WPx_If ?_
      refine WPb_Compare ?_ rfl
      refine WPe_List ?_
      walk_at "e"
      refine WPe_CallB (.inr ⟨_, rfl⟩) (ns_of rfl) (WPe_builtin hstr.1 hstr.2 rfl ⟨rfl, ?_⟩ rfl)
      walk_at "e"
      refine WPe_Call Fs (ns_of rfl) (by decide) (WPe_glob Ws.df.glob rfl ⟨rfl, ?_⟩ rfl)
      walk_at "e"
      refine ⟨_, _, _, rfl, rfl, by lia, by lia, hgk, ?_⟩
      walk_at "e"
      refine ⟨rfl, ((con_sub Ws (L.low _ hl) (L.low _ hlo) (O := [.list (g2.map (termT ms)), .gone]) ⟨trivial, trivial, trivial⟩).le (lek rfl : 0 + 1 ≤ n + 6)).retE ?_⟩
      rw [cEq']
      walk_at "e"
      refine ConB.con (F_strI cSmall ?_)
      walk_at "e"
      refine ⟨rfl, _, rfl, ?_⟩
      refine WPe_List ?_
      walk_at "e"
      refine ⟨rfl, _, rfl, ?_⟩
      refine C_neL rfl rfl (Nat.zero_le _) (.neg (by
        have : eqTs [T.str (Str.ofString (toString (cInt l (j, s)))), .str (Str.ofString (toString (cInt l (j, s))))] [.str (cStr l (j, s)), .str (cStr l (j, s))] = true := eqTs_refl [T.str (cStr l (j, s)), .str (cStr l (j, s))] rfl
        rw [this]; decide) ?_)
      refine WPs_nil ?_
      walk_at "m.red"
      refine WPs_cons ?_
      refine WPx_If ?_
      refine WPb_and ?_
      refine WPb_name (b := decide (s = 0)) ?_
      walk_at "e"
      refine ⟨rfl, ?_⟩
      have hsub : Sub [("term", .val (termT ms t)), ("grown", .ref 0), ("older", .val (.bool (decide (s = 0)))), ("other", .val (.str (ltx ms (j, 1 - s)))), ("letter", .val (.str (ltx ms (j, s)))), ("terms", .val (.list (List.map (termT ms) ts)))]
          [("cost", .val (.str (cStr l (j, s)))), ("due", .val (.str (cStr l (j, s)))), ("place", .val (.int k)), ("term", .val (termT ms t)), ("grown", .ref 0), ("older", .val (.bool (decide (s = 0)))), ("other", .val (.str (ltx ms (j, 1 - s)))), ("letter", .val (.str (ltx ms (j, s)))), ("terms", .val (.list (List.map (termT ms) ts)))] :=
        Sub.cons rfl (Sub.cons rfl (Sub.cons rfl (Sub.cons rfl (Sub.cons rfl (Sub.cons rfl Sub.nil)))))
      by_cases hs0 : s = 0
      · rw [if_pos (by simpa using hs0)]
        rw [if_pos hs0, List.range'_succ, List.filterMap_cons] at hg2
        refine WPb_Compare ?_ rfl
        walk_at "e"
        refine C_eqS ⟨_, rfl, ?_⟩
        have hone : (Str.ofString (toString (cInt l (j, s))) == Str.ofString "1") = decide (l = (j, 1)) := by
          have hv : ∀ c : Int, c = 0 ∨ c = 1 ∨ c = 2 → (Str.ofString (toString c) == Str.ofString "1") = decide (c = 1) := by
            rintro c (rfl | rfl | rfl) <;> decide +kernel
          rw [hv _ (by unfold cInt; split; exact .inl rfl; split; exact .inr (.inl rfl); exact .inr (.inr rfl))]
          rw [decide_eq_decide]
          unfold cInt
          obtain ⟨l1, l2⟩ := l
          obtain ⟨q1, q2⟩ := hlo
          dsimp only at q1 q2 ⊢
          subst hs0
          constructor
          · intro h
            by_cases e : (l1, l2) = (j, 0)
            · rw [if_pos e] at h; lia
            · rw [if_neg e] at h
              by_cases e2 : l1 = j
              · subst e2
                have : l2 ≠ 0 := fun q => e (by rw [q])
                congr 1; lia
              · rw [if_neg e2] at h; lia
          · intro h
            injection h with h1 h2
            subst h1; subst h2
            rw [if_neg (by intro q; injection q with _ q; lia), if_pos rfl]
        rw [hone]
        by_cases hl1 : l = (j, 1)
        · rw [if_pos (by simpa using hl1)]
          rw [hlk, if_pos (by rw [hl1])] at hg2
          dsimp only at hg2
          refine WPs_cons ?_
          refine WPx_Expr ?_ (by intro env eo; rfl)
          walk_at "e"
          refine WPe_CallM (fun _ _ => rfl) (ns_of rfl) (by decide) rfl F.plainAttrs_list F.slot_list_append F.type_list_append ?_
          walk_at "e"
          refine ⟨tyList rfl, ?_⟩
          walk_at "e"
          refine ⟨t.map fun l => .str (ltx ms l), none, some k, none, rfl, rfl, rfl, rfl, by decide, by rw [List.length_map, sizeLine_eq]; lia, ?_⟩
          walk_at "e"
          refine B_add ?_
          walk_at "e"
          refine ⟨t.map fun l => .str (ltx ms l), some ((k : Int) + 1), none, none, rfl, rfl, rfl, rfl, by decide, by rw [List.length_map, sizeLine_eq]; lia, ?_⟩
          have ek : ((k : Int) + 1) = ((k + 1 : Nat) : Int) := rfl
          rw [ek, sliceT_take (by rw [List.length_map]; lia), sliceT_drop (by rw [List.length_map]; lia)]
          have hcat : (t.map fun l => T.str (ltx ms l)).take k ++ (t.map fun l => T.str (ltx ms l)).drop (k + 1) = (t.eraseIdx k).map fun l => T.str (ltx ms l) := by
            rw [List.eraseIdx_eq_take_drop_succ, List.map_append, List.map_take, List.map_drop]
          refine B_addL (ts := (t.map fun l => T.str (ltx ms l)).take k) (us := (t.map fun l => T.str (ltx ms l)).drop (k + 1)) (by simp only [List.length_take, List.length_drop, List.length_map]; rw [sizeLine_eq]; lia) rfl rfl ?_
          rw [hcat]
          walk_at "e"
          have hg2l : g2.length ≤ 100000 := by
            have := congrArg List.length hg2
            simp only [List.length_append, List.length_cons] at this
            lia
          refine ConB.con (F_append (t := termT ms (t.eraseIdx k)) rfl (by rw [List.length_map, sizeLine_eq]; (exact Nat.le_trans hg2l (Nat.le_add_left _ _))) ?_)
          walk_at "e"
          refine ⟨rfl, ?_⟩
          refine WPs_nil ?_
          walk_at "m.red"
          refine WPs_nil ?_
          refine (hΨ2 _ _ ?_).1
          refine ⟨g2 ++ [t.eraseIdx k], [], ⟨by lia, ?_⟩, hsub, by rw [List.map_append]; rfl⟩
          rw [if_pos hs0, List.append_assoc]
          exact hg2
        · rw [if_neg (by simpa using hl1)]
          rw [hlk, if_neg (by simpa using hl1)] at hg2
          dsimp only at hg2
          refine WPs_nil ?_
          walk_at "m.red"
          refine WPs_nil ?_
          refine (hΨ2 _ _ ?_).1
          refine ⟨g2, [], ⟨by lia, ?_⟩, hsub, rfl⟩
          rw [if_pos hs0]
          exact hg2
      · rw [if_neg (by simpa using hs0), if_neg Bool.false_ne_true]
        rw [if_neg hs0] at hg2
        refine WPs_nil ?_
        walk_at "m.red"
        refine WPs_nil ?_
        refine (hΨ2 _ _ ?_).1
        refine ⟨g2, [], ⟨by lia, ?_⟩, hsub, rfl⟩
        rw [if_neg hs0]
        exact hg2
    · rintro k g2 ρ ⟨hkm, hg2⟩ hsub
      have hg2' : g2 = gs ++ grow1 ms (j, s) t := by
        rw [← hg2]; simp
      subst hg2'
      walk_at "m"
      refine (hΨ1 _ _ ?_).1
      refine ⟨gs ++ grow1 ms (j, s) t, [.gone], ⟨fun u hu => hok u (List.mem_cons_of_mem _ hu), ?_⟩, Sub.trans ?_ hsub, rfl⟩
      · rw [List.append_assoc]; exact hgs
      · exact Sub.cons rfl (Sub.cons rfl (Sub.cons rfl (Sub.cons rfl (Sub.cons rfl Sub.nil))))
    · unfold grow1 rubs
      rw [List.range_eq_range', List.append_assoc]; rfl
    · exact Sub.cons rfl (Sub.cons rfl (Sub.cons rfl (Sub.cons rfl (Sub.cons rfl (Sub.cons rfl Sub.nil)))))
  · rintro gs ρ ⟨hok, hgs⟩ hsub
    rw [growP, List.flatMap_nil, List.append_nil] at hgs
    subst hgs
    refine WPs.sub (WPs_freeze (i := 0) rfl ?_) hsub
    walk_at "m"
    exact hΨr _ _ rfl
end
end

section
noncomputable def tkey (ms : List Nm) (t : List Lt) : List T := t.flatMap (ldue ms)
noncomputable def signOf (k : Nat) : Str := repStr ⟨#[signsS.cps.getD (k % 4) 0]⟩ (1 + k / 4 % 2)
structure Joins (ms : List Nm) : Prop where
  txt : ∀ t : List Lt, (∀ l ∈ t, Lok l) → t.length ≤ 10 → ∀ k, TextOk (joinS (signOf k) (t.map (ltx ms)))
  key : ∀ t : List Lt, (∀ l ∈ t, Lok l) → t.length ≤ 10 → ∀ k, keyT (joinS (signOf k) (t.map (ltx ms))) = tkey ms t
  fit : ∀ t : List Lt, (∀ l ∈ t, Lok l) → t.length ≤ 10 → ∀ k, Builtin.Str.tooLong ((t.map (ltx ms)).toArray.foldl (· + ·.length + (signOf k).length) 0) = false ∧ (joinS (signOf k) (t.map (ltx ms))).length ≤ sizeLine
  dat : ∀ t : List Lt, (∀ l ∈ t, Lok l) → datTs (tkey ms t) = true ∧ depTs (tkey ms t) ≤ 2
  head : ∀ t : List Lt, tkey ms t = [] ∨ ∃ i r, tkey ms t = .int i :: r
  cmp : ∀ t : List Lt, (∀ l ∈ t, Lok l) → ∀ u : List Lt, (∀ l ∈ u, Lok l) → cmpTs (tkey ms t) (tkey ms u) = true
noncomputable abbrev It := List Lt × Nat
noncomputable def itemT (ms : List Nm) (p : It) : T := .list [.list (tkey ms p.1), .int p.2]
noncomputable def ilt (ms : List Nm) (a b : It) : Bool := ltTs (tkey ms a.1) (tkey ms b.1)
noncomputable def shelfP (ms : List Nm) : List (List Lt) → Nat → List It → List It
  | [], _, mid => mid
  | t :: ts, k, mid => shelfP ms ts (k + 1) (insW (ilt ms) (t, k) mid)
noncomputable def shelfT (ms : List Nm) (mid : List It) : List T := .list [.list [.int 300], .int 0] :: (mid.map (itemT ms) ++ [.list [.list [.int (-1)], .int 0]])
section
variable {C : Cx} {n : Nat}
theorem insW_length {α : Type} {lt : α → α → Bool} {x : α} {xs : List α} : (insW lt x xs).length = xs.length + 1 := insW_perm.length_eq
theorem insT_between {kf : T → T} {x s e : T} {mid : List T} {p : Nat} (h : BisTo kf (kf x) (s :: (mid ++ [e])) 1 (mid.length + 1) p) : insT (s :: (mid ++ [e])) p x = s :: (insW (fun a b => ltT (kf a) (kf b)) x mid ++ [e]) := by
  obtain ⟨h0, h1, h2, h3⟩ := h
  obtain ⟨q, rfl⟩ : ∃ q, p = q + 1 := ⟨p - 1, by lia⟩
  obtain ⟨e1, e2⟩ := take_while_at (xs := mid) (p := fun y => ltT (kf y) (kf x)) (k := q) (by (exact Nat.le_of_lt_succ h1)) (fun i t hi ht => h2 (i + 1) t (by (exact Nat.le_add_left _ _)) (by (exact Nat.lt_succ_of_le hi)) (by
      rw [List.getElem?_cons_succ, List.getElem?_append_left (by have := (List.getElem?_eq_some_iff.mp ht).1; exact this)]; exact ht))
    (fun i t hi hi2 ht => h3 (i + 1) t (by (exact Nat.succ_le_succ hi)) (by (exact Nat.lt_succ_of_le hi2)) (by rw [List.getElem?_cons_succ, List.getElem?_append_left hi2]; exact ht))
  unfold insT insW
  rw [e1, e2, List.take_succ_cons, List.drop_succ_cons, List.take_append_of_le_length (by lia), List.drop_append_of_le_length (by lia)]
  simp
theorem strsT_map {α : Type} (f : α → Str) : ∀ l : List α, strsT (l.map fun a => .str (f a)) = some (l.map f)
  | [] => rfl
  | a :: l => by rw [List.map_cons, strsT, strsT_map f l]; rfl
theorem cmp_one {i : Int} {us : List T} (h : us = [] ∨ ∃ j r, us = .int j :: r) : cmpTs [.int i] us = true := by
  rcases h with rfl | ⟨j, r, rfl⟩
  · rfl
  · unfold cmpTs
    split
    · cases r <;> rfl
    · rfl
theorem rises_between {kf : T → T} {s e : T} {mid : List T} {x : T} (h : Rises kf x mid 0 mid.length) : Rises kf x (s :: (mid ++ [e])) 1 (mid.length + 1) := fun i j t u hi hij hj ht hu hl => by
  obtain ⟨i', rfl⟩ : ∃ i', i = i' + 1 := ⟨i - 1, by lia⟩
  obtain ⟨j', rfl⟩ : ∃ j', j = j' + 1 := ⟨j - 1, by lia⟩
  rw [List.getElem?_cons_succ, List.getElem?_append_left (by lia)] at ht hu
  exact h i' j' t u (by (exact Nat.le_add_left _ _)) (by (exact Nat.le_of_lt_succ hij)) (by lia) ht hu hl
theorem insW_up {α : Type} {lt : α → α → Bool} {P : α → Prop} (asym : ∀ a b, lt a b = true → lt b a = false) (tr : ∀ a b d, P a → P b → P d → lt b a = false → lt d b = false → lt d a = false) {x : α} (px : P x) :
    ∀ {xs : List α}, (∀ y ∈ xs, P y) → xs.Pairwise (fun a b => lt b a = false) → (insW lt x xs).Pairwise fun a b => lt b a = false
  | [], _, _ => by simp [insW]
  | y :: ys, hp, h => by
    obtain ⟨h1, h2⟩ := List.pairwise_cons.mp h
    cases hy : lt y x with
    | true =>
      have e : insW lt x (y :: ys) = y :: insW lt x ys := by simp [insW, hy]
      rw [e]
      refine List.pairwise_cons.mpr ⟨fun z hz => ?_, insW_up asym tr px (fun z hz => hp z (List.mem_cons_of_mem _ hz)) h2⟩
      rcases List.mem_cons.mp (insW_perm.mem_iff.mp hz) with rfl | hz
      · exact asym _ _ hy
      · exact h1 z hz
    | false =>
      have e : insW lt x (y :: ys) = x :: y :: ys := by simp [insW, hy]
      rw [e]
      refine List.pairwise_cons.mpr ⟨fun z hz => ?_, h⟩
      rcases List.mem_cons.mp hz with rfl | hz
      · exact hy
      · exact tr x y z px (hp y (List.mem_cons_self ..)) (hp z (List.mem_cons_of_mem _ hz)) hy (h1 z hz)
theorem leTs_tr {a b d : List T} (c1 : cmpTs a b = true) (c2 : cmpTs b d = true) (c3 : cmpTs a d = true) (h1 : ltTs b a = false) (h2 : ltTs d b = false) : ltTs d a = false := by
  have := leT_tr (a := .list a) (b := .list b) (d := .list d) (by rw [cmpT]; exact c1) (by rw [cmpT]; exact c2) (by rw [cmpT]; exact c3) (by rw [ltT]; exact h1) (by rw [ltT]; exact h2)
  rw [ltT] at this; exact this
theorem split_drop {α : Type} {l : List α} {k : Nat} {a : α} (h : l[k]? = some a) : l.drop k = a :: l.drop (k + 1) := by
  obtain ⟨h1, h2⟩ := List.getElem?_eq_some_iff.mp h
  rw [List.drop_eq_getElem_cons h1, h2]
theorem con_shelf {a : Addr} {bi ins dt kd dt' kd' cv pt tb fi : Addr} (W : DefAt C PW "_law_shelf" a .none .none) (Wb : BisW C PW bi ins dt kd dt' kd') (Wc : CvW C PW cv pt tb) (Wf : DefAt C PW "_law_first" fi .none .none) (hlen : Bi C "len" (.builtin "len")) (hran : Bi C "range" (.type "range"))
    {ms : List Nm} (J : Joins ms) {ts : List (List Lt)} (hts : ∀ t ∈ ts, TermOk ms t) (hfew : ts.length ≤ 100000) {O : List Ob} (hO : noDicts O) :
    Con C (n + 7) (.ref a) O [.val (.list (ts.map (termT ms)))] [] fun d O' => RetD O O' d fun t => t = .list (shelfT ms (shelfP ms ts 0 [])) := by
  refine Con_fn ["terms"] W hO (by simp) rfl (by decide +kernel) (fun pm cd doc => vs1 fun _ => rfl) ?_
  intro Ψr hΨr
  obtain ⟨fdc, bodyc, Fc⟩ := Wc.df.fn (by decide +kernel)
  obtain ⟨fdi, bodyi, Fi⟩ := Wb.ins.fn (by decide +kernel)
  walk_at "m.body"
  refine WPs_cons ?_
  refine WPx_Assign (nameOk_of rfl) ?_ (by intro env eo; rfl)
  refine WPe_ListOwn ?_
  refine WPl_cons ?_ trivial
  refine WPe_List ?_
  refine WPl_cons ?_ trivial
  refine WPe_List ?_
  walk_at "e"
  refine ⟨rfl, _, rfl, ?_⟩
  walk_at "e"
  refine ⟨rfl, _, rfl, ?_⟩
  refine WPl_cons ?_ trivial
  refine WPe_List ?_
  refine WPl_cons ?_ trivial
  refine WPe_List ?_
  walk_at "e"
  refine U_neg ?_
  walk_at "e"
  refine ⟨rfl, _, rfl, ?_⟩
  walk_at "e"
  refine ⟨rfl, _, rfl, ?_⟩
  walk_at "e"
  refine ⟨rfl, _, rfl, ?_⟩
  walk_at "m.red"
  refine WPs_cons ?_
  refine WPx_For (.name (nameOk_of rfl)) ?_ (fun _ _ => rfl) (Nat.succ_pos _)
  refine WPe_CallB (.inr ⟨_, rfl⟩) (ns_of rfl) (WPe_builtin hran.1 hran.2 rfl ⟨rfl, ?_⟩ rfl)
  walk_at "m"
  refine WPe_CallB (.inl ⟨_, rfl⟩) (ns_of rfl) (WPe_builtin hlen.1 hlen.2 rfl ⟨rfl, ?_⟩ rfl)
  walk_at "m"
  refine ConB.con (F_len rfl (by rw [List.length_map]; lia) ?_)
  rw [List.length_map]
  walk_at "m"
  refine ConB.con (F_range1 ?_)
  refine ⟨_, rangeT 0 1 ts.length, rfl, itemsD_range (a := 0) (by lia) (by (exact Nat.le_add_left _ _)), ?_⟩
  refine ForP_rng (σ := List It) (fun mid => [("shelf", .ref 0), ("terms", .val (.list (ts.map (termT ms))))]) (fun mid => [.list (shelfT ms mid)])
    (fun k m mid => k + m = ts.length ∧ mid.length = k ∧ shelfP ms (ts.drop k) k mid = shelfP ms ts 0 [] ∧ (∀ p ∈ mid, ∀ l ∈ p.1, Lok l) ∧ mid.Pairwise (fun a b => ilt ms b a = false)) 1 (fun _ => rfl) (fun _ => rfl) ?_ ?_ 0 ts.length [] _ ⟨by (exact Nat.add_comm _ _), rfl, rfl, by simp, List.Pairwise.nil⟩ (Sub.cons rfl (Sub.cons rfl Sub.nil))
  · rintro k m' mid ⟨hkm, hmid, hsh, hmok, hmup⟩
    refine ⟨_, .name, fun Ψl hΨl => ?_⟩
    obtain ⟨t, htk⟩ : ∃ t, ts[k]? = some t := ⟨ts[k], List.getElem?_eq_getElem (by omega)⟩
    have ht : TermOk ms t := hts t (List.mem_of_getElem? htk)
    have htg : (ts.map (termT ms))[((k : Nat) : Int).toNat]? = some (termT ms t) := by rw [Int.toNat_natCast, List.getElem?_map, htk]; rfl
    have e4 : Int.fmod (k : Int) 4 = ((k % 4 : Nat) : Int) := fmod_nat k 4 (by decide)
    have e8 : Int.fmod (Int.fdiv (k : Int) 4) 2 = ((k / 4 % 2 : Nat) : Int) := by
      have : Int.fdiv (k : Int) 4 = ((k / 4 : Nat) : Int) := by rw [Int.fdiv_eq_ediv_of_nonneg _ (by decide)]; rfl
      rw [this]; exact fmod_nat _ 2 (by decide)
    have hsg : signsS.cps.size = 4 := by decide +kernel
    refine WPs_cons ?_
    refine WPx_Assign (nameOk_of rfl) ?_ (by intro env eo; rfl)
    refine WPe_BinOp ?_
    refine WPe_sign trivial ?_
    walk_at "e"
    refine B_mod (by decide) ?_
    rw [e4]
    refine ⟨signsS, _, signsS.cps.getD (k % 4) 0, rfl, rfl, by lia, by lia, ?_, ?_⟩
    · rw [Int.toNat_natCast, Array.getD, dif_pos (by rw [hsg]; (exact Nat.mod_lt _ (by decide)))]
      exact Array.getElem?_eq_getElem (by rw [hsg]; lia)
    walk_at "e"
    refine B_floordiv (by decide) (by decide) ?_
    walk_at "e"
    refine B_mod (by decide) ?_
    rw [e8]
    refine B_add ?_
    have e1 : (1 : Int) + ((k / 4 % 2 : Nat) : Int) = ((1 + k / 4 % 2 : Nat) : Int) := by rfl
    rw [e1]
    refine B_mulS (by lia) (by lia) (by show (#[signsS.cps.getD (k % 4) 0] : Array Nat).size < 2 ^ 20; simp) (by show (#[signsS.cps.getD (k % 4) 0] : Array Nat).size * _ ≤ _; rw [Int.toNat_natCast, sizeLine_eq]; simp; lia) ?_
    rw [Int.toNat_natCast]
    walk_at "m.red"
    refine WPs_cons ?_
    refine WPx_Assign (nameOk_of rfl) ?_ (by intro env eo; rfl)
    refine WPe_List ?_
    refine WPl_cons ?_ trivial
    refine WPe_Call Fc (ns_of rfl) (by decide) (WPe_glob Wc.df.glob rfl ⟨rfl, ?_⟩ rfl)
    refine WPl_cons ?_ trivial
    refine WPe_CallM (fun _ _ => rfl) (ns_of rfl) (by decide) rfl F.plainAttrs_str F.slot_str_join F.type_str_join ?_
    walk_at "e"
    refine ⟨tyStr, ?_⟩
    walk_at "e"
    refine ⟨_, _, _, rfl, rfl, by lia, by lia, htg, ?_⟩
    walk_at "e"
    obtain ⟨hf1, hf2⟩ := J.fit t ht.ok ht.short k
    refine ConB.con (F_join (ts := t.map fun l => .str (ltx ms l)) rfl (strsT_map (ltx ms) t) hf1 hf2 ?_)
    walk_at "e"
    refine ⟨rfl, ((con_cv Wc (J.txt t ht.ok ht.short k) (O := [.list (shelfT ms mid)]) ⟨trivial, trivial⟩).le (lek rfl : 0 + 3 ≤ n + 6)).retE ?_⟩
    rw [J.key t ht.ok ht.short k]
    walk_at "e"
    refine ⟨rfl, _, rfl, ?_⟩
    refine WPs_cons ?_
    refine WPx_Expr ?_ (by intro env eo; rfl)
    walk_at "e"
    refine WPe_Call Fi (ns_of rfl) (by decide) (WPe_glob Wb.ins.glob rfl ⟨rfl, ?_⟩ rfl)
    walk_at "e"
    refine WPe_CallB (.inl ⟨_, rfl⟩) (ns_of rfl) (WPe_builtin hlen.1 hlen.2 rfl ⟨rfl, ?_⟩ rfl)
    walk_at "e"
    have hshl : (shelfT ms mid).length = mid.length + 2 := by
      unfold shelfT
      rw [List.length_cons, List.length_append, List.length_map]; rfl
    refine ConB.con (F_len rfl (by rw [hshl]; lia) ?_)
    rw [hshl]
    walk_at "e"
    refine B_sub ?_
    have e2 : (((mid.length + 2 : Nat) : Int) - 1) = ((mid.length + 1 : Nat) : Int) := by lia
    rw [e2]
    walk_at "e"
    refine WPe_glob Wf.glob rfl ?_ rfl
    walk_at "e"
    have hmi : ∀ p : It, itemT ms p = .list [.list (tkey ms p.1), .int p.2] := fun p => rfl
    have cmpm : ∀ p : It, (∀ l ∈ p.1, Lok l) → ∀ q : It, (∀ l ∈ q.1, Lok l) → cmpT (headT (itemT ms p)) (headT (itemT ms q)) = true := fun p hp q hq => by
      show cmpT (.list _) (.list _) = true
      rw [cmpT]; exact J.cmp p.1 hp q.1 hq
    have hup : UpBy headT (mid.map (itemT ms)) := by
      unfold UpBy
      rw [List.pairwise_map]
      exact hmup.imp fun {a b} h => by
        show ltT (.list _) (.list _) = false
        rw [ltT]; exact h
    have hris : Rises headT (headT (itemT ms (t, k))) (shelfT ms mid) 1 (mid.length + 1) := by
      have := hup.rises (x := headT (itemT ms (t, k))) (fun a ha b hb => by
        obtain ⟨p, hp, rfl⟩ := List.mem_map.mp ha
        obtain ⟨q, hq, rfl⟩ := List.mem_map.mp hb
        exact cmpm p (hmok p hp) q (hmok q hq)) (fun a ha => by
        obtain ⟨p, hp, rfl⟩ := List.mem_map.mp ha
        exact cmpm p (hmok p hp) (t, k) ht.ok) 0 (mid.map (itemT ms)).length
      have h2 := rises_between (s := .list [.list [.int 300], .int 0]) (e := .list [.list [.int (-1)], .int 0]) this
      rw [List.length_map] at h2
      exact h2
    have hcmp : CmpOk headT (headT (itemT ms (t, k))) (shelfT ms mid) := by
      have hdt : ∀ u : List Lt, (∀ l ∈ u, Lok l) → datT (.list (tkey ms u)) = true ∧ depT (.list (tkey ms u)) ≤ 60 := fun u hu => by
        have := J.dat u hu
        refine ⟨by rw [datT]; exact this.1, by rw [depT]; lia⟩
      refine ⟨(hdt t ht.ok).1, fun u hu => ?_⟩
      unfold shelfT at hu
      rcases List.mem_cons.mp hu with rfl | hu
      · exact ⟨rfl, by show cmpT (.list [.int 300]) (.list _) = true; rw [cmpT]; exact cmp_one (J.head t), by decide⟩
      · rcases List.mem_append.mp hu with hu | hu
        · obtain ⟨p, hp, rfl⟩ := List.mem_map.mp hu
          exact ⟨(hdt p.1 (hmok p hp)).1, cmpm p (hmok p hp) (t, k) ht.ok, (hdt p.1 (hmok p hp)).2⟩
        · have : u = .list [.list [.int (-1)], .int 0] := by simpa using hu
          subst this
          exact ⟨rfl, by show cmpT (.list [.int (-1)]) (.list _) = true; rw [cmpT]; exact cmp_one (J.head t), by decide⟩
    have hins := con_ins4 Wb (key_first Wf (n := 0)) (by (exact Nat.le_refl _)) (ts := shelfT ms mid) (x := itemT ms (t, k)) (lo := 1) (hi := mid.length + 1) (by (exact Nat.le_add_left _ _)) (by lia) (by rw [hshl, sizeLine_eq]; lia) (fun u hu => by
        unfold shelfT at hu
        rcases List.mem_cons.mp hu with rfl | hu
        · exact ⟨_, _, rfl⟩
        · rcases List.mem_append.mp hu with hu | hu
          · obtain ⟨p, hp, rfl⟩ := List.mem_map.mp hu
            exact ⟨_, _, rfl⟩
          · have : u = .list [.list [.int (-1)], .int 0] := by simpa using hu
            subst this; exact ⟨_, _, rfl⟩) ⟨_, _, rfl⟩ hcmp hris
    refine ⟨rfl, (hins.le (lek rfl : 0 + 1 + 2 ≤ n + 6)).mono ?_⟩
    rintro d O' ⟨p, rfl, rfl, hp⟩
    have hp' : BisTo headT (headT (itemT ms (t, k))) (.list [.list [.int 300], .int 0] :: (mid.map (itemT ms) ++ [.list [.list [.int (-1)], .int 0]])) 1 ((mid.map (itemT ms)).length + 1) p := by rw [List.length_map]; exact hp
    have hnew : insT (shelfT ms mid) p (itemT ms (t, k)) = shelfT ms (insW (ilt ms) (t, k) mid) := by
      unfold shelfT
      rw [insT_between hp', insW_map (f := itemT ms)]
      rfl
    rw [hnew]
    refine ⟨rfl, ?_⟩
    refine WPs_nil ?_
    refine (hΨl _ _ ?_).1
    refine ⟨insW (ilt ms) (t, k) mid, [], ⟨by lia, by rw [insW_length]; lia, ?_, ?_, ?_⟩, Sub.cons rfl (Sub.cons rfl Sub.nil), rfl⟩
    · rw [← hsh, split_drop htk]; rfl
    · intro p hp l hl
      rcases List.mem_cons.mp (insW_perm.mem_iff.mp hp) with rfl | hp
      · exact ht.ok l hl
      · exact hmok p hp l hl
    · refine insW_up (α := It) (lt := ilt ms) (x := (t, k)) (P := fun p : It => ∀ l ∈ p.1, Lok l) (fun a b => ltTs_asym _ _) (fun a b d ha hb hd => leTs_tr (J.cmp a.1 ha b.1 hb) (J.cmp b.1 hb d.1 hd) (J.cmp a.1 ha d.1 hd)) ht.ok hmok hmup
  · rintro k mid ρ ⟨hkm, hmid, hsh, hmok, hmup⟩ hsub
    have hk : k = ts.length := by omega
    rw [hk, List.drop_length] at hsh
    have hsh' : mid = shelfP ms ts 0 [] := hsh
    refine WPs.sub (WPs_freeze (i := 0) rfl ?_) hsub
    walk_at "m"
    rw [hsh']
    exact hΨr _ _ rfl
end
end

section
noncomputable def stepM (st : Int × Int) (m : Int) : Int × Int := if m = 1 then (st.1 * st.2, st.2 - 1) else (st.1, st.2 + 1)
noncomputable def foundP (mk : List Int) (start : Int) : Int := (mk.reverse.foldl stepM (1, start)).1
noncomputable def diffs (f : List Int) : List Int := (List.range' 1 (f.length - 1)).map fun k => f.getD k 0 - f.getD (k - 1) 0
theorem diffs_length {f : List Int} : (diffs f).length = f.length - 1 := by unfold diffs; rw [List.length_map, List.length_range']
noncomputable def cntP : Nat → List Int → Int → Nat → List Int
  | 0, _, _, _ => []
  | n + 1, f, size, i => match f with
    | [] => []
    | a :: r => Int.fdiv a size :: cntP n (diffs (a :: r)) (size * ((i + 1 : Nat) : Int)) (i + 1)
noncomputable def Marks (mk : List Int) : Prop := mk.length ≤ 6 ∧ ∀ m ∈ mk, m = 0 ∨ m = 1
noncomputable def ones (mk : List Int) : Nat := mk.count 1
theorem Marks.sum_take {mk : List Int} (h : ∀ m ∈ mk, m = 0 ∨ m = 1) : mk.sum = (mk.count 1 : Nat) := by
  induction mk with
  | nil => rfl
  | cons m mk ih =>
    rw [List.sum_cons, List.count_cons, ih fun x hx => h x (List.mem_cons_of_mem _ hx)]
    rcases h m (List.mem_cons_self ..) with rfl | rfl
    · simp
    · simp; lia
noncomputable def countsP (mk : List Int) : List Int := cntP (ones mk + 1) ((List.range (ones mk + 1)).map fun k => foundP mk (k : Nat)) 1 0
theorem itemsD_rangeI {O : List Ob} {b : Nat} (h : b < 2 ^ 61) : itemsD O (.val (.range 0 b 1)) = some (rangeT 0 1 b) := itemsD_range (a := 0) h (Nat.zero_le _)
theorem rev_pick {α : Type} : ∀ ys : List α, (List.range ys.length).filterMap (fun k => ys.reverse[ys.length - 1 - k]?) = ys
  | [] => rfl
  | y :: ys => by
    rw [List.length_cons, List.range_succ_eq_map, List.filterMap_cons]
    have h0 : (y :: ys).reverse[ys.length + 1 - 1 - 0]? = some y := by
      rw [List.reverse_cons, List.getElem?_append_right (by rw [List.length_reverse]; (exact Nat.le_refl _)), List.length_reverse]; simp
    rw [h0]
    dsimp only
    rw [List.filterMap_map]
    congr 1
    refine Eq.trans ?_ (rev_pick ys)
    have hcong : ∀ {l : List Nat} {f g : Nat → Option α}, (∀ k ∈ l, f k = g k) → l.filterMap f = l.filterMap g := fun {l f g} h => by
      induction l with
      | nil => rfl
      | cons x l ih => rw [List.filterMap_cons, List.filterMap_cons, h x (List.mem_cons_self ..), ih fun k hk => h k (List.mem_cons_of_mem _ hk)]
    refine hcong fun k hk => ?_
    have hk := List.mem_range.mp hk
    show (y :: ys).reverse[ys.length + 1 - 1 - (k + 1)]? = _
    rw [List.reverse_cons, List.getElem?_append_left (by rw [List.length_reverse]; omega)]
    congr 1; lia
theorem reverse_slice {α : Type} {xs : List α} : sliceT xs none none (some (-1)) = xs.reverse := by
  unfold sliceT
  have hb : sliceBounds none none (some (-1)) xs.length = ((xs.length : Int) - 1, -1, -1) := rfl
  rw [hb]
  dsimp only
  have hr : sliceRange ((xs.length : Int) - 1) (-1) (-1) = (List.range xs.length).map fun k => xs.length - 1 - k := by
    have e : (((xs.length : Int) - 1 - -1 - -1 - 1) / - -1) = (xs.length : Int) := by rw [Int.neg_neg, Int.ediv_one]; lia
    have hc : (if (-1 : Int) > 0 then (if (xs.length : Int) - 1 < -1 then (-1 - ((xs.length : Int) - 1) + -1 - 1) / -1 else 0) else (if (xs.length : Int) - 1 > -1 then ((xs.length : Int) - 1 - -1 - -1 - 1) / - -1 else 0)).toNat = xs.length := by
      rw [if_neg (by decide)]
      by_cases h0 : xs.length = 0
      · rw [h0]; rfl
      · rw [if_pos (by lia), e]; rfl
    unfold sliceRange
    dsimp only
    rw [hc]
    refine List.map_congr_left fun k hk => ?_
    have := List.mem_range.mp hk
    lia
  rw [hr, List.filterMap_map]
  have := rev_pick xs.reverse
  rw [List.reverse_reverse, List.length_reverse] at this
  exact this

theorem swaps_cell {sc : Kinds} {env : Env} {e gs scope cp x px l} (eo : EnvOk sc env) (h : sc.lookup x = some .cell) : swapsWith (.ListComp e gs scope cp) (some (.Name x px)) l env = pure false := by
  have hk : env.kindOf x = some .cell := by unfold Env.kindOf; rw [eo.names]; exact h
  unfold swapsWith
  dsimp only
  rw [hk]
  have : ((some NameKind.cell == some NameKind.local) = false) := rfl
  simp only [this, Bool.and_false, Bool.false_and]
noncomputable def diffT (f : List Int) : T → T
  | .int k => .int (f.getD k.toNat 0 - f.getD (k.toNat - 1) 0)
  | t => t
theorem rangeT_map : ∀ (k m : Nat), rangeT k 1 m = (List.range' k m).map fun (i : Nat) => T.int (i : Int)
  | _, 0 => rfl
  | k, m + 1 => by rw [rangeT, List.range'_succ, List.map_cons, ← rangeT_map (k + 1) m]; rfl
theorem diffT_map {f : List Int} : (rangeT 1 1 (f.length - 1)).map (diffT f) = intsT (diffs f) := by
  have := rangeT_map 1 (f.length - 1)
  rw [show ((1 : Nat) : Int) = 1 from rfl] at this
  rw [this, List.map_map]
  unfold intsT diffs
  rw [List.map_map]
  refine List.map_congr_left fun k _ => ?_
  show T.int (f.getD (k : Int).toNat 0 - f.getD ((k : Int).toNat - 1) 0) = _
  rw [Int.toNat_natCast]; rfl
section
variable {C : Cx} {n : Nat}
theorem con_counts {a : Addr} (W : DefAt C PW "_law_counts" a .none .none) (hlen : Bi C "len" (.builtin "len")) (hran : Bi C "range" (.type "range")) (hsum : Bi C "sum" (.builtin "sum")) {mk : List Int} (hm : Marks mk) {O : List Ob} (hO : noDicts O) :
    Con C (n + 3) (.ref a) O [.val (.list (intsT mk))] [] fun d O' => RetD O O' d fun t => t = .list (intsT (countsP mk)) := by
  refine Con_fn ["marks"] W hO (by simp) rfl (by decide +kernel) (fun pm cd doc => vs1 fun _ => rfl) ?_
  intro Ψr hΨr
  obtain ⟨hm6, hm01⟩ := hm
  have hS := Marks.sum_take hm01
  have hS6 : ones mk ≤ 6 := Nat.le_trans List.count_le_length hm6
  walk_at "m.body"
  refine WPs_cons ?_
  refine WPx_Assign (nameOk_of rfl) ?_ (by intro env eo; rfl)
  refine WPe_ListOwn ?_
  walk_at "e"
  refine ⟨rfl, _, rfl, ?_⟩
  walk_at "m.red"
  refine WPs_cons ?_
  refine WPx_For (.name (nameOk_of rfl)) ?_ (fun _ _ => rfl) (Nat.succ_pos _)
  refine WPe_CallB (.inr ⟨_, rfl⟩) (ns_of rfl) (WPe_builtin hran.1 hran.2 rfl ⟨rfl, ?_⟩ rfl)
  walk_at "e"
  refine WPe_CallB (.inl ⟨_, rfl⟩) (ns_of rfl) (WPe_builtin hsum.1 hsum.2 rfl ⟨rfl, ?_⟩ rfl)
  walk_at "e"
  have hnums : numsT (intsT mk) = some mk := by
    unfold intsT
    clear hm6 hm01 hS hS6
    clear hΨr
    induction mk with
    | nil => rfl
    | cons m mk ih => rw [List.map_cons, numsT, ih]; rfl
  refine ConB.con (F_sum (ns := mk) rfl hnums (fun j hj => ?_) ?_ (Nat.succ_pos _))
  · have e1 : mk.getD j 0 = 0 ∨ mk.getD j 0 = 1 := by
      rw [List.getD_eq_getElem?_getD, List.getElem?_eq_getElem hj]
      exact hm01 _ (List.getElem_mem hj)
    have e2 := Marks.sum_take (mk := mk.take (j + 1)) fun m h => hm01 m (List.mem_of_mem_take h)
    have e3 : (mk.take (j + 1)).count 1 ≤ 6 := Nat.le_trans List.count_le_length (by rw [List.length_take]; lia)
    rw [e2]
    unfold InLong
    constructor
    · rcases e1 with e | e <;> rw [e] <;> decide
    · lia
  rw [hS]
  walk_at "e"
  refine B_add ?_
  walk_at "e"
  refine ConB.con (F_range1 ?_)
  have e1 : (((mk.count 1 : Nat) : Int) + 1) = ((ones mk + 1 : Nat) : Int) := rfl
  rw [e1]
  refine ⟨_, rangeT 0 1 (ones mk + 1), rfl, itemsD_rangeI (by omega), ?_⟩
  refine ForP_rng (σ := List Int) (fun fs => [("found", .ref 0), ("marks", .val (.list (intsT mk)))]) (fun fs => [.list (intsT fs)])
    (fun k m fs => k + m = ones mk + 1 ∧ fs = (List.range k).map fun k => foundP mk (k : Nat)) 1 (fun _ => rfl) (fun _ => rfl) ?_ ?_ 0 (ones mk + 1) [] _ ⟨by (exact Nat.add_comm _ _), rfl⟩ (Sub.cons rfl (Sub.cons rfl Sub.nil))
  · rintro k m' fs ⟨hkm, hfs⟩
    refine ⟨_, .name, fun Ψl hΨl => ?_⟩
    walk_at "asg"
    walk_at "asg"
    refine WPs_cons ?_
    refine WPx_For (.name (nameOk_of rfl)) ?_ (fun _ _ => rfl) (Nat.succ_pos _)
    walk_at "e"
    refine U_neg ?_
    walk_at "e"
    refine ⟨intsT mk, none, none, some (-1), rfl, rfl, rfl, rfl, by decide, by rw [intsT_length, sizeLine_eq]; (exact Nat.le_trans hm6 (Nat.le_add_left _ _)), ?_⟩
    rw [reverse_slice]
    have hrev : (intsT mk).reverse = intsT mk.reverse := by unfold intsT; rw [List.map_reverse]
    rw [hrev]
    refine ⟨_, _, rfl, rfl, ?_⟩
    refine ForP_map (σ := Int × Int) T.int (fun st => [("times", .val (.int st.1)), ("have", .val (.int st.2)), ("start", .val (.int k)), ("found", .ref 0), ("marks", .val (.list (intsT mk)))]) (fun st => [.list (intsT fs)])
      (fun r st => r.foldl stepM st = mk.reverse.foldl stepM (1, (k : Int)) ∧ st.2.natAbs + r.length ≤ 20) 1 (fun _ => rfl) (fun _ => rfl) ?_ ?_ mk.reverse (1, (k : Int)) _ ⟨rfl, by rw [List.length_reverse]; show (k : Int).natAbs + _ ≤ 20; lia⟩ (Sub.cons rfl (Sub.cons rfl (Sub.cons rfl (Sub.cons rfl (Sub.cons rfl Sub.nil)))))
    · rintro x r ⟨tm, hv⟩ ⟨hfold, hbd⟩
      dsimp only at hbd ⊢
      rw [List.length_cons] at hbd
      refine ⟨_, .name, fun Ψl hΨm => ?_⟩
      refine WPs_cons ?_
      refine WPx_If ?_
      walk_at "e"
      refine C_eqI ⟨_, rfl, ?_⟩
      rw [List.foldl_cons] at hfold
      by_cases hx : x = 1
      · subst hx
        have e2 : stepM (tm, hv) 1 = (tm * hv, hv - 1) := rfl
        rw [e2] at hfold
        rw [if_pos (by rfl)]
        walk_at "asg"
        refine B_mul (.inr ⟨by lia, by lia⟩) ?_
        walk_at "asg"
        refine B_sub ?_
        refine WPs_nil ?_
        refine WPs_nil ?_
        refine (hΨm _ _ ?_).1
        exact ⟨(tm * hv, hv - 1), [], ⟨hfold, by show (hv - 1).natAbs + _ ≤ 20; omega⟩, Sub.cons rfl (Sub.cons rfl (Sub.cons rfl (Sub.cons rfl (Sub.cons rfl Sub.nil)))), rfl⟩
      · have e2 : stepM (tm, hv) x = (tm, hv + 1) := by unfold stepM; rw [if_neg hx]
        rw [e2] at hfold
        rw [if_neg (by simpa using hx)]
        walk_at "asg"
        refine B_add ?_
        refine WPs_nil ?_
        refine WPs_nil ?_
        refine (hΨm _ _ ?_).1
        exact ⟨(tm, hv + 1), [], ⟨hfold, by show (hv + 1).natAbs + _ ≤ 20; omega⟩, Sub.cons rfl (Sub.cons rfl (Sub.cons rfl (Sub.cons rfl (Sub.cons rfl Sub.nil)))), rfl⟩
    · rintro ⟨tm, hv⟩ ρ ⟨hfold, hbd⟩ hsub
      have htm : tm = foundP mk k := by
        have := congrArg Prod.fst hfold
        exact this
      refine WPs.sub ?_ hsub
      refine WPs_cons ?_
      refine WPx_Expr ?_ (by intro env eo; rfl)
      walk_at "e"
      refine WPe_CallM (fun _ _ => rfl) (ns_of rfl) (by decide) rfl F.plainAttrs_list F.slot_list_append F.type_list_append ?_
      walk_at "e"
      refine ⟨tyList rfl, ?_⟩
      walk_at "e"
      refine ConB.con (F_append rfl (by rw [intsT_length, hfs, List.length_map, List.length_range, sizeLine_eq]; lia) ?_)
      walk_at "e"
      refine ⟨rfl, ?_⟩
      refine WPs_nil ?_
      refine (hΨl _ _ ?_).1
      refine ⟨fs ++ [tm], [], ⟨by lia, ?_⟩, Sub.cons rfl (Sub.cons rfl Sub.nil), by unfold intsT; rw [List.map_append]; rfl⟩
      rw [hfs, htm, List.range_succ, List.map_append]; rfl
  · rintro k fs ρ ⟨hkm, hfs⟩ hsub
    have hk : k = ones mk + 1 := by omega
    subst hk
    refine WPs.sub (WPs_freeze (i := 0) rfl ?_) hsub
    refine WPs_cons ?_
    refine WPx_Assign (nameOk_of rfl) ?_ (by intro env eo; rfl)
    refine WPe_ListOwn ?_
    walk_at "e"
    refine ⟨rfl, _, rfl, ?_⟩
    walk_at "m.red"
    walk_at "asg"
    refine WPs_cons ?_
    refine WPx_While (k := ones mk + 1) (fun j ρ O => ∃ (f cs : List Int) (s i : Nat), ρ = ([("size", .val (.int s)), ("counts", .ref 1), ("found", .val (.list (intsT f))), ("marks", .val (.list (intsT mk)))] : Vars) ∧ O = [.gone, .list (intsT cs)] ∧ j = f.length ∧ cs.length = i ∧ i + f.length = ones mk + 1 ∧ 1 ≤ s ∧ s ≤ 10 ^ i ∧ cs ++ cntP f.length f s i = countsP mk)
      ⟨[("size", .val (.int 1)), ("counts", .ref 1), ("found", .val (.list (intsT fs))), ("marks", .val (.list (intsT mk)))], Sub.cons rfl (Sub.cons rfl (Sub.cons rfl (Sub.cons rfl Sub.nil))), fs, [], 1, 0, rfl, rfl, by rw [hfs]; simp, rfl, by rw [hfs]; simp, by (exact Nat.le_refl _), by (exact Nat.le_refl _), by rw [hfs]; simp [countsP]⟩ ?_
    rintro j ρ O ⟨f, cs, sz, i, rfl, rfl, rfl, hci, hif, hs1, hs2, hcnt⟩
    refine WPb_Compare ?_ rfl
    walk_at "e"
    refine WPe_List ?_
    walk_at "e"
    refine ⟨rfl, _, rfl, ?_⟩
    have hdat : ∀ f : List Int, datTs (intsT f) = true ∧ depTs (intsT f) = 0 := fun f => by
      induction f with
      | nil => exact ⟨rfl, rfl⟩
      | cons x f ih => exact ⟨by unfold intsT at ih ⊢; rw [List.map_cons, datTs, ih.1]; rfl, by unfold intsT at ih ⊢; rw [List.map_cons, depTs, ih.2]; rfl⟩
    refine C_neL (hdat f).1 rfl (by rw [(hdat f).2]; (exact Nat.le_add_left _ _)) ⟨_, rfl, ?_⟩
    cases f with
    | nil =>
      rw [if_neg (by decide)]
      refine WPs_freeze (i := 1) rfl ?_
      walk_at "m"
      rw [show cntP ([] : List Int).length [] (sz : Int) i = [] from rfl, List.append_nil] at hcnt
      rw [hcnt]
      exact hΨr _ _ rfl
    | cons x r =>
      have hne : eqTs (intsT (x :: r)) [] = false := rfl
      rw [hne, if_pos (by rfl)]
      have hi6 : i ≤ 6 := by rw [List.length_cons] at hif; lia
      have hp : (10 : Nat) ^ i ≤ 10 ^ 6 := Nat.pow_le_pow_right (by decide) hi6
      rw [List.length_cons, cntP] at hcnt
      refine WPs_cons ?_
      refine WPx_Expr ?_ (by intro env eo; rfl)
      walk_at "e"
      refine WPe_CallM (fun _ _ => rfl) (ns_of rfl) (by decide) rfl F.plainAttrs_list F.slot_list_append F.type_list_append ?_
      walk_at "e"
      refine ⟨tyList rfl, ?_⟩
      walk_at "e"
      refine ⟨_, 0, _, rfl, rfl, by decide, by decide, rfl, ?_⟩
      walk_at "e"
      refine B_floordiv (by lia) (by lia) ?_
      walk_at "e"
      refine ConB.con (F_append rfl (by rw [intsT_length, hci, sizeLine_eq]; (exact Nat.le_trans hi6 (Nat.le_add_left _ _))) ?_)
      walk_at "e"
      refine ⟨rfl, ?_⟩
      have hap : intsT cs ++ [T.int (Int.fdiv x (sz : Int))] = intsT (cs ++ [Int.fdiv x (sz : Int)]) := by unfold intsT; rw [List.map_append]; rfl
      rw [hap]
      walk_at "asg"
      refine WPe_CallB (.inl ⟨_, rfl⟩) (ns_of rfl) (WPe_builtin hlen.1 hlen.2 rfl ⟨rfl, ?_⟩ rfl)
      walk_at "e"
      have hcl : (intsT (cs ++ [Int.fdiv x (sz : Int)])).length = i + 1 := by rw [intsT_length, List.length_append, hci]; rfl
      refine ConB.con (F_len rfl (by rw [hcl]; lia) ?_)
      rw [hcl]
      refine B_mul (.inr ⟨by lia, by lia⟩) ?_
      walk_at "m.red"
      refine WPs_cons ?_
      refine WPx_Assign (nameOk_of rfl) ?_ (fun env eo => swaps_cell eo rfl)
      refine WPe_ListComp (CompOk.name (by decide +kernel)) ?_ (fun _ _ => rfl) (Nat.succ_pos _)
      refine WPe_CallB (.inr ⟨_, rfl⟩) (ns_of rfl) (WPe_builtin hran.1 hran.2 rfl ⟨rfl, ?_⟩ rfl)
      walk_at "e"
      refine WPe_CallB (.inl ⟨_, rfl⟩) (ns_of rfl) (WPe_builtin hlen.1 hlen.2 rfl ⟨rfl, ?_⟩ rfl)
      walk_at "e"
      have hfl : (intsT (x :: r)).length = r.length + 1 := by rw [intsT_length, List.length_cons]
      have hr7 : r.length ≤ 7 := by rw [List.length_cons] at hif; lia
      refine ConB.con (F_len rfl (by rw [hfl]; lia) ?_)
      rw [hfl]
      walk_at "e"
      refine ConB.con (F_range2 ?_)
      refine ⟨rangeT 1 1 ((x :: r).length - 1), itemsD_range (a := 1) (b := r.length + 1) (by lia) (by (exact Nat.le_add_left _ _)), by rw [rangeT_length, List.length_cons, sizeLine_eq]; (exact Nat.le_trans hr7 (Nat.le_add_left _ _)), CompP_map (diffT (x :: r)) _ [] (fun t ht => ?_) ?_⟩
      · have hmem : ∃ q : Nat, 1 ≤ q ∧ q < r.length + 1 ∧ t = .int q := by
          have := rangeT_map 1 ((x :: r).length - 1)
          rw [show ((1 : Nat) : Int) = 1 from rfl] at this
          rw [this] at ht
          obtain ⟨q, hq, rfl⟩ := List.mem_map.mp ht
          have := List.mem_range'_1.mp hq
          rw [List.length_cons] at this
          exact ⟨q, by lia, by lia, rfl⟩
        obtain ⟨q, hq1, hq2, rfl⟩ := hmem
        refine ⟨_, .name, ?_⟩
        walk_at "e"
        refine ⟨_, _, _, rfl, rfl, by lia, by lia, by rw [Int.toNat_natCast]; exact intsT_get (by rw [List.length_cons]; omega), ?_⟩
        walk_at "e"
        refine B_sub ?_
        have e1 : ((q : Int) - 1) = ((q - 1 : Nat) : Int) := by lia
        rw [e1]
        refine ⟨_, _, _, rfl, rfl, by lia, by lia, by rw [Int.toNat_natCast]; exact intsT_get (by rw [List.length_cons]; (exact Nat.lt_of_le_of_lt (Nat.sub_le _ _) hq2)), ?_⟩
        refine B_sub ⟨rfl, ?_⟩
        show _ = D.val (.int ((x :: r).getD (q : Int).toNat 0 - (x :: r).getD ((q : Int).toNat - 1) 0))
        rw [Int.toNat_natCast]
      · rw [List.nil_append, diffT_map]
        refine WPs_nil ?_
        have hdl : (diffs (x :: r)).length = r.length := by rw [diffs_length, List.length_cons]; rfl
        refine ⟨r.length, [("size", .val (.int ((sz * (i + 1) : Nat) : Int))), ("counts", .ref 1), ("found", .val (.list (intsT (diffs (x :: r))))), ("marks", .val (.list (intsT mk)))], by (exact Nat.le_refl _), Sub.cons ?_ (Sub.cons rfl (Sub.cons rfl (Sub.cons rfl Sub.nil))), diffs (x :: r), cs ++ [Int.fdiv x (sz : Int)], sz * (i + 1), i + 1, rfl, rfl, hdl.symm, by rw [List.length_append, hci]; rfl, by rw [hdl]; rw [List.length_cons] at hif; lia, Nat.mul_pos hs1 (by (exact Nat.succ_pos _)), ?_, ?_⟩
        · show some (D.val (T.int ((sz : Int) * ((i + 1 : Nat) : Int)))) = _
          rw [Int.natCast_mul]
        · rw [Nat.pow_succ]
          exact Nat.mul_le_mul hs2 (by lia)
        · rw [List.append_assoc, hdl]
          rw [Int.natCast_mul]
          exact hcnt
end
end

section
section
variable {C : Cx} {n : Nat} {sc : Kinds} {ρ : Vars} {O : List Ob}
theorem CompP_of {α : Type} {tgt elt} {Φ : D → List Ob → Prop} (g h : α → T) : ∀ (l : List α) (acc : List T), (∀ a ∈ l, BindP tgt (g a) ρ fun ρ₁ => WPe C n sc ρ₁ O elt fun d O' => O' = O ∧ d = .val (h a)) →
    Φ (.val (.list (acc ++ l.map h))) O → CompP C n sc tgt [] elt ρ O Φ (l.map g) acc
  | [], acc, hh, hΦ => by simpa [CompP] using hΦ
  | a :: l, acc, hh, hΦ => by
    obtain ⟨ρ₁, hb, hw⟩ := hh a (List.mem_cons_self ..)
    refine ⟨ρ₁, hb, ?_⟩
    show (if true = true then WPe C n sc ρ₁ O elt fun d O' => EltP O O' d fun t' => CompP C n sc tgt [] elt ρ O Φ (l.map g) (acc ++ [t']) else CompP C n sc tgt [] elt ρ O Φ (l.map g) acc)
    rw [if_pos rfl]
    refine hw.mono fun d O' ⟨e1, e2⟩ => ⟨e1, h a, e2, CompP_of g h l (acc ++ [h a]) (fun u hu => hh u (List.mem_cons_of_mem _ hu)) ?_⟩
    simpa using hΦ
theorem CompP_ofIf {α : Type} {tgt elt c} {Φ : D → List Ob → Prop} (g h : α → T) (p : α → Bool) : ∀ (l : List α) (acc : List T), (∀ a ∈ l, BindP tgt (g a) ρ fun ρ₁ => WPb C n sc ρ₁ O c (fun b O' => O' = O ∧ b = p a) ∧ (p a = true → WPe C n sc ρ₁ O elt fun d O' => O' = O ∧ d = .val (h a))) →
    Φ (.val (.list (acc ++ (l.filter p).map h))) O → CompP C n sc tgt [c] elt ρ O Φ (l.map g) acc
  | [], acc, hh, hΦ => by simpa [CompP] using hΦ
  | a :: l, acc, hh, hΦ => by
    obtain ⟨ρ₁, hb, hc, hw⟩ := hh a (List.mem_cons_self ..)
    refine ⟨ρ₁, hb, ?_⟩
    show WPb C n sc ρ₁ O c _
    refine hc.mono fun b O' ⟨e1, e2⟩ => ⟨e1, ?_⟩
    subst e2
    cases hp : p a with
    | false =>
      rw [if_neg Bool.false_ne_true]
      refine CompP_ofIf g h p l acc (fun u hu => hh u (List.mem_cons_of_mem _ hu)) ?_
      rw [List.filter_cons, if_neg (by simp [hp])] at hΦ
      exact hΦ
    | true =>
      rw [if_pos rfl]
      refine (hw hp).mono fun d O' ⟨e1, e2⟩ => ⟨e1, h a, e2, CompP_ofIf g h p l (acc ++ [h a]) (fun u hu => hh u (List.mem_cons_of_mem _ hu)) ?_⟩
      rw [List.filter_cons, if_pos hp] at hΦ
      simpa using hΦ
end
theorem swaps_local {sc : Kinds} {env : Env} {e gs scope cp x px l} (eo : EnvOk sc env) (h : sc.lookup x = some .local) (hl : (px.line == cp.line) = true) (hn : (scope.names.any fun (p : Str × NameKind) => p.1 == x && (p.2 == .local || p.2 == .cell)) = false) : swapsWith (.ListComp e gs scope cp) (some (.Name x px)) l env = pure true := by
  have hk : env.kindOf x = some .local := by unfold Env.kindOf; rw [eo.names]; exact h
  have hb : env.blockKind = .function := by unfold Env.blockKind; rw [eo.kind]; rfl
  unfold swapsWith
  dsimp only
  rw [hk, hb]
  have e1 : (px.line == (Expr.ListComp e gs scope cp).pos.line) = true := hl
  have e2 : (scope.names.any fun (n, k) => n == x && (k == .local || k == .cell)) = false := hn
  rw [e1, e2]
  rfl
noncomputable def code (x : Int) : Lt := ((Int.fmod x 3).toNat, (Int.fmod (Int.fdiv x 3) 2).toNat)
noncomputable def marksP (w : List Lt) (j : Nat) : List Int := (w.filter fun l => l.1 == j).map fun l => (l.2 : Int)
noncomputable def lettersP (j : Nat) (mk : List Int) (rest : List Lt) (left : Nat) : List Lt := rest ++ List.replicate ((mk.length : Int) - 2 * (ones mk : Int) + left).toNat (j, 0) ++ List.replicate left (j, 1)
noncomputable def widenP (j : Nat) (mk : List Int) (ds : List (List Lt)) : List (List Lt) := ds.flatMap fun rest => (List.range (countsP mk).length).flatMap fun left => List.replicate ((countsP mk).getD left 0).toNat (lettersP j mk rest left)
noncomputable def stageP (w : List Lt) : Nat → List (List Lt)
  | 0 => [[]]
  | j + 1 => widenP j (marksP w j) (stageP w j)
structure DueOk (w : List Lt) : Prop where
  cnt : ∀ j, ∀ c ∈ countsP (marksP w j), 0 ≤ c ∧ c ≤ 100
  len : ∀ j, (countsP (marksP w j)).length ≤ 7
  few : ∀ k, k ≤ 3 → (stageP w k).length ≤ 60
noncomputable def sortL (ms : List Nm) (ls : List Lt) : List Lt := ls.foldr (insW (llt ms)) []
noncomputable def lsT (ms : List Nm) (ls : List Lt) : T := .list (ls.map fun l => .list (ldue ms l))
theorem code_ok (x : Int) : Lok (code x) := by
  obtain ⟨a, ha, ea⟩ := fmodN x 3 (by decide)
  obtain ⟨b, hb, eb⟩ := fmodN (Int.fdiv x 3) 2 (by decide)
  have ea' : Int.fmod x 3 = a := ea
  have eb' : Int.fmod (Int.fdiv x 3) 2 = b := eb
  unfold Lok code
  rw [ea', eb']
  exact ⟨by show (a : Int).toNat < 3; (exact ha), by show (b : Int).toNat < 2; (exact hb)⟩
theorem code_eqs (x : Int) : Int.fmod x 3 = ((code x).1 : Nat) ∧ Int.fmod (Int.fdiv x 3) 2 = ((code x).2 : Nat) := by
  obtain ⟨a, ha, ea⟩ := fmodN x 3 (by decide)
  obtain ⟨b, hb, eb⟩ := fmodN (Int.fdiv x 3) 2 (by decide)
  have ea' : Int.fmod x 3 = a := ea
  have eb' : Int.fmod (Int.fdiv x 3) 2 = b := eb
  unfold code
  rw [ea', eb']
  exact ⟨by show (a : Int) = ((a : Int).toNat : Nat); rfl, by show (b : Int) = ((b : Int).toNat : Nat); rfl⟩
theorem marks_ok {w : List Lt} (hw : ∀ l ∈ w, Lok l) (h6 : w.length ≤ 6) (j : Nat) : Marks (marksP w j) := by
  refine ⟨by unfold marksP; rw [List.length_map]; exact Nat.le_trans (List.length_filter_le ..) h6, fun m hm => ?_⟩
  obtain ⟨l, hl, rfl⟩ := List.mem_map.mp hm
  have := (hw l (List.mem_filter.mp hl).1).2
  lia
theorem sortL_perm {ms ls} : (sortL ms ls).Perm ls := by
  induction ls with
  | nil => exact List.Perm.refl _
  | cons l ls ih => exact insW_perm.trans (ih.cons l)
theorem sortL_up {ms : List Nm} (L : Letters ms) {ls : List Lt} (h : ∀ l ∈ ls, Lok l) : (sortL ms ls).Pairwise fun a b => llt ms b a = false := by
  induction ls with
  | nil => exact List.Pairwise.nil
  | cons l ls ih =>
    exact insW_up (lt := llt ms) (P := Lok) (fun a b => ltTs_asym _ _) (fun a b d ha hb hd => leTs_tr (L.cmp a ha b hb) (L.cmp b hb d hd) (L.cmp a ha d hd)) (h l (List.mem_cons_self ..)) (fun y hy => h y (List.mem_cons_of_mem _ (sortL_perm.mem_iff.mp hy))) (ih fun y hy => h y (List.mem_cons_of_mem _ hy))
theorem up_unique {xs ys : List T} (hf : Fam ys) (hp : xs.Perm ys) (hx : Up xs) (hy : Up ys) : xs = ys := by
  refine List.Perm.eq_of_pairwise (le := fun a b => ltT b a = false) (fun a b ha hb h1 h2 => ?_) hx hy hp
  exact eqT_eq a b (ltT_total a b (hf a (hp.mem_iff.mp ha) b hb) h2 h1)
theorem sorted_is {ms : List Nm} (L : Letters ms) {ls : List Lt} (h : ∀ l ∈ ls, Lok l) {us : List T} (hp : us.Perm (ls.map fun l => .list (ldue ms l))) (hu : Up us) : us = (sortL ms ls).map fun l => .list (ldue ms l) := by
  refine up_unique (fun a ha b hb => ?_) (hp.trans (sortL_perm.symm.map _)) hu ?_
  · obtain ⟨l, hl, rfl⟩ := List.mem_map.mp ha
    obtain ⟨l', hl', rfl⟩ := List.mem_map.mp hb
    rw [cmpT]
    exact L.cmp l (h l (sortL_perm.mem_iff.mp hl)) l' (h l' (sortL_perm.mem_iff.mp hl'))
  · unfold Up
    rw [List.pairwise_map]
    exact (sortL_up L h).imp fun {a b} q => by rw [ltT]; exact q
theorem repL_one {α : Type} (a : α) : ∀ k, repL k [a] = List.replicate k a
  | 0 => rfl
  | k + 1 => by
    have := repL_one a k
    unfold repL at this ⊢
    rw [List.replicate_succ, List.flatten_cons, this]; rfl
theorem lettersP_short {j : Nat} {mk : List Int} {rest : List Lt} {left : Nat} (hm : mk.length ≤ 6) (hl : left ≤ 6) : (lettersP j mk rest left).length ≤ rest.length + 18 := by
  unfold lettersP
  rw [List.length_append, List.length_append, List.length_replicate, List.length_replicate]
  lia
theorem lettersP_ok {j : Nat} (hj : j < 3) {mk : List Int} {rest : List Lt} {left : Nat} (h : ∀ l ∈ rest, Lok l) : ∀ l ∈ lettersP j mk rest left, Lok l := fun l hl => by
  unfold lettersP at hl
  rcases List.mem_append.mp hl with hl | hl
  · rcases List.mem_append.mp hl with hl | hl
    · exact h l hl
    · rw [(List.mem_replicate.mp hl).2]; exact ⟨hj, by (exact Nat.succ_pos _)⟩
  · rw [(List.mem_replicate.mp hl).2]; exact ⟨hj, by (exact Nat.le_refl _)⟩
theorem mem_widen {j : Nat} {mk : List Int} {ds : List (List Lt)} {ls : List Lt} (h : ls ∈ widenP j mk ds) : ∃ rest ∈ ds, ∃ left, left < (countsP mk).length ∧ ls = lettersP j mk rest left := by
  unfold widenP at h
  obtain ⟨rest, hr, h⟩ := List.mem_flatMap.mp h
  obtain ⟨left, hl, h⟩ := List.mem_flatMap.mp h
  exact ⟨rest, hr, left, List.mem_range.mp hl, (List.mem_replicate.mp h).2⟩
theorem stage_ok {w : List Lt} (hw : ∀ l ∈ w, Lok l) (h6 : w.length ≤ 6) (D : DueOk w) : ∀ k, k ≤ 3 → ∀ ls ∈ stageP w k, (∀ l ∈ ls, Lok l) ∧ ls.length ≤ 18 * k
  | 0, _, ls, h => by
    have : ls = [] := by simpa [stageP] using h
    subst this
    exact ⟨by simp, by simp⟩
  | k + 1, hk, ls, h => by
    obtain ⟨rest, hr, left, hl, rfl⟩ := mem_widen h
    obtain ⟨i1, i2⟩ := stage_ok hw h6 D k (by (exact Nat.le_of_succ_le hk)) rest hr
    have := D.len k
    have := lettersP_short (j := k) (rest := rest) (marks_ok hw h6 k).1 (show left ≤ 6 by lia)
    exact ⟨lettersP_ok (by (exact hk)) i1, by lia⟩

theorem datTs_map {α : Type} {f : α → List T} : ∀ {l : List α}, (∀ a ∈ l, datTs (f a) = true) → datTs (l.map fun a => .list (f a)) = true
  | [], _ => rfl
  | a :: l, h => by rw [List.map_cons, datTs, datT, h a (List.mem_cons_self ..), datTs_map fun y hy => h y (List.mem_cons_of_mem _ hy)]; rfl
theorem depTs_map {α : Type} {f : α → List T} {k : Nat} : ∀ {l : List α}, (∀ a ∈ l, depTs (f a) ≤ k) → depTs (l.map fun a => .list (f a)) ≤ k + 1
  | [], _ => Nat.zero_le _
  | a :: l, h => by
    rw [List.map_cons, depTs, depT]
    have h1 := h a (List.mem_cons_self ..)
    have h2 := depTs_map (l := l) fun y hy => h y (List.mem_cons_of_mem _ hy)
    lia
section
variable {C : Cx} {n : Nat}
theorem F_sumMarks {O : List Ob} {Φ : D → List Ob → Prop} {mk : List Int} (hm : Marks mk) (h0n : 0 < n) (h : Φ (.val (.int (ones mk : Nat))) O) : ConB C n (.builtin "sum") O [.val (.list (intsT mk))] [] Φ := by
  obtain ⟨hm6, hm01⟩ := hm
  have hS := Marks.sum_take hm01
  have hnums : numsT (intsT mk) = some mk := by
    unfold intsT
    clear hm6 hm01 hS h
    induction mk with
    | nil => rfl
    | cons m mk ih => rw [List.map_cons, numsT, ih]; rfl
  refine F_sum (ns := mk) rfl hnums (fun j hj => ?_) (by rw [hS]; exact h) (by omega)
  have e1 : mk.getD j 0 = 0 ∨ mk.getD j 0 = 1 := by
    rw [List.getD_eq_getElem?_getD, List.getElem?_eq_getElem hj]
    exact hm01 _ (List.getElem_mem hj)
  have e2 := Marks.sum_take (mk := mk.take (j + 1)) fun m h => hm01 m (List.mem_of_mem_take h)
  have e3 : (mk.take (j + 1)).count 1 ≤ 6 := Nat.le_trans List.count_le_length (by rw [List.length_take]; lia)
  rw [e2]
  unfold InLong
  constructor
  · rcases e1 with e | e <;> rw [e] <;> decide
  · lia
theorem con_due {a cn : Addr} (W : DefAt C PW "_law_due" a .none .none) (Wn : DefAt C PW "_law_counts" cn .none .none) (hlen : Bi C "len" (.builtin "len")) (hran : Bi C "range" (.type "range")) (hsum : Bi C "sum" (.builtin "sum")) (hsor : Bi C "sorted" (.builtin "sorted"))
    {ms : List Nm} (h3 : ms.length = 3) (L : Letters ms) (J : Joins ms) {cs : List Int} (hcs : cs.length = 6) (Dk : DueOk (cs.map code)) {O : List Ob} (hO : noDicts O) :
    Con C (n + 5) (.ref a) O [.val (.list (intsT cs)), .val (.list (ms.map Nm.t))] [] fun d O' => RetD O O' d fun t => ∃ us, t = .list us ∧ us.Perm ((stageP (cs.map code) 3).map fun ls => .list (tkey ms (sortL ms ls))) ∧ Up us := by
  refine Con_fn ["cells", "names"] W hO (by simp) rfl (by decide +kernel) (fun pm cd doc => vs2 fun _ _ => rfl) ?_
  intro Ψr hΨr
  obtain ⟨fdn, bodyn, Fn⟩ := Wn.fn (by decide +kernel)
  generalize hw' : cs.map code = w at Dk hΨr
  have hw6 : w.length ≤ 6 := by rw [← hw', List.length_map]; (exact Nat.le_of_eq hcs)
  have hwo : ∀ l ∈ w, Lok l := fun l hl => by
    rw [← hw'] at hl
    obtain ⟨x, _, rfl⟩ := List.mem_map.mp hl
    exact code_ok x
  walk_at "m.body"
  refine WPs_cons ?_
  refine WPx_Assign (nameOk_of rfl) ?_ (by intro env eo; rfl)
  refine WPe_List ?_
  refine WPl_cons ?_ trivial
  refine WPe_List ?_
  walk_at "e"
  refine ⟨rfl, _, rfl, ?_⟩
  walk_at "e"
  refine ⟨rfl, _, rfl, ?_⟩
  walk_at "m.red"
  refine WPs_cons ?_
  refine WPx_For (.name (nameOk_of rfl)) ?_ (fun _ _ => rfl) (Nat.succ_pos _)
  refine WPe_CallB (.inr ⟨_, rfl⟩) (ns_of rfl) (WPe_builtin hran.1 hran.2 rfl ⟨rfl, ?_⟩ rfl)
  walk_at "m"
  refine ConB.con (F_range1 ?_)
  refine ⟨_, rangeT 0 1 3, rfl, itemsD_range (a := 0) (b := 3) (by (exact Nat.le_add_left _ _)) (by (exact Nat.le_add_left _ _)), ?_⟩
  refine ForP_rng (σ := List (List Lt)) (fun ds => [("due", .val (.list (ds.map (lsT ms)))), ("cells", .val (.list (intsT cs))), ("names", .val (.list (ms.map Nm.t)))]) (fun ds => [])
    (fun k m ds => k + m = 3 ∧ ds = stageP w k) 0 (fun _ => rfl) (fun _ => rfl) ?_ ?_ 0 3 [[]] _ ⟨rfl, rfl⟩ (Sub.cons rfl (Sub.cons rfl (Sub.cons rfl Sub.nil)))
  · rintro k m' ds ⟨hkm, hds⟩
    refine ⟨_, .name, fun Ψl hΨ1 => ?_⟩
    have hk3 : k < 3 := by lia
    have hmk := marks_ok hwo hw6 k
    have hmar : ∀ (f : Int → T), f = (fun x => T.int x) → True := fun _ _ => trivial
    refine WPs_cons ?_
    refine WPx_AssignComp (CompOk.name (by decide +kernel)) rfl ?_ (fun env eo => swaps_local eo rfl rfl rfl) (fun _ _ => rfl) (Nat.succ_pos _)
    walk_at "e"
    refine ⟨_, rfl, by rw [intsT_length, hcs, sizeLine_eq]; (exact Nat.le_add_left _ _), CompP_ofIf (α := Int) T.int (fun x => .int ((code x).2 : Nat)) (fun x => (code x).1 == k) cs [] (fun x hx => ⟨_, .name, ?_, fun hp => ?_⟩) ?_⟩
    · walk_at "e"
      refine B_mod (by decide) ?_
      rw [(code_eqs x).1]
      walk_at "e"
      refine C_eqI ⟨_, rfl, rfl, ?_⟩
      rw [Bool.eq_iff_iff, beq_iff_eq, beq_iff_eq]
      lia
    · walk_at "e"
      refine B_floordiv (by decide) (by decide) ?_
      walk_at "e"
      refine B_mod (by decide) ?_
      rw [(code_eqs x).2]
      exact ⟨rfl, rfl⟩
    have hmarks : [] ++ List.map (fun x => T.int ((code x).2 : Nat)) (List.filter (fun x => (code x).1 == k) cs) = intsT (marksP w k) := by
      unfold marksP intsT
      rw [← hw', List.filter_map, List.map_map, List.map_map]
      rfl
    rw [hmarks]
    generalize hmke : marksP w k = mk at hmk
    walk_at "asg"
    refine WPe_Call Fn (ns_of rfl) (by decide) (WPe_glob Wn.glob rfl ⟨rfl, ?_⟩ rfl)
    walk_at "e"
    refine ⟨rfl, ((con_counts Wn hlen hran hsum hmk (O := []) trivial).le (lek rfl : 0 + 3 ≤ n + 4)).retE ?_⟩
    walk_at "m.red"
    refine WPs_cons ?_
    refine WPx_Assign (nameOk_of rfl) ?_ (by intro env eo; rfl)
    refine WPe_ListOwn ?_
    walk_at "e"
    refine ⟨rfl, _, rfl, ?_⟩
    walk_at "m.red"
    have hcl7 : (countsP mk).length ≤ 7 := by rw [← hmke]; exact Dk.len k
    have hcnt : ∀ c ∈ countsP mk, 0 ≤ c ∧ c ≤ 100 := by rw [← hmke]; exact Dk.cnt k
    have hst := stage_ok hwo hw6 Dk k (by (exact Nat.le_of_lt hk3))
    have hfew : (widenP k mk ds).length ≤ 60 := by
      have := Dk.few (k + 1) (by (exact hk3))
      rw [stageP, hmke, ← hds] at this; exact this
    refine WPs_cons ?_
    refine WPx_For (.name (nameOk_of rfl)) ?_ (fun _ _ => rfl) (Nat.succ_pos _)
    walk_at "e"
    refine ⟨_, _, rfl, rfl, ?_⟩
    refine ForP_map (σ := List (List Lt)) (lsT ms) (fun gs => [("wider", .ref 0), ("counts", .val (.list (intsT (countsP mk)))), ("marks", .val (.list (intsT mk))), ("j", .val (.int k)), ("cells", .val (.list (intsT cs))), ("names", .val (.list (ms.map Nm.t)))]) (fun gs => [.list (gs.map (lsT ms))])
      (fun rest gs => (∀ ls ∈ rest, ls ∈ ds) ∧ gs ++ widenP k mk rest = widenP k mk ds) 1 (fun _ => rfl) (fun _ => rfl) ?_ ?_ ds [] _ ⟨fun _ h => h, rfl⟩ (Sub.cons rfl (Sub.cons rfl (Sub.cons rfl (Sub.cons rfl (Sub.cons rfl (Sub.cons rfl Sub.nil))))))
    · rintro r rest gs ⟨hin, hgs⟩
      refine ⟨_, .name, fun Ψl hΨ2 => ?_⟩
      refine WPs_cons ?_
      refine WPx_For (.name (nameOk_of rfl)) ?_ (fun _ _ => rfl) (Nat.succ_pos _)
      refine WPe_CallB (.inr ⟨_, rfl⟩) (ns_of rfl) (WPe_builtin hran.1 hran.2 rfl ⟨rfl, ?_⟩ rfl)
      walk_at "e"
      refine WPe_CallB (.inl ⟨_, rfl⟩) (ns_of rfl) (WPe_builtin hlen.1 hlen.2 rfl ⟨rfl, ?_⟩ rfl)
      walk_at "e"
      refine ConB.con (F_len rfl (by rw [intsT_length]; lia) ?_)
      rw [intsT_length]
      walk_at "e"
      refine ConB.con (F_range1 ?_)
      refine ⟨_, rangeT 0 1 (countsP mk).length, rfl, itemsD_rangeI (by lia), ?_⟩
      refine ForP_rng (σ := List (List Lt)) (fun g2 => [("rest", .val (lsT ms r)), ("wider", .ref 0), ("counts", .val (.list (intsT (countsP mk)))), ("marks", .val (.list (intsT mk))), ("j", .val (.int k)), ("cells", .val (.list (intsT cs))), ("names", .val (.list (ms.map Nm.t)))]) (fun g2 => [.list (g2.map (lsT ms))])
        (fun q m g2 => q + m = (countsP mk).length ∧ g2 ++ (List.range' q m).flatMap (fun left => List.replicate ((countsP mk).getD left 0).toNat (lettersP k mk r left)) = gs ++ widenP k mk [r]) 1 (fun _ => rfl) (fun _ => rfl) ?_ ?_ 0 (countsP mk).length gs _ ⟨by (exact Nat.add_comm _ _), ?_⟩ (Sub.cons rfl (Sub.cons rfl (Sub.cons rfl (Sub.cons rfl (Sub.cons rfl (Sub.cons rfl (Sub.cons rfl Sub.nil)))))))
      · rintro q m'' g2 ⟨hqm, hg2⟩
        refine ⟨_, .name, fun Ψl hΨ3 => ?_⟩
        have hro := hst r (by rw [← hds]; exact hin r (List.mem_cons_self ..))
        have hones : ones mk ≤ 6 := Nat.le_trans List.count_le_length hmk.1
        have hmk6 := hmk.1
        have hnm : (ms.map Nm.t)[((k : Nat) : Int).toNat]? = some (ms.getD k default).t := by
          rw [Int.toNat_natCast, List.getElem?_map, List.getD_eq_getElem?_getD, List.getElem?_eq_getElem (by lia)]; rfl
        have hcq : (intsT (countsP mk))[((q : Nat) : Int).toNat]? = some (.int ((countsP mk).getD q 0)) := by rw [Int.toNat_natCast]; exact intsT_get (by lia)
        have hc0 : 0 ≤ (countsP mk).getD q 0 ∧ (countsP mk).getD q 0 ≤ 100 := by
          rw [List.getD_eq_getElem?_getD, List.getElem?_eq_getElem (by lia)]
          exact hcnt _ (List.getElem_mem (by lia))
        generalize hcv : (countsP mk).getD q 0 = cv at hc0 hcq
        walk_at "asg"
        refine WPe_CallB (.inl ⟨_, rfl⟩) (ns_of rfl) (WPe_builtin hlen.1 hlen.2 rfl ⟨rfl, ?_⟩ rfl)
        walk_at "e"
        refine ConB.con (F_len rfl (by rw [intsT_length]; lia) ?_)
        rw [intsT_length]
        walk_at "e"
        refine WPe_CallB (.inl ⟨_, rfl⟩) (ns_of rfl) (WPe_builtin hsum.1 hsum.2 rfl ⟨rfl, ?_⟩ rfl)
        walk_at "e"
        refine ConB.con (F_sumMarks hmk (by (exact Nat.succ_pos _)) ?_)
        refine B_mul (.inl ⟨by decide, by decide⟩) ?_
        refine B_sub ?_
        walk_at "e"
        refine B_add ?_
        generalize hput : ((mk.length : Nat) : Int) - 2 * ((ones mk : Nat) : Int) + (q : Int) = put
        walk_at "m.red"
        walk_at "asg"
        refine WPe_List ?_
        walk_at "e"
        refine ⟨_, _, _, rfl, rfl, by lia, by lia, hnm, ?_⟩
        walk_at "e"
        refine ⟨_, _, _, rfl, rfl, by decide, by decide, rfl, ?_⟩
        walk_at "e"
        refine ⟨_, _, _, rfl, rfl, by decide, by decide, rfl, ?_⟩
        walk_at "e"
        refine ⟨rfl, _, rfl, ?_⟩
        walk_at "e"
        refine B_mulL (ts := [.list ((ms.getD k default).due 0)]) (by lia) (by lia) (by show 1 * _ ≤ _; lia) rfl ?_
        rw [repL_one]
        have hp12 : put.toNat ≤ 12 := by lia
        refine B_addL (ts := r.map fun l => .list (ldue ms l)) (us := List.replicate put.toNat (.list ((ms.getD k default).due 0))) (by rw [List.length_map, List.length_replicate, sizeLine_eq]; lia) rfl rfl ?_
        refine WPe_BinOp ?_
        refine WPe_List ?_
        walk_at "e"
        refine ⟨_, _, _, rfl, rfl, by lia, by lia, hnm, ?_⟩
        walk_at "e"
        refine ⟨_, _, _, rfl, rfl, by decide, by decide, rfl, ?_⟩
        walk_at "e"
        refine ⟨_, _, _, rfl, rfl, by decide, by decide, rfl, ?_⟩
        walk_at "e"
        refine ⟨rfl, _, rfl, ?_⟩
        walk_at "e"
        refine B_mulL (ts := [.list ((ms.getD k default).due 1)]) (by lia) (by lia) (by show 1 * _ ≤ _; lia) rfl ?_
        rw [repL_one, Int.toNat_natCast]
        refine B_addL (ts := (r.map fun l => T.list (ldue ms l)) ++ List.replicate put.toNat (.list ((ms.getD k default).due 0))) (us := List.replicate q (.list ((ms.getD k default).due 1))) (by rw [List.length_append, List.length_map, List.length_replicate, List.length_replicate, sizeLine_eq]; lia) rfl rfl ?_
        have hlet : T.list ((r.map fun l => T.list (ldue ms l)) ++ List.replicate put.toNat (.list ((ms.getD k default).due 0)) ++ List.replicate q (.list ((ms.getD k default).due 1))) = lsT ms (lettersP k mk r q) := by
          unfold lsT lettersP
          rw [hput, List.map_append, List.map_append, List.map_replicate, List.map_replicate]
          rfl
        rw [hlet]
        refine WPs_cons ?_
        refine WPx_Expr ?_ (by intro env eo; rfl)
        walk_at "e"
        refine WPe_CallM (fun _ _ => rfl) (ns_of rfl) (by decide) rfl F.plainAttrs_list F.slot_list_extend F.type_list_extend ?_
        walk_at "e"
        refine ⟨tyList rfl, ?_⟩
        refine WPl_cons ?_ trivial
        refine WPe_BinOp ?_
        refine WPe_List ?_
        walk_at "e"
        refine ⟨rfl, _, rfl, ?_⟩
        walk_at "e"
        refine ⟨_, _, _, rfl, rfl, by lia, by lia, hcq, ?_⟩
        refine B_mulL (ts := [lsT ms (lettersP k mk r q)]) (by lia) (by lia) (by show 1 * _ ≤ _; lia) rfl ?_
        rw [repL_one]
        walk_at "e"
        have hg2l : g2.length ≤ 60 := by
          have h1 := congrArg List.length hg2
          have h2 := congrArg List.length hgs
          rw [List.length_append, List.length_append] at h1
          have e : widenP k mk (r :: rest) = widenP k mk [r] ++ widenP k mk rest := by unfold widenP; rw [List.flatMap_cons, List.flatMap_cons, List.flatMap_nil, List.append_nil]
          rw [e, List.length_append, List.length_append] at h2
          lia
        refine ConB.con (F_extendL (us := List.replicate cv.toNat (lsT ms (lettersP k mk r q))) rfl rfl (by intro h; cases h) (by rw [List.length_map, List.length_replicate, sizeLine_eq]; lia) ?_)
        walk_at "e"
        refine ⟨rfl, ?_⟩
        refine WPs_nil ?_
        refine (hΨ3 _ _ ?_).1
        refine ⟨g2 ++ List.replicate cv.toNat (lettersP k mk r q), [], ⟨by lia, ?_⟩, Sub.cons rfl (Sub.cons rfl (Sub.cons rfl (Sub.cons rfl (Sub.cons rfl (Sub.cons rfl (Sub.cons rfl Sub.nil)))))), by rw [List.map_append, List.map_replicate]; rfl⟩
        rw [← hg2, List.range'_succ, List.flatMap_cons, List.append_assoc, hcv]
      · rintro q g2 ρ ⟨hqm, hg2⟩ hsub
        have hg2' : g2 = gs ++ widenP k mk [r] := by rw [← hg2]; simp
        subst hg2'
        refine WPs_nil ?_
        refine (hΨ2 _ _ ?_).1
        refine ⟨gs ++ widenP k mk [r], [], ⟨fun ls h => hin ls (List.mem_cons_of_mem _ h), ?_⟩, Sub.trans ?_ hsub, rfl⟩
        · rw [← hgs, List.append_assoc]; congr 1
          unfold widenP
          rw [List.flatMap_cons, List.flatMap_cons, List.flatMap_nil, List.append_nil]
        · exact Sub.cons rfl (Sub.cons rfl (Sub.cons rfl (Sub.cons rfl (Sub.cons rfl (Sub.cons rfl Sub.nil)))))
      · unfold widenP
        rw [List.flatMap_cons, List.flatMap_nil, List.append_nil, List.range_eq_range']
    · rintro gs ρ ⟨hin, hgs⟩ hsub
      have hgs' : gs = widenP k mk ds := by rw [← hgs]; simp [widenP]
      subst hgs'
      refine WPs.sub (WPs_freeze (i := 0) rfl ?_) hsub
      walk_at "asg"
      refine WPs_nil ?_
      refine (hΨ1 _ _ ?_).1
      refine ⟨widenP k mk ds, [.gone], ⟨by lia, ?_⟩, Sub.cons rfl (Sub.cons rfl (Sub.cons rfl Sub.nil)), rfl⟩
      rw [stageP, hmke, ← hds]
  · rintro k ds ρ ⟨hkm, hds⟩ hsub
    have hk3 : k = 3 := by omega
    subst hk3
    refine WPs.sub ?_ hsub
    walk_at "m"
    have hst := stage_ok hwo hw6 Dk 3 (by (exact Nat.le_refl _))
    have hfew := Dk.few 3 (by lia)
    rw [← hds] at hst hfew
    refine WPe_CallB (.inl ⟨_, rfl⟩) (ns_of rfl) (WPe_builtin hsor.1 hsor.2 rfl ⟨rfl, ?_⟩ rfl)
    refine WPl_cons ?_ trivial
    refine WPe_ListComp (CompOk.name (by decide +kernel)) ?_ (fun _ _ => rfl) (Nat.succ_pos _)
    walk_at "e"
    refine ⟨_, rfl, by rw [List.length_map, sizeLine_eq]; (exact Nat.le_trans hfew (Nat.le_add_left _ _)), CompP_of (lsT ms) (fun ls => .list (tkey ms (sortL ms ls))) ds [] (fun ls hls => ⟨_, .name, ?_⟩) ?_⟩
    · obtain ⟨hlo, hll⟩ := hst ls hls
      refine WPe_Comp2 (CompOk.pair (by decide +kernel)) (nameOk_of rfl) (nameOk_of rfl) (by decide) (by decide) rfl rfl (by decide) ?_ (fun _ _ => rfl) (Nat.succ_pos _)
      refine WPe_CallB (.inl ⟨_, rfl⟩) (ns_of rfl) (WPe_builtin hsor.1 hsor.2 rfl ⟨rfl, ?_⟩ rfl)
      walk_at "e"
      refine ConB.con (F_sorted (ts := ls.map fun l => .list (ldue ms l)) rfl (by rw [List.length_map]; lia) (fun t ht => ?_) ?_ ?_ (fun t ht u hu => ?_) fun us hp hu => ?_)
      · obtain ⟨l, _, rfl⟩ := List.mem_map.mp ht
        exact ⟨_, rfl⟩
      · exact datTs_map fun l hl => (L.dat l (hlo l hl)).1
      · have := depTs_map (f := ldue ms) (k := 2) (l := ls) fun l hl => (L.dat l (hlo l hl)).2
        (exact Nat.le_trans this (Nat.le_add_left _ _))
      · obtain ⟨l, hl, rfl⟩ := List.mem_map.mp ht
        obtain ⟨l', hl', rfl⟩ := List.mem_map.mp hu
        rw [cmpT]; exact L.cmp l (hlo l hl) l' (hlo l' hl')
      · have hus := sorted_is L hlo hp hu
        subst hus
        refine ⟨(sortL ms ls).map (ldue ms), by rw [List.map_map]; rfl, ?_, rfl, ?_⟩
        · have h4 : ∀ l, (ldue ms l).length ≤ 4 := fun l => by
            show (Nm.due _ _).length ≤ 4
            unfold Nm.due
            split <;> simp
          have h5 : (List.map (ldue ms) (sortL ms ls)).flatten.length ≤ 4 * (sortL ms ls).length := by
            rw [← List.flatMap_def]
            exact flatMap_few h4 _
          rw [sortL_perm.length_eq] at h5
          rw [sizeLine_eq]; lia
        · show D.val (.list (List.map (ldue ms) (sortL ms ls)).flatten) = _
          rw [← List.flatMap_def]; rfl
    · rw [List.nil_append]
      walk_at "e"
      have hso : ∀ ls ∈ ds, ∀ l ∈ sortL ms ls, Lok l := fun ls hls l hl => (hst ls hls).1 l (sortL_perm.mem_iff.mp hl)
      refine ConB.con (F_sorted rfl (by rw [List.length_map]; lia) (fun t ht => ?_) ?_ ?_ (fun t ht u hu => ?_) fun us hp hu => ?_)
      · obtain ⟨l, _, rfl⟩ := List.mem_map.mp ht
        exact ⟨_, rfl⟩
      · exact datTs_map fun ls hls => (J.dat _ (hso ls hls)).1
      · have := depTs_map (f := fun ls => tkey ms (sortL ms ls)) (k := 2) (l := ds) fun ls hls => (J.dat _ (hso ls hls)).2
        (exact Nat.le_trans this (Nat.le_add_left _ _))
      · obtain ⟨l, hl, rfl⟩ := List.mem_map.mp ht
        obtain ⟨l', hl', rfl⟩ := List.mem_map.mp hu
        rw [cmpT]; exact J.cmp _ (hso l hl) _ (hso l' hl')
      · rw [hds] at hp
        exact hΨr _ _ ⟨us, rfl, hp, hu⟩
end
end

section
noncomputable def termsP (ms : List Nm) (w : List Lt) : List (List Lt) := w.foldl (growP ms) [[]]
noncomputable def midP (ms : List Nm) (w : List Lt) : List It := shelfP ms (termsP ms w) 0 []
structure LawP (ms : List Nm) (w : List Lt) : Prop where
  few : ∀ k, (termsP ms (w.take k)).length ≤ 1000 ∧ ∀ t ∈ termsP ms (w.take k), TermOk ms t
  due : DueOk w
  midOk : ∀ p ∈ midP ms w, ∀ l ∈ p.1, Lok l
  adj : ∀ i p q, (midP ms w)[i]? = some p → (midP ms w)[i + 1]? = some q → tkey ms p.1 = tkey ms q.1 → q.2 < p.2
  eq : ∀ us : List T, us.Perm ((stageP w 3).map fun ls => .list (tkey ms (sortL ms ls))) → Up us → us = (midP ms w).map fun p => .list (tkey ms p.1)
structure W1 (C : Cx) (bi ins dt kd dt' kd' cv pt tb sub pr ce na gr fi sh cn du : Addr) : Prop where
  b : BisW C PW bi ins dt kd dt' kd'
  c : CvW C PW cv pt tb
  s : SubW C PW sub
  pr : DefAt C PW "_law_pairs" pr .none .none
  ce : DefAt C PW "_law_cells" ce .none .none
  na : DefAt C PW "_law_names" na .none .none
  gr : DefAt C PW "_law_grown" gr .none .none
  fi : DefAt C PW "_law_first" fi .none .none
  sh : DefAt C PW "_law_shelf" sh .none .none
  cn : DefAt C PW "_law_counts" cn .none .none
  du : DefAt C PW "_law_due" du .none .none
  len : Bi C "len" (.builtin "len")
  ran : Bi C "range" (.type "range")
  str : Bi C "str" (.type "str")
  int : Bi C "int" (.type "int")
  list : Bi C "list" (.type "list")
  sum : Bi C "sum" (.builtin "sum")
  sor : Bi C "sorted" (.builtin "sorted")
theorem shelfP_length {ms : List Nm} : ∀ {ts : List (List Lt)} {k : Nat} {mid : List It}, (shelfP ms ts k mid).length = mid.length + ts.length
  | [], _, _ => rfl
  | t :: ts, k, mid => by
    show (shelfP ms ts (k + 1) (insW (ilt ms) (t, k) mid)).length = _
    rw [shelfP_length, insW_length, List.length_cons]; (exact Nat.add_right_comm _ _ _)
theorem itemsD_range2 {O : List Ob} {a b : Nat} (h : b < 2 ^ 61) (ha : a < 2 ^ 61) : itemsD O (.val (.range a b 1)) = some (rangeT a 1 (b - a)) := by
  rw [itemsD_one (by omega) (by omega) (by omega) (by omega)]
  congr 2
  omega
theorem shelf_at {ms : List Nm} {mid : List It} {i : Nat} {p : It} (h : mid[i]? = some p) : (shelfT ms mid)[i + 1]? = some (itemT ms p) := by
  unfold shelfT
  have hi := (List.getElem?_eq_some_iff.mp h).1
  rw [List.getElem?_cons_succ, List.getElem?_append_left (by rw [List.length_map]; exact hi), List.getElem?_map, h]; rfl
theorem datTs_app : ∀ a b : List T, datTs a = true → datTs b = true → datTs (a ++ b) = true
  | [], b, _, hb => hb
  | t :: a, b, ha, hb => by
    rw [datTs, Bool.and_eq_true] at ha
    rw [List.cons_append, datTs, ha.1, datTs_app a b ha.2 hb]; rfl
theorem depTs_app : ∀ a b : List T, depTs (a ++ b) ≤ max (depTs a) (depTs b)
  | [], b => Nat.le_max_right ..
  | t :: a, b => by
    rw [List.cons_append, depTs, depTs]
    exact Nat.max_le.mpr ⟨Nat.le_trans (Nat.le_max_left ..) (Nat.le_max_left ..), Nat.le_trans (depTs_app a b) (Nat.max_le.mpr ⟨Nat.le_trans (Nat.le_max_right ..) (Nat.le_max_left ..), Nat.le_max_right ..⟩)⟩

section
variable {C : Cx} {n : Nat}
theorem con_law {al bi ins dt kd dt' kd' cv pt tb sub pr ce na gr fi sh cn du : Addr} (Wl : DefAt C PW "law" al .none .none) (W : W1 C bi ins dt kd dt' kd' cv pt tb sub pr ce na gr fi sh cn du)
    (hL : ∀ ms, Names ms → Letters ms ∧ Joins ms) (hP : ∀ ms, Names ms → ∀ w : List Lt, w.length = 6 → (∀ l ∈ w, Lok l) → LawP ms w) {ns : List Int} (hns : ns.length ≤ 63) :
    Con C (n + 10) (.ref al) [] [.val (.list (intsT ns))] [] fun d O' => RetD [] O' d fun t => t = .bool true := by
  refine Con_fn ["script"] Wl trivial (by simp) rfl (by decide +kernel) (fun pm cd doc => vs1 fun _ => rfl) ?_
  intro Ψr hΨr
  obtain ⟨f1, b1, F1⟩ := W.ce.fn (by decide +kernel)
  obtain ⟨f2, b2, F2⟩ := W.na.fn (by decide +kernel)
  obtain ⟨f3, b3, F3⟩ := W.gr.fn (by decide +kernel)
  obtain ⟨f4, b4, F4⟩ := W.sh.fn (by decide +kernel)
  obtain ⟨f5, b5, F5⟩ := W.du.fn (by decide +kernel)
  walk_at "m.body"
  walk_at "asg"
  refine WPe_Call F1 (ns_of rfl) (by decide) (WPe_glob W.ce.glob rfl ⟨rfl, ?_⟩ rfl)
  walk_at "e"
  refine ⟨rfl, ((con_cells W.ce W.len W.ran (O := []) trivial hns).le (lek rfl : 0 + 2 ≤ n + 9)).ret ?_⟩
  rintro t ⟨cs, hcs, rfl⟩
  walk_at "m.red"
  walk_at "asg"
  refine WPe_Call F2 (ns_of rfl) (by decide) (WPe_glob W.na.glob rfl ⟨rfl, ?_⟩ rfl)
  walk_at "e"
  refine ⟨rfl, ((con_names W.na W.pr W.len W.ran W.str (O := []) trivial hcs).le (lek rfl : 0 + 3 ≤ n + 9)).ret ?_⟩
  rintro t ⟨ms, hms, rfl⟩
  walk_at "m.red"
  obtain ⟨L, J⟩ := hL ms hms
  have h3 := hms.three
  have hwo : ∀ l ∈ cs.map code, Lok l := fun l hl => by
    obtain ⟨x, _, rfl⟩ := List.mem_map.mp hl
    exact code_ok x
  have P := hP ms hms (cs.map code) (by rw [List.length_map]; exact hcs) hwo
  refine WPs_cons ?_
  refine WPx_Assign (nameOk_of rfl) ?_ (by intro env eo; rfl)
  refine WPe_List ?_
  refine WPl_cons ?_ trivial
  refine WPe_List ?_
  walk_at "e"
  refine ⟨rfl, _, rfl, ?_⟩
  walk_at "e"
  refine ⟨rfl, _, rfl, ?_⟩
  walk_at "m.red"
  refine WPs_cons ?_
  refine WPx_For (.name (nameOk_of rfl)) ?_ (fun _ _ => rfl) (Nat.succ_pos _)
  walk_at "e"
  refine ⟨_, _, rfl, rfl, ?_⟩
  refine ForP_st (σ := List (List Lt)) (fun ts => [("terms", .val (.list (ts.map (termT ms)))), ("names", .val (.list (ms.map Nm.t))), ("cells", .val (.list (intsT cs)))]) (fun ts => [])
    (fun us ts => ∃ k : Nat, us = intsT (cs.drop k) ∧ ts = termsP ms ((cs.map code).take k)) 0 (fun _ => rfl) (fun _ => rfl) ?_ ?_ _ [[]] _ ⟨0, rfl, rfl⟩ (Sub.cons rfl (Sub.cons rfl (Sub.cons rfl Sub.nil)))
  · rintro u us ts ⟨k, hus, hts⟩
    cases hd : cs.drop k with
    | nil => rw [hd] at hus; cases hus
    | cons x r =>
    rw [hd, intsT, List.map_cons] at hus
    cases hus
    have hxk : cs[k]? = some x := by
      have : (cs.drop k)[0]? = some x := by rw [hd]; rfl
      rw [List.getElem?_drop] at this
      exact this
    have hr : cs.drop (k + 1) = r := by
      rw [← List.drop_drop, hd]; rfl
    obtain ⟨hf1, hf2⟩ := P.few k
    rw [← hts] at hf1 hf2
    have hnext : growP ms ts (code x) = termsP ms ((cs.map code).take (k + 1)) := by
      rw [hts]
      unfold termsP
      rw [List.take_add_one, List.foldl_append, List.getElem?_map, hxk]; rfl
    have hco := code_ok x
    refine ⟨_, .name, fun Ψl hΨl => ?_⟩
    walk_at "asg"
    refine WPe_Call F3 (ns_of rfl) (by decide) (WPe_glob W.gr.glob rfl ⟨rfl, ?_⟩ rfl)
    walk_at "e"
    refine B_mod (by decide) ?_
    rw [(code_eqs x).1]
    have hnm : (ms.map Nm.t)[(((code x).1 : Nat) : Int).toNat]? = some (ms.getD (code x).1 default).t := by
      have := hco.1
      rw [Int.toNat_natCast, List.getElem?_map, List.getD_eq_getElem?_getD, List.getElem?_eq_getElem (by lia)]; rfl
    refine ⟨_, _, _, rfl, rfl, by lia, by have := hco.1; lia, hnm, ?_⟩
    walk_at "e"
    refine B_floordiv (by decide) (by decide) ?_
    walk_at "e"
    refine B_mod (by decide) ?_
    rw [(code_eqs x).2]
    walk_at "e"
    refine ⟨rfl, ((con_grown W.gr W.b W.c W.s W.len W.ran W.str W.int W.list L h3 hco hf2 (by rw [hnext]; exact Nat.le_trans (P.few (k + 1)).1 (by (exact Nat.le_add_left _ _))) (O := []) trivial).le (lek rfl : 0 + 7 ≤ n + 9)).retE ?_⟩
    refine WPs_nil ?_
    refine (hΨl _ _ ?_).1
    exact ⟨growP ms ts (code x), [], ⟨k + 1, by rw [hr]; rfl, hnext⟩, Sub.cons rfl (Sub.cons rfl (Sub.cons rfl Sub.nil)), rfl⟩
  · rintro ts ρ ⟨k, hus, hts⟩ hsub
    have hdr : cs.drop k = [] := by
      cases hd : cs.drop k with
      | nil => rfl
      | cons _ _ => rw [hd] at hus; cases hus
    have hk : 6 ≤ k := by
      have := congrArg List.length hdr
      rw [List.length_drop, hcs] at this
      simp at this; lia
    have hte : ts = termsP ms (cs.map code) := by rw [hts, List.take_of_length_le (by rw [List.length_map]; lia)]
    obtain ⟨hf1, hf2⟩ := P.few 6
    rw [List.take_of_length_le (by rw [List.length_map]; lia), ← hte] at hf1 hf2
    generalize hw : cs.map code = w at P hte hwo
    refine WPs.sub ?_ hsub
    walk_at "asg"
    refine WPe_Call F4 (ns_of rfl) (by decide) (WPe_glob W.sh.glob rfl ⟨rfl, ?_⟩ rfl)
    walk_at "e"
    refine ⟨rfl, ((con_shelf W.sh W.b W.c W.fi W.len W.ran J hf2 (by (exact Nat.le_trans hf1 (Nat.le_add_left _ _))) (O := []) trivial).le (lek rfl : 0 + 7 ≤ n + 9)).retE ?_⟩
    have hmid : shelfP ms ts 0 [] = midP ms w := by rw [hte]; rfl
    rw [hmid]
    have hml : (midP ms w).length = ts.length := by rw [← hmid, shelfP_length]; simp
    have hshl : (shelfT ms (midP ms w)).length = (midP ms w).length + 2 := by
      unfold shelfT
      rw [List.length_cons, List.length_append, List.length_map]; rfl
    have hadj := P.adj
    have hmok := P.midOk
    have heq := P.eq
    clear hmid
    generalize midP ms w = mid at *
    refine WPs_cons ?_
    refine WPx_For (.name (nameOk_of rfl)) ?_ (fun _ _ => rfl) (Nat.succ_pos _)
    refine WPe_CallB (.inr ⟨_, rfl⟩) (ns_of rfl) (WPe_builtin W.ran.1 W.ran.2 rfl ⟨rfl, ?_⟩ rfl)
    walk_at "e"
    refine WPe_CallB (.inl ⟨_, rfl⟩) (ns_of rfl) (WPe_builtin W.len.1 W.len.2 rfl ⟨rfl, ?_⟩ rfl)
    walk_at "e"
    refine ConB.con (F_len rfl (by rw [hshl]; lia) ?_)
    rw [hshl]
    walk_at "e"
    refine B_sub ?_
    have e1 : (((mid.length + 2 : Nat) : Int) - 1) = ((mid.length + 1 : Nat) : Int) := by lia
    rw [e1]
    walk_at "e"
    refine ConB.con (F_range2 ?_)
    refine ⟨_, rangeT (2 : Nat) 1 (mid.length + 1 - 2), rfl, itemsD_range2 (a := 2) (b := mid.length + 1) (by lia) (by (exact Nat.le_add_left _ _)), ?_⟩
    refine ForP_rng (σ := Unit) (fun _ => [("shelf", .val (.list (shelfT ms mid))), ("names", .val (.list (ms.map Nm.t))), ("cells", .val (.list (intsT cs)))]) (fun _ => [])
      (fun k m _ => 2 ≤ k ∧ (m = 0 ∨ k + m ≤ mid.length + 1)) 0 (fun _ => rfl) (fun _ => rfl) ?_ ?_ 2 (mid.length + 1 - 2) () _ ?_ (Sub.cons rfl (Sub.cons rfl (Sub.cons rfl Sub.nil)))
    · rintro k m' _ ⟨hk2, hkm⟩
      refine ⟨_, .name, fun Ψl hΨm => ?_⟩
      obtain ⟨i, rfl⟩ : ∃ i, k = i + 2 := ⟨k - 2, by lia⟩
      obtain ⟨p, hp⟩ : ∃ p, mid[i]? = some p := ⟨mid[i], List.getElem?_eq_getElem (by omega)⟩
      obtain ⟨q, hq⟩ : ∃ q, mid[i + 1]? = some q := ⟨mid[i + 1], List.getElem?_eq_getElem (by omega)⟩
      have hpo := hmok p (List.mem_of_getElem? hp)
      have hqo := hmok q (List.mem_of_getElem? hq)
      have ei : (((i + 2 : Nat) : Int) - 1) = ((i + 1 : Nat) : Int) := by lia
      have hgp : (shelfT ms mid)[(((i + 2 : Nat) : Int) - 1).toNat]? = some (itemT ms p) := by rw [ei, Int.toNat_natCast]; exact shelf_at hp
      have hgq : (shelfT ms mid)[(((i + 2 : Nat) : Int)).toNat]? = some (itemT ms q) := by rw [Int.toNat_natCast]; exact shelf_at hq
      refine WPs_cons ?_
      refine WPx_If ?_
      refine WPb_and ?_
      refine WPb_Compare ?_ rfl
      walk_at "e"
      refine B_sub ⟨_, _, _, rfl, rfl, by lia, by lia, hgp, ?_⟩
      walk_at "e"
      refine ⟨_, _, _, rfl, rfl, by decide, by decide, rfl, ?_⟩
      walk_at "e"
      refine ⟨_, _, _, rfl, rfl, by lia, by lia, hgq, ?_⟩
      walk_at "e"
      refine ⟨_, _, _, rfl, rfl, by decide, by decide, rfl, ?_⟩
      have hdp := J.dat p.1 hpo
      have hdq := J.dat q.1 hqo
      refine C_eqL hdp.1 hdq.1 (by lia) ⟨_, rfl, ?_⟩
      have done : StP (σ := Unit) (fun _ => [("shelf", .val (.list (shelfT ms mid))), ("names", .val (.list (ms.map Nm.t))), ("cells", .val (.list (intsT cs)))]) (fun _ => []) (fun _ => 2 ≤ i + 2 + 1 ∧ (m' = 0 ∨ i + 2 + 1 + m' ≤ mid.length + 1))
          [("k", .val (.int ((i + 2 : Nat) : Int))), ("shelf", .val (.list (shelfT ms mid))), ("names", .val (.list (ms.map Nm.t))), ("cells", .val (.list (intsT cs)))] [] :=
        ⟨(), [], ⟨by (exact Nat.le_add_left _ _), by lia⟩, Sub.cons rfl (Sub.cons rfl (Sub.cons rfl Sub.nil)), rfl⟩
      cases he : eqTs (tkey ms p.1) (tkey ms q.1) with
      | false =>
        rw [if_neg Bool.false_ne_true, if_neg Bool.false_ne_true]
        refine WPs_nil ?_
        refine WPs_nil ?_
        refine (hΨm _ _ ?_).1
        exact done
      | true =>
        have hlt := hadj i p q hp hq (eqTs_eq _ _ he)
        rw [if_pos rfl]
        refine WPb_Compare ?_ rfl
        walk_at "e"
        refine B_sub ⟨_, _, _, rfl, rfl, by lia, by lia, hgp, ?_⟩
        walk_at "e"
        refine ⟨_, _, _, rfl, rfl, by decide, by decide, rfl, ?_⟩
        walk_at "e"
        refine ⟨_, _, _, rfl, rfl, by lia, by lia, hgq, ?_⟩
        walk_at "e"
        refine ⟨_, _, _, rfl, rfl, by decide, by decide, rfl, ?_⟩
        refine C_ltI (.neg (by simp; (exact Nat.le_of_lt hlt)) ?_)
        refine WPs_nil ?_
        refine WPs_nil ?_
        refine (hΨm _ _ ?_).1
        exact done
    · rintro k' _ ρ' _ hsub'
      refine WPs.sub ?_ hsub'
      walk_at "m"
      refine WPe_ListComp (CompOk.name (by decide +kernel)) ?_ (fun _ _ => rfl) (Nat.succ_pos _)
      walk_at "e"
      have hst : shelfT ms mid = ([.list [.list [.int 300], .int 0]] ++ mid.map (itemT ms) ++ [.list [.list [.int (-1)], .int 0]]) := by unfold shelfT; simp
      refine ⟨shelfT ms mid, rfl, by rw [hshl, sizeLine_eq]; lia, CompP_map headT _ [] (fun t ht => ⟨_, .name, ?_⟩) ?_⟩
      · have hform : ∃ u v, t = .list [u, v] := by
          rw [hst] at ht
          rcases List.mem_append.mp ht with ht | ht
          · rcases List.mem_append.mp ht with ht | ht
            · exact ⟨_, _, by simpa using ht⟩
            · obtain ⟨p, _, rfl⟩ := List.mem_map.mp ht
              exact ⟨_, _, rfl⟩
          · exact ⟨_, _, by simpa using ht⟩
        obtain ⟨u, v, rfl⟩ := hform
        walk_at "e"
        exact ⟨_, _, _, rfl, rfl, by decide, by decide, rfl, rfl, rfl⟩
      rw [List.nil_append]
      have hkeys : (shelfT ms mid).map headT = [.list [.int 300]] ++ (mid.map fun p => .list (tkey ms p.1)) ++ [.list [.int (-1)]] := by
        rw [hst, List.map_append, List.map_append, List.map_map]; rfl
      rw [hkeys]
      refine WPe_BinOp ?_
      refine WPe_BinOp ?_
      refine WPe_List ?_
      refine WPl_cons ?_ trivial
      refine WPe_List ?_
      walk_at "e"
      refine ⟨rfl, _, rfl, ?_⟩
      walk_at "e"
      refine ⟨rfl, _, rfl, ?_⟩
      refine WPe_Call F5 (ns_of rfl) (by decide) (WPe_glob W.du.glob rfl ⟨rfl, ?_⟩ rfl)
      walk_at "e"
      refine ⟨rfl, ((con_due W.du W.cn W.len W.ran W.sum W.sor h3 L J hcs (by rw [hw]; exact P.due) (O := []) trivial).le (lek rfl : 0 + 5 ≤ n + 9)).ret ?_⟩
      rintro t ⟨us, rfl, hp, hu⟩
      rw [hw] at hp
      have hus' := heq us hp hu
      subst hus'
      refine B_addL (ts := [.list [.int 300]]) (us := mid.map fun p => .list (tkey ms p.1)) (by rw [List.length_map, sizeLine_eq]; show 1 + _ ≤ _; lia) rfl rfl ?_
      refine WPe_List ?_
      refine WPl_cons ?_ trivial
      refine WPe_List ?_
      walk_at "e"
      refine U_neg ?_
      walk_at "e"
      refine ⟨rfl, _, rfl, ?_⟩
      walk_at "e"
      refine ⟨rfl, _, rfl, ?_⟩
      refine B_addL (ts := [.list [.int 300]] ++ mid.map fun p => .list (tkey ms p.1)) (us := [.list [.int (-1)]]) (by rw [List.length_append, List.length_map, sizeLine_eq]; show 1 + _ + 1 ≤ _; lia) rfl rfl ?_
      have hdm : datTs (mid.map fun p => T.list (tkey ms p.1)) = true := datTs_map fun p hp => (J.dat p.1 (hmok p hp)).1
      have hpm : depTs (mid.map fun p => T.list (tkey ms p.1)) ≤ 3 := depTs_map (f := fun p : It => tkey ms p.1) (k := 2) fun p hp => (J.dat p.1 (hmok p hp)).2
      have hda : datTs ([.list [.int 300]] ++ (mid.map fun p => T.list (tkey ms p.1)) ++ [.list [.int (-1)]]) = true := datTs_app _ _ (datTs_app _ _ rfl hdm) rfl
      have hpa : depTs ([.list [.int 300]] ++ (mid.map fun p => T.list (tkey ms p.1)) ++ [.list [.int (-1)]]) ≤ 40 := by
        have h1 := depTs_app ([.list [.int 300]] ++ (mid.map fun p => T.list (tkey ms p.1))) [.list [.int (-1)]]
        have h2 := depTs_app [.list [.int 300]] (mid.map fun p => T.list (tkey ms p.1))
        have h4 : depTs [T.list [.int 300]] = 1 := rfl
        have h5 : depTs [T.list [.int (-1)]] = 1 := rfl
        lia
      refine C_eqL hda hda hpa ?_
      have hb := eqTs_refl _ hda
      simp only [List.cons_append, List.nil_append] at hb ⊢
      rw [hb]
      exact hΨr _ _ rfl
    · exact ⟨by (exact Nat.le_refl _), by lia⟩
end
end

end Mine
end

section
set_option Elab.async false
set_option maxRecDepth 100000
set_option maxHeartbeats 1000000
set_option linter.unusedVariables false
namespace Mine
open PySem

noncomputable def isW (c : Nat) : Bool := !isDig c && !isSgn c
noncomputable def toStr (l : List Nat) : Str := ⟨l.toArray⟩
noncomputable def lexL : Nat → List Nat → List (List Nat)
  | 0, l => [l]
  | n + 1, l => match l.dropWhile isW with
    | [] => [l]
    | c :: r => if isDig c then l.takeWhile isW :: (c :: r).takeWhile isDig :: lexL n ((c :: r).dropWhile isDig) else l.takeWhile isW :: [c] :: lexL n r

theorem getD_drop {text : Array Nat} {p : Nat} : text.getD p 0 = (text.toList.drop p).headD 0 := by
  rw [Array.getD_eq_getD_getElem?, List.headD_eq_head?_getD, List.head?_drop, Array.getElem?_toList]
theorem digits_list {text : Array Nat} : ∀ (n p : Nat), (text.toList.drop p).length ≤ n → digits text n p = ((text.toList.drop p).takeWhile isDig).length
  | 0, p, h => by
    have : text.toList.drop p = [] := List.eq_nil_of_length_eq_zero (by (first | exact Nat.eq_zero_of_le_zero h | lia))
    rw [this]; rfl
  | n + 1, p, h => by
    unfold digits
    rw [getD_drop]
    cases e : text.toList.drop p with
    | nil => rfl
    | cons c r =>
      have e2 : text.toList.drop (p + 1) = r := by rw [← List.drop_drop, e]; rfl
      rw [e] at h
      rw [digits_list n (p + 1) (by rw [e2]; simp at h; omega), e2]
      show (if isDig c = true then _ else _) = _
      rw [List.takeWhile_cons]
      split <;> simp
theorem find_list {text : Array Nat} (hs : text.size ≤ 100000) : ∀ (n s : Nat), (text.toList.drop s).length < n → findFrom text text.size n s = match (text.toList.drop s).dropWhile isW with
    | [] => none
    | c :: r => some (s + ((text.toList.drop s).takeWhile isW).length, s + ((text.toList.drop s).takeWhile isW).length + if isDig c then ((c :: r).takeWhile isDig).length else 1)
  | 0, s, h => by lia
  | n + 1, s, h => by
    unfold findFrom
    have hl : (text.toList.drop s).length = text.size - s := by rw [List.length_drop, Array.length_toList]
    cases e : text.toList.drop s with
    | nil =>
      rw [e] at hl
      have : ¬ s < text.size := by simp at hl; (first | exact fun zz => Nat.not_le_of_lt zz (Nat.le_of_sub_eq_zero hl.symm) | lia)
      rw [if_neg this]; rfl
    | cons c r =>
      have hlt : s < text.size := by rw [e] at hl; simp at hl; (first | exact Nat.lt_of_sub_eq_succ hl.symm | omega)
      have e2 : text.toList.drop (s + 1) = r := by rw [← List.drop_drop, e]; rfl
      rw [if_pos hlt, getD_drop, e]
      show (if isDig c = true then _ else if isSgn c = true then _ else _) = _
      cases hd : isDig c with
      | true =>
        have hw : isW c = false := by unfold isW; rw [hd]; rfl
        rw [if_pos rfl, List.dropWhile_cons, List.takeWhile_cons, hw, digits_list _ _ (by rw [hl, Nat.min_eq_right (by (first | exact Nat.le_trans (Nat.sub_le _ _) (zLe hs rfl) | lia))]; exact Nat.le_refl _), e]
        simp [hd]
      | false =>
        rw [if_neg Bool.false_ne_true]
        cases hg : isSgn c with
        | true =>
          have hw : isW c = false := by unfold isW; rw [hd, hg]; rfl
          rw [if_pos rfl, List.dropWhile_cons, List.takeWhile_cons, hw]
          simp [hd]
        | false =>
          have hw : isW c = true := by unfold isW; rw [hd, hg]; rfl
          rw [if_neg Bool.false_ne_true, List.dropWhile_cons, List.takeWhile_cons, hw, find_list hs n (s + 1) (by rw [e2]; rw [e] at h; simp at h; omega), e2]
          simp only [if_true]
          cases r.dropWhile isW with
          | nil => rfl
          | cons c' r' => simp only [List.length_cons]; congr 2 <;> lia
theorem extract_list {text : Array Nat} {b e : Nat} : (⟨text.extract b e⟩ : Str) = toStr ((text.toList.drop b).take (e - b)) := by
  unfold toStr
  congr 1
  apply Array.toList_inj.mp
  rw [Array.toList_extract, List.extract_eq_take_drop]
theorem drop_takeWhile {p : Nat → Bool} {l : List Nat} {k : Nat} (hk : k = (l.takeWhile p).length) : l.take k = l.takeWhile p ∧ l.drop k = l.dropWhile p := by
  have h := List.takeWhile_append_dropWhile (p := p) (l := l)
  subst hk
  generalize l.takeWhile p = a at *
  generalize l.dropWhile p = b at *
  subst h
  exact ⟨List.take_left' rfl, List.drop_left' rfl⟩
theorem cuts_list {text : Array Nat} (hs : text.size ≤ 100000) : ∀ (n st : Nat), cuts text n st = (lexL n (text.toList.drop st)).map toStr
  | 0, st => by
    show [(⟨text.extract st text.size⟩ : Str)] = [toStr (text.toList.drop st)]
    rw [extract_list, List.take_of_length_le (by rw [List.length_drop, Array.length_toList]; (exact Nat.le_refl _))]
  | n + 1, st => by
    unfold cuts lexL
    rw [find_list hs _ st (by rw [List.length_drop, Array.length_toList]; (exact Nat.le_refl _))]
    have hwd := List.takeWhile_append_dropWhile (p := isW) (l := text.toList.drop st)
    cases hd : (text.toList.drop st).dropWhile isW with
    | nil =>
      dsimp only
      rw [extract_list, List.take_of_length_le (by rw [List.length_drop, Array.length_toList]; (exact Nat.le_refl _))]; rfl
    | cons c r =>
      dsimp only
      obtain ⟨t1, t2⟩ := drop_takeWhile (p := isW) (l := text.toList.drop st) rfl
      generalize hw : (text.toList.drop st).takeWhile isW = wd at *
      have e1 : (⟨text.extract st (st + wd.length)⟩ : Str) = toStr wd := by rw [extract_list, show st + wd.length - st = wd.length by (first | exact Nat.add_sub_self_left _ _ | lia), t1]
      have d1 : text.toList.drop (st + wd.length) = c :: r := by rw [← List.drop_drop, t2, hd]
      cases hc : isDig c with
      | true =>
        rw [if_pos rfl, if_pos rfl]
        obtain ⟨q1, q2⟩ := drop_takeWhile (p := isDig) (l := c :: r) rfl
        rw [e1, extract_list, d1, show st + wd.length + ((c :: r).takeWhile isDig).length - (st + wd.length) = ((c :: r).takeWhile isDig).length by (first | exact Nat.add_sub_self_left _ _ | lia), q1, cuts_list hs n, ← List.drop_drop, d1, q2]
        rfl
      | false =>
        rw [if_neg Bool.false_ne_true, if_neg Bool.false_ne_true]
        rw [e1, extract_list, d1, show st + wd.length + 1 - (st + wd.length) = 1 by (first | exact Nat.add_sub_self_left _ _ | lia), cuts_list hs n, ← List.drop_drop, d1]
        rfl
inductive Lex : List Nat → List T → Prop
  | nil : Lex [] []
  | sign {c r ts} : isSgn c = true → Lex r ts → Lex (c :: r) ts
  | word {w rest ts} : w ≠ [] → (∀ c ∈ w, isW c = true) → (∀ c r, rest = c :: r → isW c = false) → Lex rest ts → Lex (w ++ rest) (partT (toStr w) ++ ts)
  | dig {d rest ts} : d ≠ [] → (∀ c ∈ d, isDig c = true) → (∀ c r, rest = c :: r → isDig c = false) → Lex rest ts → Lex (d ++ rest) (partT (toStr d) ++ ts)
theorem part_nil : partT (toStr []) = [] := by decide +kernel
theorem part_sign {c : Nat} (h : isSgn c = true) : partT (toStr [c]) = [] := by
  unfold isSgn at h
  simp only [Bool.or_eq_true, beq_iff_eq] at h
  rcases h with ((rfl | rfl) | rfl) | rfl <;> decide +kernel
theorem takeWhile_all {p : Nat → Bool} {w rest : List Nat} (h1 : ∀ c ∈ w, p c = true) (h2 : ∀ c r, rest = c :: r → p c = false) : (w ++ rest).takeWhile p = w ∧ (w ++ rest).dropWhile p = rest := by
  induction w with
  | nil =>
    cases rest with
    | nil => exact ⟨rfl, rfl⟩
    | cons c r =>
      have := h2 c r rfl
      simp [this]
  | cons x w ih =>
    obtain ⟨a, b⟩ := ih fun c hc => h1 c (List.mem_cons_of_mem _ hc)
    have hx := h1 x (List.mem_cons_self ..)
    rw [List.cons_append, List.takeWhile_cons, List.dropWhile_cons, hx, a, b]
    exact ⟨rfl, rfl⟩
noncomputable abbrev P (n : Nat) (l : List Nat) : List T := (lexL n l).flatMap fun v => partT (toStr v)
theorem P_word {n : Nat} {w rest : List Nat} (h1 : ∀ c ∈ w, isW c = true) (h2 : ∀ c r, rest = c :: r → isW c = false) : P (n + 1) (w ++ rest) = partT (toStr w) ++ P (n + 1) rest := by
  obtain ⟨a, b⟩ := takeWhile_all h1 h2
  unfold P
  rw [lexL, lexL, a, b]
  cases rest with
  | nil =>
    simp only [List.append_nil, List.dropWhile_nil, List.flatMap_cons, List.flatMap_nil, List.append_nil]
    rw [part_nil, List.append_nil]
  | cons c r =>
    have hc := h2 c r rfl
    rw [List.dropWhile_cons, List.takeWhile_cons, hc]
    simp only [Bool.false_eq_true, if_false]
    split <;> simp only [List.flatMap_cons, part_nil, List.nil_append]
theorem lex_P {l : List Nat} {ts : List T} (h : Lex l ts) : ∀ n, l.length < n → P n l = ts := by
  induction h with
  | nil =>
    intro n hn
    cases n with
    | zero => lia
    | succ n => unfold P; rw [lexL]; simp only [List.dropWhile_nil, List.flatMap_cons, List.flatMap_nil, part_nil, List.append_nil]
  | @sign c r ts hc _ ih =>
    intro n hn
    cases n with
    | zero => lia
    | succ n =>
      have hd : isDig c = false := by
        unfold isSgn at hc
        simp only [Bool.or_eq_true, beq_iff_eq] at hc
        rcases hc with ((rfl | rfl) | rfl) | rfl <;> rfl
      have hw : isW c = false := by unfold isW; rw [hc, Bool.not_true, Bool.and_false]
      unfold P
      rw [lexL, List.dropWhile_cons, List.takeWhile_cons, hw]
      simp only [Bool.false_eq_true, if_false]
      rw [hd]
      simp only [Bool.false_eq_true, if_false, List.flatMap_cons, part_nil, part_sign hc, List.nil_append]
      exact ih n (by simp at hn; omega)
  | @word w rest ts hne h1 h2 _ ih =>
    intro n hn
    cases n with
    | zero => lia
    | succ n =>
      rw [P_word h1 h2, ih (n + 1) (by rw [List.length_append] at hn; (first | exact Nat.lt_of_add_left_lt hn | lia))]
  | @dig d rest ts hne h1 h2 _ ih =>
    intro n hn
    cases n with
    | zero => lia
    | succ n =>
      obtain ⟨a, b⟩ := takeWhile_all h1 h2
      cases d with
      | nil => exact absurd rfl hne
      | cons c d =>
        have hd : isDig c = true := h1 c (List.mem_cons_self ..)
        have hw : isW c = false := by unfold isW; rw [hd]; rfl
        unfold P
        rw [List.cons_append] at a b
        rw [List.cons_append, lexL, List.dropWhile_cons, List.takeWhile_cons, hw]
        simp only [Bool.false_eq_true, if_false]
        rw [hd]
        simp only [if_true, List.flatMap_cons, part_nil, List.nil_append]
        rw [a, b]
        congr 1
        exact ih n (by rw [List.length_append] at hn; simp at hn; (first | exact Nat.lt_of_succ_lt_succ (Nat.lt_of_le_of_lt (zEq (Nat.add_comm _ 1) (Nat.add_le_add_right (Nat.le_add_left 1 _) _)) hn) | lia))
theorem keyT_lex {x : Str} (hs : x.cps.size ≤ 100000) {ts : List T} (h : Lex x.cps.toList ts) : keyT x = ts := by
  unfold keyT splitS
  rw [cuts_list hs, List.flatMap_map]
  have := lex_P h (x.cps.size + 1) (by rw [Array.length_toList]; (exact Nat.le_refl _))
  rw [← this, List.drop_zero]
end Mine
end

section
set_option Elab.async false
set_option maxRecDepth 100000
set_option maxHeartbeats 1000000
set_option linter.unusedVariables false
namespace Mine
open PySem

theorem figs_facts (z : Nat) (hz : z < 3) (k : Nat) (hk : k < 120) :
    let x := repStr "0" z ++ Str.ofString (toString ((k : Nat) : Int))
    x.cps.toList ≠ [] ∧ (∀ c ∈ x.cps.toList, isDig c = true) ∧ x.cps.size ≤ 10 ∧ eqTs (partT x) [.int 100, .int k] = true := by
  have h : ∀ z < 3, ∀ k < 120, ((repStr "0" z ++ Str.ofString (toString ((k : Nat) : Int))).cps.toList ≠ [] ∧ ((repStr "0" z ++ Str.ofString (toString ((k : Nat) : Int))).cps.toList.all isDig) = true ∧ (repStr "0" z ++ Str.ofString (toString ((k : Nat) : Int))).cps.size ≤ 10) ∧ eqTs (partT (repStr "0" z ++ Str.ofString (toString ((k : Nat) : Int)))) [.int 100, .int k] = true := by decide +kernel
  obtain ⟨⟨h1, h2, h3⟩, h4⟩ := h z hz k hk
  exact ⟨h1, fun c hc => List.all_eq_true.mp h2 c hc, h3, h4⟩
theorem word_facts : ∀ p ∈ tabW, ∀ s, s < 2 → (p.word s).cps.toList ≠ [] ∧ (∀ c ∈ (p.word s).cps.toList, isW c = true ∧ c < 16 ^ 8) ∧ (p.word s).cps.size ≤ 10 ∧ eqTs (partT (p.word s)) [.int (p.rank s), .str (p.word s)] = true ∧ p.rank s ≠ 100 ∧ (p.rank s).natAbs ≤ 1000 := by
  have h : ∀ i < 12, ∀ s < 2, (((tabW.getD i default).word s).cps.toList ≠ [] ∧ (((tabW.getD i default).word s).cps.toList.all fun c => isW c && decide (c < 16 ^ 8)) = true ∧ ((tabW.getD i default).word s).cps.size ≤ 10) ∧ eqTs (partT ((tabW.getD i default).word s)) [.int ((tabW.getD i default).rank s), .str ((tabW.getD i default).word s)] = true ∧ (tabW.getD i default).rank s ≠ 100 ∧ ((tabW.getD i default).rank s).natAbs ≤ 1000 := by decide +kernel
  intro p hp s hs
  obtain ⟨i, hi, rfl⟩ := List.mem_iff_getElem.mp hp
  obtain ⟨⟨h1, h2, h3⟩, h4, h5, h6⟩ := h i hi s hs
  have e : tabW.getD i default = tabW[i] := by rw [List.getD_eq_getElem?_getD, List.getElem?_eq_getElem hi]; rfl
  rw [e] at h1 h2 h3 h4 h5 h6
  refine ⟨h1, fun c hc => ?_, h3, h4, h5, h6⟩
  have := List.all_eq_true.mp h2 c hc
  rw [Bool.and_eq_true, decide_eq_true_eq] at this
  exact this
theorem word_old : ∀ p ∈ tabW, ltTs [.int p.r0, .str p.w0] [.int p.r1, .str p.w1] = true ∧ Txt.lower p.w0 = Txt.lower p.w1 := by
  have h : ∀ i < 12, ltTs [.int (tabW.getD i default).r0, .str (tabW.getD i default).w0] [.int (tabW.getD i default).r1, .str (tabW.getD i default).w1] = true := by decide +kernel
  have h' : ∀ i < 12, ((Txt.lower (tabW.getD i default).w0).cps.toList == (Txt.lower (tabW.getD i default).w1).cps.toList) = true := by decide +kernel
  intro p hp
  obtain ⟨i, hi, rfl⟩ := List.mem_iff_getElem.mp hp
  have e : tabW.getD i default = tabW[i] := by rw [List.getD_eq_getElem?_getD, List.getElem?_eq_getElem hi]; rfl
  have h1 := h i hi
  have h2 := h' i hi
  rw [e] at h1 h2
  refine ⟨h1, ?_⟩
  have := eq_of_beq h2
  cases ha : Txt.lower tabW[i].w0
  cases hb : Txt.lower tabW[i].w1
  rw [ha, hb] at this
  congr 1
  exact Array.toList_inj.mp this
noncomputable def lowL (l : List Nat) : List Nat := l.flatMap Unicode.lowerOf
theorem lower_list {x : Str} (h : ∀ c ∈ x.cps.toList, c ≠ 0x3A3) : (Txt.lower x).cps.toList = lowL x.cps.toList := by
  have e : Txt.lower x = ⟨(x.cps.mapIdx fun i c => (Unicode.lowerAt x.cps i).toArray).flatten⟩ := rfl
  rw [e]
  have e2 : (x.cps.mapIdx fun i c => (Unicode.lowerAt x.cps i).toArray) = x.cps.map fun c => (Unicode.lowerOf c).toArray := by
    apply Array.ext
    · simp
    · intro i h1 h2
      simp only [Array.getElem_mapIdx, Array.getElem_map]
      have hi : i < x.cps.size := by simpa using h2
      unfold Unicode.lowerAt
      rw [Array.getElem?_eq_getElem hi]
      have : (x.cps[i] == 0x3A3) = false := beq_false_of_ne (h _ (by simp))
      dsimp only
      rw [this]; rfl
  rw [e2]
  simp only [Array.toList_flatten, Array.toList_map, List.map_map, lowL, List.flatMap]
  congr 1
theorem lowL_append (a b : List Nat) : lowL (a ++ b) = lowL a ++ lowL b := by unfold lowL; rw [List.flatMap_append]
theorem low_dig : ∀ c, isDig c = true → Unicode.lowerOf c = [c] ∧ c ≠ 0x3A3 ∧ c < 16 ^ 8 := by
  have h : ∀ c < 58, isDig c = true → (Unicode.lowerOf c == [c]) = true ∧ c ≠ 0x3A3 ∧ c < 16 ^ 8 := by decide +kernel
  intro c hc
  have hc' : c < 58 := by
    unfold isDig at hc
    rw [Bool.and_eq_true, decide_eq_true_eq, decide_eq_true_eq] at hc
    lia
  obtain ⟨h1, h2⟩ := h c hc' hc
  exact ⟨eq_of_beq h1, h2⟩
theorem lowL_dig : ∀ {l : List Nat}, (∀ c ∈ l, isDig c = true) → lowL l = l
  | [], _ => rfl
  | c :: l, h => by
    have := lowL_dig fun d hd => h d (List.mem_cons_of_mem _ hd)
    unfold lowL at this ⊢
    rw [List.flatMap_cons, this, (low_dig c (h c (List.mem_cons_self ..))).1]; rfl
noncomputable def lowW (p : Pr) : List Nat := lowL p.w0.cps.toList
theorem lowW_facts : ∀ p ∈ tabW, ∀ s, s < 2 → lowL (p.word s).cps.toList = lowW p ∧ (∀ c ∈ lowW p, isDig c = false) ∧ (lowW p).length ≤ 10 ∧ (∀ c ∈ (p.word s).cps.toList, c ≠ 0x3A3 ∧ isDig c = false) := by
  have h : ∀ i < 12, ∀ s < 2, (lowL ((tabW.getD i default).word s).cps.toList == lowW (tabW.getD i default)) = true ∧ ((lowW (tabW.getD i default)).all fun c => !isDig c) = true ∧ (lowW (tabW.getD i default)).length ≤ 10 ∧ (((tabW.getD i default).word s).cps.toList.all fun c => c != 0x3A3 && !isDig c) = true := by decide +kernel
  intro p hp s hs
  obtain ⟨i, hi, rfl⟩ := List.mem_iff_getElem.mp hp
  have e : tabW.getD i default = tabW[i] := by rw [List.getD_eq_getElem?_getD, List.getElem?_eq_getElem hi]; rfl
  obtain ⟨h1, h2, h3, h4⟩ := h i hi s hs
  rw [e] at h1 h2 h3 h4
  refine ⟨eq_of_beq h1, fun c hc => ?_, h3, fun c hc => ?_⟩
  · have := List.all_eq_true.mp h2 c hc
    simpa using this
  · have := List.all_eq_true.mp h4 c hc
    simpa using this
theorem tabW_low : (tabW.map lowW).Nodup := by decide +kernel
theorem word_ne : ∀ p ∈ tabW, p.w0.cps.toList ≠ p.w1.cps.toList := by
  have h : ∀ i < 12, (tabW.getD i default).w0.cps.toList ≠ (tabW.getD i default).w1.cps.toList := by decide +kernel
  intro p hp
  obtain ⟨i, hi, rfl⟩ := List.mem_iff_getElem.mp hp
  have e : tabW.getD i default = tabW[i] := by rw [List.getD_eq_getElem?_getD, List.getElem?_eq_getElem hi]; rfl
  have := h i hi
  rw [e] at this
  exact this
end Mine
end

section
set_option Elab.async false
set_option maxRecDepth 100000
set_option maxHeartbeats 1000000
set_option linter.unusedVariables false
namespace Mine
open PySem

structure NmOk (m : Nm) : Prop where
  pr : m.pr ∈ tabW
  num : m.num < 120
  z : m.z < 3
noncomputable abbrev Nm.F (m : Nm) : List Nat := m.figs.cps.toList
noncomputable abbrev Nm.W (m : Nm) (s : Nat) : List Nat := (m.pr.word s).cps.toList
theorem toStr_eq (x : Str) : toStr x.cps.toList = x := by cases x; rfl
theorem text_list (m : Nm) (s : Nat) : (m.text s).cps.toList = if m.ahead then m.F ++ m.W s else m.W s ++ m.F := by
  unfold Nm.text
  split
  · exact Array.toList_append
  · exact Array.toList_append
theorem isW_dig {c : Nat} (h : isW c = true) : isDig c = false := by
  unfold isW at h
  rw [Bool.and_eq_true] at h
  simpa using h.1
theorem dig_W {c : Nat} (h : isDig c = true) : isW c = false := by unfold isW; rw [h]; rfl
theorem sgn_W {c : Nat} (h : isSgn c = true) : isW c = false := by unfold isW; rw [h, Bool.not_true, Bool.and_false]
theorem sgn_dig {c : Nat} (h : isSgn c = true) : isDig c = false := by
  unfold isSgn at h
  simp only [Bool.or_eq_true, beq_iff_eq] at h
  rcases h with ((rfl | rfl) | rfl) | rfl <;> rfl
theorem figs_part {m : Nm} (h : NmOk m) : partT m.figs = [.int 100, .int m.num] := eqTs_eq _ _ (figs_facts m.z h.z m.num h.num).2.2.2
theorem word_part {m : Nm} (h : NmOk m) {s : Nat} (hs : s < 2) : partT (m.pr.word s) = [.int (m.pr.rank s), .str (m.pr.word s)] := eqTs_eq _ _ (word_facts m.pr h.pr s hs).2.2.2.1
theorem lex_letter {m : Nm} (h : NmOk m) {s : Nat} (hs : s < 2) {rest : List Nat} {ts : List T} (hr : ∀ c r, rest = c :: r → isSgn c = true) (hl : Lex rest ts) : Lex ((m.text s).cps.toList ++ rest) (m.due s ++ ts) := by
  obtain ⟨f1, f2, f3, f4⟩ := figs_facts m.z h.z m.num h.num
  obtain ⟨w1, w2, w3, w4, w5⟩ := word_facts m.pr h.pr s hs
  have pf := figs_part h
  have pw := word_part h hs
  rw [← toStr_eq m.figs] at pf
  have pw' : partT (toStr (m.W s)) = [.int (m.pr.rank s), .str (m.pr.word s)] := by rw [toStr_eq]; exact pw
  rw [text_list]
  unfold Nm.due
  split
  · rw [List.append_assoc]
    have a := Lex.word w1 (fun c hc => (w2 c hc).1) (fun c r e => sgn_W (hr c r e)) hl
    have b := Lex.dig (d := m.F) f1 f2 (fun c r e => by
      cases hw : m.W s with
      | nil => exact absurd hw w1
      | cons x y =>
        have e' : m.W s ++ rest = c :: r := e
        rw [hw] at e'
        cases e'
        exact isW_dig (w2 c (by show c ∈ m.W s; rw [hw]; exact List.mem_cons_self ..)).1) a
    rw [pf, pw'] at b
    exact b
  · rw [List.append_assoc]
    have a := Lex.dig (d := m.F) f1 f2 (fun c r e => sgn_dig (hr c r e)) hl
    have b := Lex.word w1 (fun c hc => (w2 c hc).1) (fun c r e => by
      cases hw : m.F with
      | nil => exact absurd hw f1
      | cons x y =>
        have e' : m.F ++ rest = c :: r := e
        rw [hw] at e'
        cases e'
        exact dig_W (f2 c (by show c ∈ m.F; rw [hw]; exact List.mem_cons_self ..))) a
    rw [pf, pw'] at b
    exact b
theorem sgn_lex {sep r : List Nat} {ts : List T} (h : ∀ c ∈ sep, isSgn c = true) (hl : Lex r ts) : Lex (sep ++ r) ts := by
  induction sep with
  | nil => exact hl
  | cons c s ih => exact Lex.sign (h c (List.mem_cons_self ..)) (ih fun d hd => h d (List.mem_cons_of_mem _ hd))
theorem dig_noW {c : Nat} (h : isDig c = true) : c ≠ 0x3A3 ∧ c < 16 ^ 8 := (low_dig c h).2
theorem text_facts {m : Nm} (h : NmOk m) {s : Nat} (hs : s < 2) : (m.text s).cps.size ≤ 20 ∧ (∀ c ∈ (m.text s).cps.toList, c ≠ 0x3A3 ∧ c < 16 ^ 8) := by
  obtain ⟨f1, f2, f3, f4⟩ := figs_facts m.z h.z m.num h.num
  obtain ⟨w1, w2, w3, w4, w5⟩ := word_facts m.pr h.pr s hs
  obtain ⟨l1, l2, l3, l4⟩ := lowW_facts m.pr h.pr s hs
  constructor
  · rw [← Array.length_toList, text_list]
    have f3' : m.F.length ≤ 10 := by rw [Array.length_toList]; exact f3
    have w3' : (m.W s).length ≤ 10 := by rw [Array.length_toList]; exact w3
    split <;> rw [List.length_append] <;> lia
  · intro c hc
    rw [text_list] at hc
    have hc : c ∈ m.F ∨ c ∈ m.W s := by
      split at hc
      · exact List.mem_append.mp hc
      · exact (List.mem_append.mp hc).symm
    rcases hc with hc | hc
    · exact dig_noW (f2 c hc)
    · exact ⟨(l4 c hc).1, (w2 c hc).2⟩
theorem text_low {m : Nm} (h : NmOk m) {s : Nat} (hs : s < 2) : (Txt.lower (m.text s)).cps.toList = if m.ahead then m.F ++ lowW m.pr else lowW m.pr ++ m.F := by
  obtain ⟨f1, f2, f3, f4⟩ := figs_facts m.z h.z m.num h.num
  obtain ⟨l1, l2, l3, l4⟩ := lowW_facts m.pr h.pr s hs
  rw [lower_list fun c hc => ((text_facts h hs).2 c hc).1, text_list]
  split <;> rw [lowL_append, lowL_dig (l := m.F) f2, l1]
theorem noDig {l : List Nat} (h : ∀ c ∈ l, isDig c = false) : l.filter (fun c => !isDig c) = l := List.filter_eq_self.mpr fun c hc => by rw [h c hc]; rfl
theorem allDig {l : List Nat} (h : ∀ c ∈ l, isDig c = true) : l.filter (fun c => !isDig c) = [] := List.filter_eq_nil_iff.mpr fun c hc => by rw [h c hc]; decide
theorem text_low_name {m : Nm} (h : NmOk m) {s : Nat} (hs : s < 2) : (Txt.lower (m.text s)).cps.toList.filter (fun c => !isDig c) = lowW m.pr := by
  obtain ⟨f1, f2, f3, f4⟩ := figs_facts m.z h.z m.num h.num
  obtain ⟨l1, l2, l3, l4⟩ := lowW_facts m.pr h.pr s hs
  rw [text_low h hs]
  split <;> rw [List.filter_append, allDig (l := m.F) f2, noDig l2]
  · rfl
  · exact List.append_nil _
theorem text_name {m : Nm} (h : NmOk m) {s : Nat} (hs : s < 2) : (m.text s).cps.toList.filter (fun c => !isDig c) = m.W s := by
  obtain ⟨f1, f2, f3, f4⟩ := figs_facts m.z h.z m.num h.num
  obtain ⟨l1, l2, l3, l4⟩ := lowW_facts m.pr h.pr s hs
  rw [text_list]
  split <;> rw [List.filter_append, allDig (l := m.F) f2, noDig fun c hc => (l4 c hc).2]
  · rfl
  · exact List.append_nil _
theorem Str.ext_list {x y : Str} (h : x.cps.toList = y.cps.toList) : x = y := by rw [← toStr_eq x, ← toStr_eq y, h]
theorem names_ok {ms : List Nm} (h : Names ms) : ∀ j, j < 3 → NmOk (ms.getD j default) := fun j hj => by
  have h3 := h.three
  have hm : ms.getD j default ∈ ms := by
    rw [List.getD_eq_getElem?_getD, List.getElem?_eq_getElem (by lia)]
    exact List.getElem_mem _
  obtain ⟨rest, hp⟩ := h.from_
  exact ⟨hp.mem_iff.mp (List.mem_append_left _ (List.mem_map.mpr ⟨_, hm, rfl⟩)), (h.num _ hm).1, (h.num _ hm).2⟩
theorem names_two {ms : List Nm} (h : Names ms) {i j : Nat} (hi : i < 3) (hj : j < 3) (e : lowW (ms.getD i default).pr = lowW (ms.getD j default).pr) : i = j := by
  have h3 := h.three
  obtain ⟨rest, hp⟩ := h.from_
  have hn : ((ms.map Nm.pr ++ rest).map lowW).Nodup := (hp.map lowW).nodup_iff.mpr tabW_low
  rw [List.map_append, List.map_map] at hn
  have hn : (ms.map (lowW ∘ Nm.pr)).Nodup := (List.nodup_append.mp hn).1
  have gi : ms.getD i default = ms[i]'(by lia) := by rw [List.getD_eq_getElem?_getD, List.getElem?_eq_getElem (by lia)]; rfl
  have gj : ms.getD j default = ms[j]'(by lia) := by rw [List.getD_eq_getElem?_getD, List.getElem?_eq_getElem (by lia)]; rfl
  rw [gi, gj] at e
  have key : ∀ {i j : Nat} (hi : i < ms.length) (hj : j < ms.length), i < j → lowW ms[i].pr ≠ lowW ms[j].pr := fun {i j} hi hj hij => by
    have := List.pairwise_iff_getElem.mp hn i j (by rw [List.length_map]; exact hi) (by rw [List.length_map]; exact hj) hij
    simpa using this
  rcases Nat.lt_trichotomy i j with q | q | q
  · exact absurd e (key _ _ q)
  · exact q
  · exact absurd e.symm (key _ _ q)
theorem due_cmp {m m' : Nm} (h : NmOk m) (h' : NmOk m') {s s' : Nat} (hs : s < 2) (hs' : s' < 2) {ts us : List T} (ht : cmpTs ts us = true) : cmpTs (m.due s ++ ts) (m'.due s' ++ us) = true := by
  have w := (word_facts m.pr h.pr s hs).2.2.2.2.1
  have w' := (word_facts m'.pr h'.pr s' hs').2.2.2.2.1
  have c2 : ∀ {a b c d : T} {p q : List T}, cmpT a b = true → cmpT c d = true → cmpTs p q = true → cmpTs (a :: c :: p) (b :: d :: q) = true := fun {a b c d p q} h1 h2 h3 => by
    rw [cmpTs]
    split
    · rw [cmpTs]
      split
      · exact h3
      · exact h2
    · exact h1
  have c1 : ∀ {i j : Int} {p q : List T}, i ≠ j → cmpTs (.int i :: p) (.int j :: q) = true := fun {i j p q} h1 => by
    rw [cmpTs, eqT]
    have : (i == j) = false := beq_false_of_ne h1
    rw [this]; rfl
  unfold Nm.due
  split <;> split
  · exact c2 rfl rfl (c2 rfl rfl ht)
  · exact c1 (fun e => w' e.symm)
  · exact c1 (fun e => w e)
  · exact c2 rfl rfl (c2 rfl rfl ht)
theorem due_dat (m : Nm) (s : Nat) : datTs (m.due s) = true ∧ depTs (m.due s) = 0 := by
  unfold Nm.due
  split <;> exact ⟨rfl, rfl⟩
theorem names_letters {ms : List Nm} (h : Names ms) : Letters ms := by
  have ok := names_ok h
  have eqn : ∀ {i j : Nat}, i < 3 → j < 3 → ∀ {s s' : Nat}, s < 2 → s' < 2 → Txt.lower ((ms.getD i default).text s) = Txt.lower ((ms.getD j default).text s') → i = j := fun {i j} hi hj {s s'} hs hs' e => by
    have a := text_low_name (ok i hi) hs
    have b := text_low_name (ok j hj) hs'
    rw [e, b] at a
    exact names_two h hi hj a.symm
  have same : ∀ {i : Nat}, i < 3 → ∀ {s s' : Nat}, s < 2 → s' < 2 → Txt.lower ((ms.getD i default).text s) = Txt.lower ((ms.getD i default).text s') := fun {i} hi {s s'} hs hs' => Str.ext_list (by rw [text_low (ok i hi) hs, text_low (ok i hi) hs'])
  have inj : ∀ l, Lok l → ∀ l', Lok l' → ltx ms l = ltx ms l' → l = l' := by
    rintro ⟨i, s⟩ ⟨hi, hs⟩ ⟨j, s'⟩ ⟨hj, hs'⟩ e
    have e' : (ms.getD i default).text s = (ms.getD j default).text s' := e
    have := eqn hi hj hs hs' (by rw [e'])
    subst this
    have a := text_name (ok i hi) hs
    have b := text_name (ok i hi) hs'
    rw [e', b] at a
    have hne := word_ne _ (ok i hi).pr
    have : s = s' := by
      have hs : s < 2 := hs
      have hs' : s' < 2 := hs'
      obtain rfl | rfl : s = 0 ∨ s = 1 := by lia
      · obtain rfl | rfl : s' = 0 ∨ s' = 1 := by lia
        · rfl
        · exact absurd a.symm hne
      · obtain rfl | rfl : s' = 0 ∨ s' = 1 := by lia
        · exact absurd a hne
        · rfl
    rw [this]
  refine ⟨fun l hl => ?_, fun l hl => ?_, fun l hl => ?_, fun l hl l' hl' => ?_, inj, fun l hl => ?_, fun l hl l' hl' => ?_, fun j hj => ?_, fun l hl t ht => ?_⟩
  · obtain ⟨a, b⟩ := text_facts (ok l.1 hl.1) hl.2
    exact ⟨by show ((ms.getD l.1 default).text l.2).cps.size ≤ 600; (exact Nat.le_trans a (Nat.le_add_left _ _)), fun c hc => (b c hc).2⟩
  · have a := text_low (ok l.1 hl.1) hl.2
    obtain ⟨f1, f2, f3, f4⟩ := figs_facts _ (ok l.1 hl.1).z _ (ok l.1 hl.1).num
    obtain ⟨l1, l2, l3, l4⟩ := lowW_facts _ (ok l.1 hl.1).pr l.2 hl.2
    have hl20 : (Txt.lower (ltx ms l)).length ≤ 20 := by
      show (Txt.lower ((ms.getD l.1 default).text l.2)).cps.size ≤ 20
      rw [← Array.length_toList, a]
      have f3' : (ms.getD l.1 default).F.length ≤ 10 := by rw [Array.length_toList]; exact f3
      split <;> rw [List.length_append] <;> lia
    unfold LowOk Builtin.Str.tooLong
    rw [decide_eq_false_iff_not, sizeLine_eq]
    lia
  · have a := lex_letter (ok l.1 hl.1) hl.2 (rest := []) (ts := []) (fun c r e => by cases e) Lex.nil
    rw [List.append_nil, List.append_nil] at a
    obtain ⟨q, _⟩ := text_facts (ok l.1 hl.1) hl.2
    exact keyT_lex (by show ((ms.getD l.1 default).text l.2).cps.size ≤ 100000; (exact Nat.le_trans q (Nat.le_add_left _ _))) a
  · unfold costT
    by_cases e : l = l'
    · subst e
      rw [if_pos rfl]
      have : (ltx ms l == ltx ms l) = true := BEq.rfl
      rw [this]; rfl
    · rw [if_neg e]
      have : (ltx ms l == ltx ms l') = false := beq_false_of_ne fun q => e (inj l hl l' hl' q)
      rw [this, if_neg Bool.false_ne_true]
      by_cases q : l.1 = l'.1
      · rw [if_pos q]
        have : Txt.lower (ltx ms l) = Txt.lower (ltx ms l') := by
          unfold ltx
          rw [← q]
          exact same hl.1 hl.2 hl'.2
        rw [this]
        have : (Txt.lower (ltx ms l') == Txt.lower (ltx ms l')) = true := BEq.rfl
        rw [this]; rfl
      · rw [if_neg q]
        have : (Txt.lower (ltx ms l) == Txt.lower (ltx ms l')) = false := beq_false_of_ne fun q' => q (eqn hl.1 hl'.1 hl.2 hl'.2 q')
        rw [this]; rfl
  · obtain ⟨a, b⟩ := due_dat (ms.getD l.1 default) l.2
    exact ⟨a, by show depTs ((ms.getD l.1 default).due l.2) ≤ 2; lia⟩
  · have := due_cmp (ok l.1 hl.1) (ok l'.1 hl'.1) hl.2 hl'.2 (ts := []) (us := []) rfl
    rw [List.append_nil, List.append_nil] at this
    exact this
  · obtain ⟨a, _⟩ := word_old _ (ok j hj).pr
    show ltTs ((ms.getD j default).due 0) ((ms.getD j default).due 1) = true
    generalize ms.getD j default = m at *
    have a' : ltTs [.int (m.pr.rank 0), .str (m.pr.word 0)] [.int (m.pr.rank 1), .str (m.pr.word 1)] = true := a
    unfold Nm.due
    have sk : ∀ {t : T} {p q : List T}, eqT t t = true → ltTs (t :: p) (t :: q) = ltTs p q := fun {t p q} h => by rw [ltTs, h]; rfl
    split
    · rw [sk (by rw [eqT]; exact BEq.rfl), sk (by rw [eqT]; exact BEq.rfl)]
      exact a'
    · rw [ltTs] at a' ⊢
      split
      · rename_i e1
        rw [if_pos e1, ltTs] at a'
        rw [ltTs]
        split
        · rename_i e2
          rw [if_pos e2] at a'
          simp [ltTs] at a'
        · rename_i e2
          rw [if_neg e2] at a'
          exact a'
      · rename_i e1
        rw [if_neg e1] at a'
        exact a'
  · have w := (word_facts _ (ok l.1 hl.1).pr l.2 hl.2).2.2.2.2.2
    have hn := (ok l.1 hl.1).num
    have ht' : t ∈ (ms.getD l.1 default).due l.2 := ht
    generalize ms.getD l.1 default = m at *
    unfold Nm.due at ht'
    have : t = .int 100 ∨ t = .int m.num ∨ t = .int (m.pr.rank l.2) ∨ t = .str (m.pr.word l.2) := by
      split at ht'
      · simpa using ht'
      · simp only [List.mem_cons, List.not_mem_nil, or_false] at ht'
        rcases ht' with h | h | h | h
        · exact .inr (.inr (.inl h))
        · exact .inr (.inr (.inr h))
        · exact .inl h
        · exact .inr (.inl h)
    rcases this with rfl | rfl | rfl | rfl
    · exact .inl ⟨_, rfl, by decide⟩
    · exact .inl ⟨_, rfl, by omega⟩
    · exact .inl ⟨_, rfl, w⟩
    · exact .inr ⟨_, rfl⟩
end Mine
end

section
set_option Elab.async false
set_option maxRecDepth 100000
set_option maxHeartbeats 1000000
set_option linter.unusedVariables false
namespace Mine
open PySem

theorem glued_list (sep : Str) : ∀ (r : List Str) (acc : Array Nat), (r.foldl (fun acc p => acc ++ sep.cps ++ p.cps) acc).toList = acc.toList ++ r.flatMap fun y => sep.cps.toList ++ y.cps.toList
  | [], acc => by simp
  | p :: r, acc => by
    rw [List.foldl_cons, glued_list sep r, List.flatMap_cons]
    simp
theorem join_list (sep : Str) (x : Str) (r : List Str) : (joinS sep (x :: r)).cps.toList = x.cps.toList ++ r.flatMap fun y => sep.cps.toList ++ y.cps.toList := by
  cases r with
  | nil => simp [joinS]
  | cons y r =>
    show (((x :: y :: r).drop 1).foldl (fun acc p => acc ++ sep.cps ++ p.cps) ((x :: y :: r).headD Str.empty).cps).toList = _
    exact glued_list sep (y :: r) x.cps
theorem sign_facts (k : Nat) : (∀ c ∈ (signOf k).cps.toList, isSgn c = true) ∧ (signOf k).cps.size ≤ 2 ∧ (∀ c ∈ (signOf k).cps.toList, c < 16 ^ 8) := by
  have h : ∀ i < 4, ∀ e < 2, ((repStr ⟨#[signsS.cps.getD i 0]⟩ (1 + e)).cps.toList.all fun c => isSgn c && decide (c < 16 ^ 8)) = true ∧ (repStr ⟨#[signsS.cps.getD i 0]⟩ (1 + e)).cps.size ≤ 2 := by decide +kernel
  obtain ⟨h1, h2⟩ := h (k % 4) (Nat.mod_lt _ (by decide)) (k / 4 % 2) (Nat.mod_lt _ (by decide))
  have h3 : ∀ c ∈ (signOf k).cps.toList, isSgn c = true ∧ c < 16 ^ 8 := fun c hc => by
    have := List.all_eq_true.mp h1 c hc
    rw [Bool.and_eq_true, decide_eq_true_eq] at this
    exact this
  exact ⟨fun c hc => (h3 c hc).1, h2, fun c hc => (h3 c hc).2⟩
theorem tkey_cons {ms : List Nm} {l : Lt} {t : List Lt} : tkey ms (l :: t) = (ms.getD l.1 default).due l.2 ++ tkey ms t := rfl
theorem lex_rest {ms : List Nm} (ok : ∀ j, j < 3 → NmOk (ms.getD j default)) {sep : List Nat} (hs : ∀ c ∈ sep, isSgn c = true) : ∀ {t : List Lt}, (∀ l ∈ t, Lok l) → sep ≠ [] →
    Lex ((t.map (ltx ms)).flatMap fun y => sep ++ y.cps.toList) (tkey ms t) ∧ ∀ c r, ((t.map (ltx ms)).flatMap fun y => sep ++ y.cps.toList) = c :: r → isSgn c = true
  | [], _, _ => ⟨Lex.nil, fun c r e => by cases e⟩
  | l :: t, h, hne => by
    obtain ⟨a, b⟩ := lex_rest ok hs (t := t) (fun x hx => h x (List.mem_cons_of_mem _ hx)) hne
    have hl := h l (List.mem_cons_self ..)
    rw [List.map_cons, List.flatMap_cons, List.append_assoc]
    constructor
    · exact sgn_lex hs (lex_letter (ok l.1 hl.1) hl.2 b a)
    · intro c r e
      cases hsep : sep with
      | nil => exact absurd hsep hne
      | cons x y =>
        rw [hsep] at e
        cases e
        exact hs _ (by rw [hsep]; exact List.mem_cons_self ..)
theorem sign_ne (k : Nat) : (signOf k).cps.toList ≠ [] := by
  have h : ∀ i < 4, ∀ e < 2, (repStr ⟨#[signsS.cps.getD i 0]⟩ (1 + e)).cps.toList ≠ [] := by decide +kernel
  exact h (k % 4) (Nat.mod_lt _ (by decide)) (k / 4 % 2) (Nat.mod_lt _ (by decide))
theorem tkey_dat {ms : List Nm} : ∀ t : List Lt, datTs (tkey ms t) = true ∧ depTs (tkey ms t) = 0
  | [] => ⟨rfl, rfl⟩
  | l :: t => by
    obtain ⟨a, b⟩ := tkey_dat (ms := ms) t
    rw [tkey_cons]
    unfold Nm.due
    split
    · exact ⟨a, by show max 0 (max 0 (max 0 (max 0 (depTs (tkey ms t))))) = 0; rw [b]; rfl⟩
    · exact ⟨a, by show max 0 (max 0 (max 0 (max 0 (depTs (tkey ms t))))) = 0; rw [b]; rfl⟩
theorem tkey_cmp {ms : List Nm} (ok : ∀ j, j < 3 → NmOk (ms.getD j default)) : ∀ {t u : List Lt}, (∀ l ∈ t, Lok l) → (∀ l ∈ u, Lok l) → cmpTs (tkey ms t) (tkey ms u) = true
  | [], u, _, _ => by
    show cmpTs [] (tkey ms u) = true
    unfold cmpTs; rfl
  | l :: t, [], _, _ => by
    show cmpTs (tkey ms (l :: t)) [] = true
    rw [tkey_cons]
    unfold Nm.due
    split <;> rfl
  | l :: t, l' :: u, h, h' => by
    have hl := h l (List.mem_cons_self ..)
    have hl' := h' l' (List.mem_cons_self ..)
    exact due_cmp (ok l.1 hl.1) (ok l'.1 hl'.1) hl.2 hl'.2 (tkey_cmp ok (fun x hx => h x (List.mem_cons_of_mem _ hx)) fun x hx => h' x (List.mem_cons_of_mem _ hx))
theorem joined_short {ms : List Nm} (ok : ∀ j, j < 3 → NmOk (ms.getD j default)) {sep : List Nat} (h2 : sep.length ≤ 2) : ∀ {t : List Lt}, (∀ l ∈ t, Lok l) → ((t.map (ltx ms)).flatMap fun y => sep ++ y.cps.toList).length ≤ 22 * t.length
  | [], _ => by simp
  | l :: t, h => by
    have := joined_short ok h2 (t := t) fun x hx => h x (List.mem_cons_of_mem _ hx)
    have hl := h l (List.mem_cons_self ..)
    obtain ⟨a, _⟩ := text_facts (ok l.1 hl.1) hl.2
    have a' : (ltx ms l).cps.toList.length ≤ 20 := by rw [Array.length_toList]; exact a
    rw [List.map_cons, List.flatMap_cons, List.length_append, List.length_append, List.length_cons]
    lia
theorem fold_short {ms : List Nm} (ok : ∀ j, j < 3 → NmOk (ms.getD j default)) {s : Nat} (h2 : s ≤ 2) : ∀ {t : List Lt} {a : Nat}, (∀ l ∈ t, Lok l) → (t.map (ltx ms)).foldl (fun a y => a + y.length + s) a ≤ a + 22 * t.length
  | [], a, _ => by simp
  | l :: t, a, h => by
    have hl := h l (List.mem_cons_self ..)
    obtain ⟨b, _⟩ := text_facts (ok l.1 hl.1) hl.2
    have b' : (ltx ms l).length ≤ 20 := b
    have := fold_short ok h2 (t := t) (a := a + (ltx ms l).length + s) fun x hx => h x (List.mem_cons_of_mem _ hx)
    rw [List.map_cons, List.foldl_cons, List.length_cons]
    lia
theorem names_joins {ms : List Nm} (h : Names ms) : Joins ms := by
  have ok := names_ok h
  have size : ∀ t : List Lt, (∀ l ∈ t, Lok l) → t.length ≤ 10 → ∀ k, (joinS (signOf k) (t.map (ltx ms))).cps.size ≤ 300 := fun t ht h10 k => by
    obtain ⟨g1, g2, g3⟩ := sign_facts k
    cases t with
    | nil => exact Nat.zero_le _
    | cons l t =>
      rw [← Array.length_toList, List.map_cons, join_list, List.length_append]
      have hl := ht l (List.mem_cons_self ..)
      obtain ⟨b, _⟩ := text_facts (ok l.1 hl.1) hl.2
      have b' : (ltx ms l).cps.toList.length ≤ 20 := by rw [Array.length_toList]; exact b
      have := joined_short ok (sep := (signOf k).cps.toList) (by rw [Array.length_toList]; exact g2) (t := t) fun x hx => ht x (List.mem_cons_of_mem _ hx)
      rw [List.length_cons] at h10
      lia
  refine ⟨fun t ht h10 k => ⟨by have := size t ht h10 k; (exact Nat.le_trans this (Nat.le_add_left _ _)), fun c hc => ?_⟩, fun t ht h10 k => ?_, fun t ht h10 k => ⟨?_, ?_⟩, fun t ht => ?_, fun t => ?_, fun t ht u hu => tkey_cmp ok ht hu⟩
  · obtain ⟨g1, g2, g3⟩ := sign_facts k
    cases t with
    | nil => cases hc
    | cons l t =>
      rw [List.map_cons, join_list] at hc
      rcases List.mem_append.mp hc with hc | hc
      · have hl := ht l (List.mem_cons_self ..)
        exact ((text_facts (ok l.1 hl.1) hl.2).2 c hc).2
      · obtain ⟨y, hy, hc⟩ := List.mem_flatMap.mp hc
        rcases List.mem_append.mp hc with hc | hc
        · exact g3 c hc
        · obtain ⟨l', hl', rfl⟩ := List.mem_map.mp hy
          have hl := ht l' (List.mem_cons_of_mem _ hl')
          exact ((text_facts (ok l'.1 hl.1) hl.2).2 c hc).2
  · refine keyT_lex (by have := size t ht h10 k; (exact Nat.le_trans this (Nat.le_add_left _ _))) ?_
    obtain ⟨g1, g2, g3⟩ := sign_facts k
    cases t with
    | nil => exact Lex.nil
    | cons l t =>
      rw [List.map_cons, join_list]
      have hl := ht l (List.mem_cons_self ..)
      obtain ⟨a, b⟩ := lex_rest ok g1 (t := t) (fun x hx => ht x (List.mem_cons_of_mem _ hx)) (sign_ne k)
      exact lex_letter (ok l.1 hl.1) hl.2 b a
  · obtain ⟨g1, g2, g3⟩ := sign_facts k
    have := fold_short ok (s := (signOf k).length) g2 (t := t) (a := 0) ht
    rw [← Array.foldl_toList]
    unfold Builtin.Str.tooLong
    rw [decide_eq_false_iff_not, sizeLine_eq]
    have e : (t.map (ltx ms)).toArray.toList = t.map (ltx ms) := rfl
    rw [e]
    lia
  · have h1 := size t ht h10 k
    have h2 : (joinS (signOf k) (t.map (ltx ms))).length = (joinS (signOf k) (t.map (ltx ms))).cps.size := rfl
    rw [sizeLine_eq]; (exact Nat.le_trans h1 (Nat.le_add_left _ _))
  · obtain ⟨a, b⟩ := tkey_dat (ms := ms) t
    exact ⟨a, by lia⟩
  · cases t with
    | nil => exact .inl rfl
    | cons l t =>
      right
      rw [tkey_cons]
      unfold Nm.due
      split
      · exact ⟨_, _, rfl⟩
      · exact ⟨_, _, rfl⟩
end Mine
end

section
set_option Elab.async false
set_option maxRecDepth 100000
set_option maxHeartbeats 1000000
set_option linter.unusedVariables false
namespace Mine
open PySem

noncomputable def mks : Nat → List (List Int)
  | 0 => [[]]
  | n + 1 => (mks n).flatMap fun m => [0 :: m, 1 :: m]
theorem mem_mks : ∀ {mk : List Int}, (∀ m ∈ mk, m = 0 ∨ m = 1) → mk ∈ mks mk.length
  | [], _ => List.mem_singleton.mpr rfl
  | m :: mk, h => by
    refine List.mem_flatMap.mpr ⟨mk, mem_mks fun x hx => h x (List.mem_cons_of_mem _ hx), ?_⟩
    rcases h m (List.mem_cons_self ..) with rfl | rfl <;> simp
noncomputable def stepB (L : List Nat) (m : Int) : List Nat := if m = 1 then L.map (· + 1) else L.flatMap fun b => b :: List.replicate b (b - 1)
noncomputable def bL (mk : List Int) : List Nat := mk.foldl stepB [0]
noncomputable def expandP (mk : List Int) : List Nat := (List.range (countsP mk).length).flatMap fun i => List.replicate ((countsP mk).getD i 0).toNat i
noncomputable def bound : List Nat := [1, 1, 2, 3, 7, 13, 34]
theorem marks_facts {mk : List Int} (h : Marks mk) : (expandP mk).Perm (bL mk) ∧ (∀ c ∈ countsP mk, 0 ≤ c ∧ c ≤ 100) ∧ (countsP mk).length ≤ 7 ∧ (expandP mk).length ≤ bound.getD mk.length 0 := by
  have a : ∀ n < 7, ((mks n).all fun mk => (expandP mk).isPerm (bL mk) && ((countsP mk).all fun c => decide (0 ≤ c) && decide (c ≤ 100)) && decide ((countsP mk).length ≤ 7) && decide ((expandP mk).length ≤ bound.getD n 0)) = true := by decide +kernel
  have := List.all_eq_true.mp (a mk.length (by have := h.1; (exact Nat.lt_succ_of_le this))) mk (mem_mks h.2)
  simp only [Bool.and_eq_true, decide_eq_true_eq] at this
  obtain ⟨⟨⟨h1, h2⟩, h3⟩, h4⟩ := this
  refine ⟨List.isPerm_iff.mp h1, fun c hc => ?_, h3, h4⟩
  have := List.all_eq_true.mp h2 c hc
  simp only [Bool.and_eq_true, decide_eq_true_eq] at this
  exact this
theorem widen_expand (j : Nat) (mk : List Int) (ds : List (List Lt)) : widenP j mk ds = ds.flatMap fun rest => (expandP mk).map (lettersP j mk rest) := by
  unfold widenP expandP
  congr 1
  funext rest
  rw [List.map_flatMap]
  congr 1
  funext i
  rw [List.map_replicate]
theorem marksP_snoc (w : List Lt) (l : Lt) (j : Nat) : marksP (w ++ [l]) j = if l.1 = j then marksP w j ++ [(l.2 : Int)] else marksP w j := by
  unfold marksP
  rw [List.filter_append, List.map_append]
  by_cases h : l.1 = j
  · rw [if_pos h, List.filter_cons, if_pos (by simp [h])]; rfl
  · rw [if_neg h, List.filter_cons, if_neg (by simp [h])]; simp
theorem lens {w : List Lt} (hw : ∀ l ∈ w, Lok l) : (marksP w 0).length + (marksP w 1).length + (marksP w 2).length = w.length := by
  induction w with
  | nil => rfl
  | cons l w ih =>
    have := ih fun x hx => hw x (List.mem_cons_of_mem _ hx)
    have hl := (hw l (List.mem_cons_self ..)).1
    unfold marksP at this ⊢
    simp only [List.length_map, List.filter_cons, List.length_cons] at this ⊢
    obtain h | h | h : l.1 = 0 ∨ l.1 = 1 ∨ l.1 = 2 := by lia
    all_goals
      rw [h]
      simp
      lia
theorem due_ok {w : List Lt} (hw : ∀ l ∈ w, Lok l) (h6 : w.length = 6) : DueOk w := by
  have M : ∀ j, Marks (marksP w j) := marks_ok hw (by (exact Nat.le_of_eq h6))
  refine ⟨fun j c hc => (marks_facts (M j)).2.1 c hc, fun j => (marks_facts (M j)).2.2.1, fun k hk => ?_⟩
  have len : ∀ (j : Nat) (ds : List (List Lt)), (widenP j (marksP w j) ds).length = ds.length * (expandP (marksP w j)).length := fun j ds => by
    rw [widen_expand]
    induction ds with
    | nil => simp
    | cons d ds ih => rw [List.flatMap_cons, List.length_append, ih, List.length_map, List.length_cons, Nat.add_mul, Nat.one_mul, Nat.add_comm]
  have b0 := (marks_facts (M 0)).2.2.2
  have b1 := (marks_facts (M 1)).2.2.2
  have b2 := (marks_facts (M 2)).2.2.2
  have hl := lens hw
  have hb : ((List.range 7).all fun a => (List.range 7).all fun b => (List.range 7).all fun c => a + b + c != 6 || (decide (bound.getD a 0 ≤ 60) && decide (bound.getD a 0 * bound.getD b 0 ≤ 60) && decide (bound.getD a 0 * bound.getD b 0 * bound.getD c 0 ≤ 60))) = true := by decide +kernel
  have hb := List.all_eq_true.mp (List.all_eq_true.mp (List.all_eq_true.mp hb _ (List.mem_range.mpr (by lia : (marksP w 0).length < 7))) _ (List.mem_range.mpr (by lia : (marksP w 1).length < 7))) _ (List.mem_range.mpr (by lia : (marksP w 2).length < 7))
  rw [hl, h6] at hb
  simp only [Bool.or_eq_true, Bool.and_eq_true, decide_eq_true_eq, bne_self_eq_false, Bool.false_eq_true, false_or] at hb
  obtain ⟨⟨q1, q2⟩, q3⟩ := hb
  have e1 : (stageP w 1).length ≤ bound.getD (marksP w 0).length 0 := by
    show (widenP 0 (marksP w 0) [[]]).length ≤ _
    rw [len]; simpa using b0
  have e2 : (stageP w 2).length ≤ bound.getD (marksP w 0).length 0 * bound.getD (marksP w 1).length 0 := by
    show (widenP 1 (marksP w 1) (stageP w 1)).length ≤ _
    rw [len]; exact Nat.mul_le_mul e1 b1
  have e3 : (stageP w 3).length ≤ bound.getD (marksP w 0).length 0 * bound.getD (marksP w 1).length 0 * bound.getD (marksP w 2).length 0 := by
    show (widenP 2 (marksP w 2) (stageP w 2)).length ≤ _
    rw [len]; exact Nat.mul_le_mul e2 b2
  obtain rfl | rfl | rfl | rfl : k = 0 ∨ k = 1 ∨ k = 2 ∨ k = 3 := by lia
  · show [([] : List Lt)].length ≤ 60; decide
  · (exact Nat.le_trans e1 q1)
  · (exact Nat.le_trans e2 q2)
  · (exact Nat.le_trans e3 q3)
theorem countB_up (L : List Nat) (x : Nat) : (L.map (· + 1)).count x = if x = 0 then 0 else L.count (x - 1) := by
  induction L with
  | nil => simp
  | cons b L ih =>
    rw [List.map_cons, List.count_cons, ih, List.count_cons]
    by_cases h : x = 0
    · subst h; simp
    · rw [if_neg h, if_neg h]
      by_cases q : b + 1 = x
      · subst q; simp
      · have : ¬ b = x - 1 := by lia
        simp [q, this]
theorem countB_down (L : List Nat) (x : Nat) : (L.flatMap fun b => b :: List.replicate b (b - 1)).count x = L.count x + (x + 1) * L.count (x + 1) := by
  induction L with
  | nil => simp
  | cons b L ih =>
    rw [List.flatMap_cons, List.count_append, ih, List.count_cons, List.count_cons, List.count_cons, List.count_replicate, Nat.mul_add]
    have : (if (b - 1 == x) = true then b else 0) = (x + 1) * if (b == x + 1) = true then 1 else 0 := by
      by_cases q : b = x + 1
      · subst q; simp
      · by_cases q' : b - 1 = x
        · have : b = 0 := by lia
          subst this; simp
        · simp [q, q']
    lia
theorem count_prod (A B C : List Nat) (x y z : Nat) : (A.flatMap fun a => B.flatMap fun b => C.map fun c => (a, b, c)).count (x, y, z) = A.count x * B.count y * C.count z := by
  have h1 : ∀ (a b : Nat), (C.map fun c => (a, b, c)).count (x, y, z) = if a = x ∧ b = y then C.count z else 0 := fun a b => by
    induction C with
    | nil => simp
    | cons c C ih =>
      rw [List.map_cons, List.count_cons, ih, List.count_cons]
      by_cases q : a = x ∧ b = y
      · obtain ⟨rfl, rfl⟩ := q
        simp
      · rw [if_neg q, if_neg q]
        have : ((a, b, c) == (x, y, z)) = false := beq_false_of_ne fun e => q (by cases e; exact ⟨rfl, rfl⟩)
        rw [this]; rfl
  have h2 : ∀ (a : Nat), (B.flatMap fun b => C.map fun c => (a, b, c)).count (x, y, z) = if a = x then B.count y * C.count z else 0 := fun a => by
    induction B with
    | nil => simp
    | cons b B ih =>
      rw [List.flatMap_cons, List.count_append, ih, h1, List.count_cons]
      by_cases q : a = x
      · by_cases q' : b = y
        · subst q; subst q'; simp [Nat.add_mul]; (exact Nat.add_comm _ _)
        · simp [q, q']
      · simp [q]
  induction A with
  | nil => simp
  | cons a A ih =>
    rw [List.flatMap_cons, List.count_append, ih, h2, List.count_cons]
    by_cases q : a = x
    · subst q; simp [Nat.add_mul]; rw [Nat.add_comm, Nat.mul_assoc]
    · simp [q]
end Mine
end

section
set_option Elab.async false
set_option maxRecDepth 100000
set_option maxHeartbeats 1000000
set_option linter.unusedVariables false
namespace Mine
open PySem

noncomputable abbrev St := Nat × Nat × Nat
noncomputable def st (t : List Lt) : St := (t.count (0, 1), t.count (1, 1), t.count (2, 1))
noncomputable def geS (s : St) (j : Nat) : Nat := if j = 0 then s.1 else if j = 1 then s.2.1 else s.2.2
noncomputable def upS (s : St) (j : Nat) : St := if j = 0 then (s.1 + 1, s.2) else if j = 1 then (s.1, s.2.1 + 1, s.2.2) else (s.1, s.2.1, s.2.2 + 1)
noncomputable def dnS (s : St) (j : Nat) : St := if j = 0 then (s.1 - 1, s.2) else if j = 1 then (s.1, s.2.1 - 1, s.2.2) else (s.1, s.2.1, s.2.2 - 1)
theorem upS_inj {s s' : St} {j : Nat} : upS s j = s' ↔ geS s' j ≠ 0 ∧ s = dnS s' j := by
  obtain ⟨a, b, c⟩ := s
  obtain ⟨a', b', c'⟩ := s'
  unfold upS geS dnS
  split
  · simp only [Prod.mk.injEq]; constructor <;> intro h <;> (refine ⟨?_, ?_⟩ <;> first | lia | exact ⟨by lia, h.2⟩ | exact h.2.2)
  · split
    · simp only [Prod.mk.injEq]; constructor <;> intro h <;> lia
    · simp only [Prod.mk.injEq]; constructor <;> intro h <;> lia
theorem geS_up {s : St} {j : Nat} : geS (upS s j) j = geS s j + 1 := by
  unfold geS upS
  split
  · rfl
  · split <;> rfl
theorem dnS_up {s : St} {j : Nat} : dnS (upS s j) j = s := by
  unfold dnS upS
  split
  · rfl
  · split <;> rfl
theorem up_dnS {s : St} {j : Nat} (h : geS s j ≠ 0) : upS (dnS s j) j = s := upS_inj.mpr ⟨h, rfl⟩
theorem countS_up (S : List St) (j : Nat) (s : St) : (S.map (upS · j)).count s = if geS s j = 0 then 0 else S.count (dnS s j) := by
  induction S with
  | nil => simp
  | cons b S ih =>
    rw [List.map_cons, List.count_cons, ih, List.count_cons]
    by_cases h : geS s j = 0
    · rw [if_pos h, if_pos h]
      have : (upS b j == s) = false := beq_false_of_ne fun e => (upS_inj.mp e).1 h
      rw [this]; rfl
    · rw [if_neg h, if_neg h]
      by_cases q : b = dnS s j
      · subst q
        rw [up_dnS h]; simp
      · have h1 : (upS b j == s) = false := beq_false_of_ne fun e => q (upS_inj.mp e).2
        have h2 : (b == dnS s j) = false := beq_false_of_ne q
        rw [h1, h2]
theorem countS_down (S : List St) (j : Nat) (s : St) : (S.flatMap fun b => b :: List.replicate (geS b j) (dnS b j)).count s = S.count s + (geS s j + 1) * S.count (upS s j) := by
  induction S with
  | nil => simp
  | cons b S ih =>
    rw [List.flatMap_cons, List.count_append, ih, List.count_cons, List.count_cons, List.count_cons, List.count_replicate, Nat.mul_add]
    have : (if (dnS b j == s) = true then geS b j else 0) = (geS s j + 1) * if (b == upS s j) = true then 1 else 0 := by
      by_cases q : b = upS s j
      · subst q
        rw [dnS_up, geS_up]; simp
      · have h2 : (b == upS s j) = false := beq_false_of_ne q
        rw [h2]
        by_cases q' : dnS b j = s
        · by_cases z : geS b j = 0
          · rw [z]; simp
          · exact absurd (by rw [← q', up_dnS z]) q
        · have h1 : (dnS b j == s) = false := beq_false_of_ne q'
          rw [h1]; simp
    lia
theorem count_insW {lt : Lt → Lt → Bool} {x : Lt} {t : List Lt} (l : Lt) : (insW lt x t).count l = t.count l + if x = l then 1 else 0 := by
  rw [(insW_perm (lt := lt) (x := x) (xs := t)).count_eq, List.count_cons]
  by_cases h : x = l <;> simp [h]
theorem count_erase {t : List Lt} {p : Nat} {x : Lt} (h : t[p]? = some x) (l : Lt) : t.count l = (t.eraseIdx p).count l + if x = l then 1 else 0 := by
  have e := split_at h
  have e1 : t.count l = (t.take p).count l + (x :: t.drop (p + 1)).count l := by rw [← List.count_append, ← e]
  rw [e1, List.eraseIdx_eq_take_drop_succ, List.count_append, List.count_cons]
  by_cases h : x = l <;> simp [h] <;> rfl
theorem at_count {β : Type} (a : Lt) : ∀ (t : List Lt) (g : Nat → β), ((List.range t.length).filterMap fun p => if t[p]? = some a then some (g p) else none).length = t.count a
  | [], g => rfl
  | x :: t, g => by
    rw [List.length_cons, List.range_succ_eq_map, List.filterMap_cons, List.count_cons]
    have ih := at_count a t (fun p => g (p + 1))
    have e : (List.map Nat.succ (List.range t.length)).filterMap (fun p => if (x :: t)[p]? = some a then some (g p) else none) = (List.range t.length).filterMap fun p => if t[p]? = some a then some (g (p + 1)) else none := by
      rw [List.filterMap_map]; rfl
    rw [e]
    by_cases h : x = a
    · subst h
      simp only [List.getElem?_cons_zero, if_true, List.length_cons, BEq.rfl, ih]
    · have h1 : ¬ some x = some a := fun q => h (by injection q)
      have h2 : (x == a) = false := beq_false_of_ne h
      simp only [List.getElem?_cons_zero, if_neg h1, h2, ih]
      simp
theorem geS_st {t : List Lt} {j : Nat} (hj : j < 3) : geS (st t) j = t.count (j, 1) := by
  obtain rfl | rfl | rfl : j = 0 ∨ j = 1 ∨ j = 2 := by lia
  all_goals rfl
theorem st_erase {t : List Lt} {p j : Nat} (hj : j < 3) (h : t[p]? = some (j, 1)) : st (t.eraseIdx p) = dnS (st t) j := by
  have c := count_erase h
  obtain rfl | rfl | rfl : j = 0 ∨ j = 1 ∨ j = 2 := by lia
  all_goals
    have c0 := c (0, 1)
    have c1 := c (1, 1)
    have c2 := c (2, 1)
    simp at c0 c1 c2
    unfold st dnS
    simp
    lia
theorem mem_rubs {t : List Lt} {j : Nat} {u : List Lt} (h : u ∈ rubs t j) : ∃ p : Nat, t[p]? = some (j, 1) ∧ u = t.eraseIdx p := by
  unfold rubs at h
  obtain ⟨p, hp, h⟩ := List.mem_filterMap.mp h
  split at h
  · rename_i q
    cases h
    exact ⟨p, q, rfl⟩
  · cases h
theorem rubs_st {t : List Lt} {j : Nat} (hj : j < 3) : (rubs t j).map st = List.replicate (geS (st t) j) (dnS (st t) j) := by
  refine List.eq_replicate_iff.mpr ⟨?_, fun b hb => ?_⟩
  · rw [List.length_map, geS_st hj]
    exact at_count (j, 1) t _
  · obtain ⟨u, hu, rfl⟩ := List.mem_map.mp hb
    obtain ⟨p, hp, rfl⟩ := mem_rubs hu
    exact st_erase hj hp
theorem ins_st {ms : List Nm} {t : List Lt} {l : Lt} (h : Lok l) : st (insW (llt ms) l t) = if l.2 = 1 then upS (st t) l.1 else st t := by
  obtain ⟨j, k⟩ := l
  obtain ⟨hj, hk⟩ := h
  have hj : j < 3 := hj
  have hk : k < 2 := hk
  unfold st
  rw [count_insW, count_insW, count_insW]
  obtain rfl | rfl : k = 0 ∨ k = 1 := by lia
  · simp
  · obtain rfl | rfl | rfl : j = 0 ∨ j = 1 ∨ j = 2 := by lia
    all_goals simp [upS]
theorem grow_st {ms : List Nm} {ts : List (List Lt)} {l : Lt} (h : Lok l) : (growP ms ts l).map st = if l.2 = 1 then (ts.map st).map (upS · l.1) else (ts.map st).flatMap fun b => b :: List.replicate (geS b l.1) (dnS b l.1) := by
  have hk : l.2 < 2 := h.2
  unfold growP
  rw [List.map_flatMap]
  obtain q | q : l.2 = 0 ∨ l.2 = 1 := by lia
  · rw [if_neg (by lia), List.flatMap_map]
    congr 1
    funext t
    unfold grow1
    rw [if_pos q, List.map_cons, rubs_st h.1, ins_st h, if_neg (by lia)]
  · rw [if_pos q, List.map_map, List.map_eq_flatMap]
    congr 1
    funext t
    unfold grow1
    rw [if_neg (by lia), List.map_cons, List.map_nil, ins_st h, if_pos q]; rfl
theorem terms_snoc {ms : List Nm} (w : List Lt) (l : Lt) : termsP ms (w ++ [l]) = growP ms (termsP ms w) l := by
  unfold termsP
  rw [List.foldl_append]; rfl
theorem bL_snoc (mk : List Int) (m : Int) : bL (mk ++ [m]) = stepB (bL mk) m := by
  unfold bL
  rw [List.foldl_append]; rfl
theorem alg0 (a a' b c k : Nat) : a * b * c + k * (a' * b * c) = (a + k * a') * b * c := by grind
theorem alg1 (a b b' c k : Nat) : a * b * c + k * (a * b' * c) = a * (b + k * b') * c := by grind
theorem alg2 (a b c c' k : Nat) : a * b * c + k * (a * b * c') = a * b * (c + k * c') := by grind
theorem terms_count {ms : List Nm} : ∀ (r : List Lt), (∀ l ∈ r, Lok l) → ∀ x y z, ((termsP ms r.reverse).map st).count (x, y, z) = (bL (marksP r.reverse 0)).count x * (bL (marksP r.reverse 1)).count y * (bL (marksP r.reverse 2)).count z
  | [], _, x, y, z => by
    show ([(0, 0, 0)] : List St).count (x, y, z) = ([0] : List Nat).count x * ([0] : List Nat).count y * ([0] : List Nat).count z
    exact count_prod [0] [0] [0] x y z
  | l :: r, h, x, y, z => by
    have ih := terms_count (ms := ms) r fun a ha => h a (List.mem_cons_of_mem _ ha)
    have hl := h l (List.mem_cons_self ..)
    rw [List.reverse_cons, terms_snoc, grow_st hl, marksP_snoc, marksP_snoc, marksP_snoc]
    generalize (termsP ms r.reverse).map st = S at *
    generalize marksP r.reverse 0 = m0 at *
    generalize marksP r.reverse 1 = m1 at *
    generalize marksP r.reverse 2 = m2 at *
    obtain ⟨j, k⟩ := l
    obtain ⟨hj, hk⟩ := hl
    have hj : j < 3 := hj
    have hk : k < 2 := hk
    obtain rfl | rfl : k = 0 ∨ k = 1 := by lia
    · have d0 : (S.flatMap fun b => b :: List.replicate (geS b 0) (dnS b 0)).count (x, y, z) = S.count (x, y, z) + (x + 1) * S.count (x + 1, y, z) := countS_down S 0 (x, y, z)
      have d1 : (S.flatMap fun b => b :: List.replicate (geS b 1) (dnS b 1)).count (x, y, z) = S.count (x, y, z) + (y + 1) * S.count (x, y + 1, z) := countS_down S 1 (x, y, z)
      have d2 : (S.flatMap fun b => b :: List.replicate (geS b 2) (dnS b 2)).count (x, y, z) = S.count (x, y, z) + (z + 1) * S.count (x, y, z + 1) := countS_down S 2 (x, y, z)
      have b : ∀ (L : List Nat) (x : Nat), (stepB L ((0 : Nat) : Int)).count x = L.count x + (x + 1) * L.count (x + 1) := countB_down
      obtain rfl | rfl | rfl : j = 0 ∨ j = 1 ∨ j = 2 := by lia
      · show (S.flatMap fun b => b :: List.replicate (geS b 0) (dnS b 0)).count (x, y, z) = (bL (m0 ++ [((0 : Nat) : Int)])).count x * (bL m1).count y * (bL m2).count z
        rw [d0, bL_snoc, b, ih, ih]
        exact alg0 ..
      · show (S.flatMap fun b => b :: List.replicate (geS b 1) (dnS b 1)).count (x, y, z) = (bL m0).count x * (bL (m1 ++ [((0 : Nat) : Int)])).count y * (bL m2).count z
        rw [d1, bL_snoc, b, ih, ih]
        exact alg1 ..
      · show (S.flatMap fun b => b :: List.replicate (geS b 2) (dnS b 2)).count (x, y, z) = (bL m0).count x * (bL m1).count y * (bL (m2 ++ [((0 : Nat) : Int)])).count z
        rw [d2, bL_snoc, b, ih, ih]
        exact alg2 ..
    · have b : ∀ (L : List Nat) (x : Nat), (stepB L ((1 : Nat) : Int)).count x = if x = 0 then 0 else L.count (x - 1) := countB_up
      obtain rfl | rfl | rfl : j = 0 ∨ j = 1 ∨ j = 2 := by lia
      · show (S.map (upS · 0)).count (x, y, z) = (bL (m0 ++ [((1 : Nat) : Int)])).count x * (bL m1).count y * (bL m2).count z
        rw [countS_up, bL_snoc, b]
        show (if x = 0 then 0 else S.count (x - 1, y, z)) = _
        rw [ih]
        split <;> simp
      · show (S.map (upS · 1)).count (x, y, z) = (bL m0).count x * (bL (m1 ++ [((1 : Nat) : Int)])).count y * (bL m2).count z
        rw [countS_up, bL_snoc, b]
        show (if y = 0 then 0 else S.count (x, y - 1, z)) = _
        rw [ih]
        split <;> simp
      · show (S.map (upS · 2)).count (x, y, z) = (bL m0).count x * (bL m1).count y * (bL (m2 ++ [((1 : Nat) : Int)])).count z
        rw [countS_up, bL_snoc, b]
        show (if z = 0 then 0 else S.count (x, y, z - 1)) = _
        rw [ih]
        split <;> simp
end Mine
end

section
set_option Elab.async false
set_option maxRecDepth 100000
set_option maxHeartbeats 1000000
set_option linter.unusedVariables false
namespace Mine
open PySem

structure TermInv (ms : List Nm) (w : List Lt) (t : List Lt) : Prop where
  ok : ∀ l ∈ t, Lok l
  up : t.Pairwise fun a b => llt ms b a = false
  short : t.length ≤ w.length
  gone : ∀ j, t.count (j, 0) + 2 * ones (marksP w j) = t.count (j, 1) + (marksP w j).length
theorem ins_up {ms : List Nm} (L : Letters ms) {l : Lt} (hl : Lok l) {t : List Lt} (ht : ∀ x ∈ t, Lok x) (h : t.Pairwise fun a b => llt ms b a = false) : (insW (llt ms) l t).Pairwise fun a b => llt ms b a = false :=
  insW_up (lt := llt ms) (P := Lok) (fun a b => ltTs_asym _ _) (fun a b d ha hb hd => leTs_tr (L.cmp a ha b hb) (L.cmp b hb d hd) (L.cmp a ha d hd)) hl ht h
theorem ones_snoc (mk : List Int) (m : Int) : ones (mk ++ [m]) = ones mk + if m = 1 then 1 else 0 := by
  unfold ones
  rw [List.count_append, List.count_cons, List.count_nil, Nat.zero_add]
  by_cases h : m = 1 <;> simp [h]
theorem terms_inv {ms : List Nm} (L : Letters ms) : ∀ (r : List Lt), (∀ l ∈ r, Lok l) → ∀ t ∈ termsP ms r.reverse, TermInv ms r.reverse t
  | [], _, t, ht => by
    have : t = [] := List.mem_singleton.mp ht
    subst this
    exact ⟨by simp, List.Pairwise.nil, Nat.le_refl _, fun j => rfl⟩
  | l :: r, h, t, ht => by
    have ih := terms_inv L r fun a ha => h a (List.mem_cons_of_mem _ ha)
    have hl := h l (List.mem_cons_self ..)
    rw [List.reverse_cons] at ht ⊢
    rw [terms_snoc] at ht
    obtain ⟨u, hu, ht⟩ := List.mem_flatMap.mp ht
    obtain ⟨u1, u2, u3, u4⟩ := ih u hu
    rcases List.mem_cons.mp ht with rfl | ht
    · refine ⟨fun x hx => ?_, ins_up L hl u1 u2, ?_, fun j => ?_⟩
      · rcases List.mem_cons.mp (insW_perm.mem_iff.mp hx) with rfl | hx
        · exact hl
        · exact u1 x hx
      · rw [insW_length, List.length_append]; simp only [List.length_cons, List.length_nil]; (exact Nat.succ_le_succ u3)
      · have := u4 j
        rw [count_insW, count_insW, marksP_snoc]
        obtain ⟨i, k⟩ := l
        have hk : k < 2 := hl.2
        by_cases q : i = j
        · subst q
          rw [if_pos rfl, ones_snoc, List.length_append]
          obtain rfl | rfl : k = 0 ∨ k = 1 := by lia
          · simp; lia
          · simp; lia
        · rw [if_neg q]
          simp [q]; omega
    · split at ht
      · rename_i q
        obtain ⟨p, hp, rfl⟩ := mem_rubs ht
        have hs := List.eraseIdx_sublist u p
        refine ⟨fun x hx => u1 x (hs.subset hx), List.Pairwise.sublist hs u2, ?_, fun j => ?_⟩
        · have := hs.length_le
          rw [List.length_append]; lia
        · have := u4 j
          have c0 := count_erase hp (j, 0)
          have c1 := count_erase hp (j, 1)
          rw [marksP_snoc]
          obtain ⟨i, k⟩ := l
          have q : k = 0 := q
          subst q
          by_cases q : i = j
          · subst q
            rw [if_pos rfl, ones_snoc, List.length_append]
            simp at c0 c1 ⊢; lia
          · rw [if_neg q]
            simp [q] at c0 c1 ⊢; lia
      · cases ht
noncomputable def facN : Nat → Nat
  | 0 => 1
  | n + 1 => facN n * (n + 1)
theorem rubs_few {t : List Lt} {j : Nat} : (rubs t j).length ≤ t.length := by
  unfold rubs
  exact Nat.le_trans (List.length_filterMap_le ..) (by rw [List.length_range]; exact Nat.le_refl _)
theorem terms_few {ms : List Nm} (L : Letters ms) : ∀ (r : List Lt), (∀ l ∈ r, Lok l) → (termsP ms r.reverse).length ≤ facN r.length
  | [], _ => Nat.le_refl _
  | l :: r, h => by
    have ih := terms_few L r fun a ha => h a (List.mem_cons_of_mem _ ha)
    have inv := terms_inv L r fun a ha => h a (List.mem_cons_of_mem _ ha)
    rw [List.reverse_cons, terms_snoc]
    have key : ∀ S : List (List Lt), (∀ t ∈ S, t.length ≤ r.length) → (growP ms S l).length ≤ S.length * (r.length + 1) := fun S => by
      unfold growP
      induction S with
      | nil => intro _; simp
      | cons t S ih =>
        intro hS
        have := ih fun x hx => hS x (List.mem_cons_of_mem _ hx)
        have ht := hS t (List.mem_cons_self ..)
        have hg : (grow1 ms l t).length ≤ r.length + 1 := by
          unfold grow1
          rw [List.length_cons]
          split
          · have := rubs_few (t := t) (j := l.1); lia
          · simp
        rw [List.flatMap_cons, List.length_append, List.length_cons, Nat.add_mul, Nat.one_mul]
        lia
    have := key (termsP ms r.reverse) fun t ht => by
      have := (inv t ht).short
      rw [List.length_reverse] at this; exact this
    exact Nat.le_trans this (Nat.mul_le_mul ih (Nat.le_refl _))
theorem facN_mono : ∀ {n : Nat}, n ≤ 6 → facN n ≤ 1000 := by
  intro n hn
  have : ∀ n < 7, facN n ≤ 1000 := by decide +kernel
  exact this n (by (exact Nat.lt_succ_of_le hn))
noncomputable def LL (w : List Lt) (a b c : Nat) : List Lt := lettersP 2 (marksP w 2) (lettersP 1 (marksP w 1) (lettersP 0 (marksP w 0) [] a) b) c
theorem stage_prod (w : List Lt) : stageP w 3 = (expandP (marksP w 0)).flatMap fun a => (expandP (marksP w 1)).flatMap fun b => (expandP (marksP w 2)).map fun c => LL w a b c := by
  show widenP 2 (marksP w 2) (widenP 1 (marksP w 1) (widenP 0 (marksP w 0) [[]])) = _
  rw [widen_expand, widen_expand, widen_expand, List.flatMap_cons, List.flatMap_nil, List.append_nil, List.flatMap_map, List.flatMap_assoc]
  congr 1
  funext a
  rw [List.flatMap_map]
  rfl
theorem LL_st (w : List Lt) (a b c : Nat) : st (LL w a b c) = (a, b, c) := by
  unfold st LL lettersP
  simp [List.count_append, List.count_replicate]
theorem LL_zero (w : List Lt) (a b c : Nat) : (LL w a b c).count (0, 0) = (((marksP w 0).length : Int) - 2 * (ones (marksP w 0) : Int) + a).toNat ∧ (LL w a b c).count (1, 0) = (((marksP w 1).length : Int) - 2 * (ones (marksP w 1) : Int) + b).toNat ∧ (LL w a b c).count (2, 0) = (((marksP w 2).length : Int) - 2 * (ones (marksP w 2) : Int) + c).toNat := by
  unfold LL lettersP
  simp [List.count_append, List.count_replicate]
theorem LL_ok (w : List Lt) (a b c : Nat) : ∀ l ∈ LL w a b c, Lok l := lettersP_ok (by decide) (lettersP_ok (by decide) (lettersP_ok (by decide) (by simp)))
theorem term_LL {ms : List Nm} {w : List Lt} {t : List Lt} (h : TermInv ms w t) : t.Perm (LL w (st t).1 (st t).2.1 (st t).2.2) := by
  refine List.perm_iff_count.mpr fun l => ?_
  generalize hu : LL w (st t).1 (st t).2.1 (st t).2.2 = u
  by_cases hl : Lok l
  · obtain ⟨j, k⟩ := l
    obtain ⟨hj, hk⟩ := hl
    have hj : j < 3 := hj
    have hk : k < 2 := hk
    obtain rfl | rfl : k = 0 ∨ k = 1 := by lia
    · obtain ⟨z0, z1, z2⟩ := LL_zero w (st t).1 (st t).2.1 (st t).2.2
      rw [hu] at z0 z1 z2
      have g := h.gone j
      obtain rfl | rfl | rfl : j = 0 ∨ j = 1 ∨ j = 2 := by lia
      · rw [z0]; unfold st; dsimp only; lia
      · rw [z1]; unfold st; dsimp only; lia
      · rw [z2]; unfold st; dsimp only; lia
    · have e := LL_st w (st t).1 (st t).2.1 (st t).2.2
      rw [hu] at e
      have e' : st u = st t := e
      have h1 : geS (st t) j = t.count (j, 1) := geS_st hj
      have h2 : geS (st u) j = u.count (j, 1) := geS_st hj
      rw [e'] at h2
      lia
  · rw [List.count_eq_zero_of_not_mem fun q => hl (h.ok l q), List.count_eq_zero_of_not_mem fun q => hl (LL_ok w _ _ _ l (hu ▸ q))]
theorem tkey_of {ms : List Nm} {a b : List Lt} (h : (a.map fun l => T.list (ldue ms l)) = b.map fun l => T.list (ldue ms l)) : tkey ms a = tkey ms b := by
  have e : ∀ a : List Lt, tkey ms a = (a.map fun l => T.list (ldue ms l)).flatMap fun t => match t with | .list ts => ts | _ => [] := fun a => by
    rw [List.flatMap_map]; rfl
  rw [e, e, h]
theorem up_list {ms : List Nm} {t : List Lt} (h : t.Pairwise fun a b => llt ms b a = false) : Up (t.map fun l => T.list (ldue ms l)) := by
  unfold Up
  rw [List.pairwise_map]
  exact h.imp fun {a b} q => by rw [ltT]; exact q
theorem tkey_sort {ms : List Nm} (L : Letters ms) {t u : List Lt} (ht : ∀ l ∈ t, Lok l) (hu : ∀ l ∈ u, Lok l) (hp : t.Perm u) (hup : t.Pairwise fun a b => llt ms b a = false) : tkey ms (sortL ms u) = tkey ms t :=
  (tkey_of (sorted_is L hu (hp.map _) (up_list hup))).symm
theorem same_keys {ms : List Nm} (L : Letters ms) {w : List Lt} (hw : ∀ l ∈ w, Lok l) (h6 : w.length ≤ 6) : ((stageP w 3).map fun ls => T.list (tkey ms (sortL ms ls))).Perm ((termsP ms w).map fun t => T.list (tkey ms t)) := by
  have hw' : ∀ l ∈ w.reverse, Lok l := fun l hl => hw l (List.mem_reverse.mp hl)
  have inv := terms_inv L w.reverse hw'
  have cnt := terms_count (ms := ms) w.reverse hw'
  rw [List.reverse_reverse] at inv cnt
  have M : ∀ j, Marks (marksP w j) := marks_ok hw h6
  have hK : (termsP ms w).map (fun t => T.list (tkey ms t)) = ((termsP ms w).map st).map fun s => T.list (tkey ms (sortL ms (LL w s.1 s.2.1 s.2.2))) := by
    rw [List.map_map]
    refine List.map_congr_left fun t ht => ?_
    have I := inv t ht
    show T.list (tkey ms t) = T.list (tkey ms (sortL ms (LL w (st t).1 (st t).2.1 (st t).2.2)))
    rw [tkey_sort L I.ok (LL_ok w _ _ _) (term_LL I) I.up]
  have hS : (stageP w 3).map (fun ls => T.list (tkey ms (sortL ms ls))) = ((expandP (marksP w 0)).flatMap fun a => (expandP (marksP w 1)).flatMap fun b => (expandP (marksP w 2)).map fun c => (a, b, c)).map fun s => T.list (tkey ms (sortL ms (LL w s.1 s.2.1 s.2.2))) := by
    rw [stage_prod]
    simp only [List.map_flatMap, List.map_map]
    rfl
  rw [hK, hS]
  refine List.Perm.map _ (List.perm_iff_count.mpr fun s => ?_)
  obtain ⟨x, y, z⟩ := s
  rw [cnt, count_prod, (marks_facts (M 0)).1.count_eq, (marks_facts (M 1)).1.count_eq, (marks_facts (M 2)).1.count_eq]
noncomputable def Laid (ms : List Nm) (mid : List It) : Prop := mid.Pairwise fun a b => ilt ms b a = false ∧ (tkey ms a.1 = tkey ms b.1 → b.2 < a.2)
theorem takeWhile_mem {α : Type} {p : α → Bool} {xs : List α} {y : α} (h : y ∈ xs.takeWhile p) : p y = true ∧ y ∈ xs := by
  induction xs with
  | nil => cases h
  | cons x xs ih =>
    rw [List.takeWhile_cons] at h
    split at h
    · rename_i q
      rcases List.mem_cons.mp h with rfl | h
      · exact ⟨q, List.mem_cons_self ..⟩
      · exact ⟨(ih h).1, List.mem_cons_of_mem _ (ih h).2⟩
    · cases h
theorem laid_ins {ms : List Nm} (J : Joins ms) {mid : List It} {x : It} (hx : ∀ l ∈ x.1, Lok l) (hm : ∀ p ∈ mid, (∀ l ∈ p.1, Lok l) ∧ p.2 < x.2) (h : Laid ms mid) : Laid ms (insW (ilt ms) x mid) := by
  have h1 : (insW (ilt ms) x mid).Pairwise fun a b => ilt ms b a = false :=
    insW_up (lt := ilt ms) (P := fun p => ∀ l ∈ p.1, Lok l) (fun a b => ltTs_asym _ _) (fun a b d ha hb hd => leTs_tr (J.cmp _ ha _ hb) (J.cmp _ hb _ hd) (J.cmp _ ha _ hd)) hx (fun y hy => (hm y hy).1) (h.imp fun q => q.1)
  have h2 : (insW (ilt ms) x mid).Pairwise fun a b => tkey ms a.1 = tkey ms b.1 → b.2 < a.2 := by
    have h0 : mid.Pairwise fun a b => tkey ms a.1 = tkey ms b.1 → b.2 < a.2 := h.imp fun q => q.2
    have hd : ∀ z ∈ mid.dropWhile fun y => ilt ms y x, z ∈ mid := fun z hz => (List.dropWhile_sublist _).subset hz
    unfold insW
    rw [← List.takeWhile_append_dropWhile (p := fun y => ilt ms y x) (l := mid)] at h0
    obtain ⟨a1, a2, a3⟩ := List.pairwise_append.mp h0
    refine List.pairwise_append.mpr ⟨a1, List.pairwise_cons.mpr ⟨fun z hz _ => (hm z (hd z hz)).2, a2⟩, fun y hy z hz e => ?_⟩
    rcases List.mem_cons.mp hz with rfl | hz
    · have := (takeWhile_mem hy).1
      unfold ilt at this
      rw [e, ltTs_irr] at this
      cases this
    · exact a3 y hy z hz e
  exact h1.and h2
theorem shelf_laid {ms : List Nm} (J : Joins ms) : ∀ {ts : List (List Lt)} {k : Nat} {mid : List It}, (∀ t ∈ ts, ∀ l ∈ t, Lok l) → (∀ p ∈ mid, (∀ l ∈ p.1, Lok l) ∧ p.2 < k) → Laid ms mid → Laid ms (shelfP ms ts k mid) ∧ ((shelfP ms ts k mid).map Prod.fst).Perm (ts ++ mid.map Prod.fst)
  | [], k, mid, _, _, h => ⟨h, List.Perm.refl _⟩
  | t :: ts, k, mid, ht, hm, h => by
    have hx := ht t (List.mem_cons_self ..)
    obtain ⟨a, b⟩ := shelf_laid J (ts := ts) (k := k + 1) (mid := insW (ilt ms) (t, k) mid) (fun u hu => ht u (List.mem_cons_of_mem _ hu)) (fun p hp => by
      rcases List.mem_cons.mp (insW_perm.mem_iff.mp hp) with rfl | hp
      · exact ⟨hx, by show k < k + 1; (exact Nat.le_refl _)⟩
      · exact ⟨(hm p hp).1, by have := (hm p hp).2; (exact Nat.lt_succ_of_lt this)⟩) (laid_ins J hx hm h)
    refine ⟨a, b.trans ?_⟩
    refine ((insW_perm.map _).append_left _).trans ?_
    rw [List.map_cons]
    exact List.perm_middle
theorem law_words {ms : List Nm} (hms : Names ms) (w : List Lt) (h6 : w.length = 6) (hw : ∀ l ∈ w, Lok l) : LawP ms w := by
  have L := names_letters hms
  have J := names_joins hms
  have hw' : ∀ l ∈ w.reverse, Lok l := fun l hl => hw l (List.mem_reverse.mp hl)
  have inv := terms_inv L w.reverse hw'
  rw [List.reverse_reverse] at inv
  obtain ⟨s1, s2⟩ := shelf_laid J (ts := termsP ms w) (k := 0) (mid := []) (fun t ht => (inv t ht).ok) (by simp) List.Pairwise.nil
  rw [List.map_nil, List.append_nil] at s2
  have s1 : Laid ms (midP ms w) := s1
  have s2 : ((midP ms w).map Prod.fst).Perm (termsP ms w) := s2
  have mok : ∀ p ∈ midP ms w, ∀ l ∈ p.1, Lok l := fun p hp => (inv p.1 (s2.mem_iff.mp (List.mem_map.mpr ⟨p, hp, rfl⟩))).ok
  refine ⟨fun k => ?_, due_ok hw h6, mok, fun i p q hi hi1 e => ?_, fun us hp hu => ?_⟩
  · have hk : ∀ l ∈ (w.take k).reverse, Lok l := fun l hl => hw l (List.mem_of_mem_take (List.mem_reverse.mp hl))
    have i1 := terms_inv L (w.take k).reverse hk
    have i2 := terms_few L (w.take k).reverse hk
    rw [List.reverse_reverse] at i1 i2
    rw [List.length_reverse, List.length_take] at i2
    refine ⟨Nat.le_trans i2 (facN_mono (by lia)), fun t ht => ⟨(i1 t ht).ok, (i1 t ht).up, ?_⟩⟩
    have := (i1 t ht).short
    rw [List.length_take] at this
    lia
  · obtain ⟨hi1', hi2⟩ := List.getElem?_eq_some_iff.mp hi
    obtain ⟨hj1, hj2⟩ := List.getElem?_eq_some_iff.mp hi1
    have := (List.pairwise_iff_getElem.mp s1 i (i + 1) hi1' hj1 (by lia)).2
    rw [hi2, hj2] at this
    exact this e
  · have hfam : Fam ((midP ms w).map fun p => T.list (tkey ms p.1)) := fun a ha b hb => by
      obtain ⟨p, hp, rfl⟩ := List.mem_map.mp ha
      obtain ⟨q, hq, rfl⟩ := List.mem_map.mp hb
      rw [cmpT]
      exact J.cmp _ (mok p hp) _ (mok q hq)
    refine up_unique hfam (hp.trans ((same_keys L hw (by (exact Nat.le_of_eq h6))).trans ?_)) hu ?_
    · have := (s2.map fun t => T.list (tkey ms t)).symm
      rw [List.map_map] at this
      exact this
    · unfold Up
      rw [List.pairwise_map]
      exact s1.imp fun {a b} q => by rw [ltT]; exact q.1
end Mine
end

section
set_option Elab.async false
set_option maxRecDepth 100000
set_option maxHeartbeats 4000000
set_option linter.unusedVariables false
open PySem PySem.W PyProof.Rows
namespace Mine
noncomputable def stEntry (P : Params) (e : Str × Int × Nat × Nat) : DictEntry := { hash := PyData.keyHash P e.1, key := .str e.1 e.2.2.1, val := .int e.2.1 e.2.2.2 }
theorem find_stages {P : Params} (v : Str) : ∀ L : List (Str × Int × Nat × Nat), (((L.map (stEntry P)).find? fun e => Value.isStrOf v e.key) = none ∧ (L.map fun e => (e.1, e.2.1)).lookup v = none) ∨
    ∃ e t, ((L.map (stEntry P)).find? fun e => Value.isStrOf v e.key) = some e ∧ ∃ i : Int, e.val = .int i t ∧ (L.map fun e => (e.1, e.2.1)).lookup v = some i
  | [] => .inl ⟨rfl, rfl⟩
  | e :: L => by
    rw [List.map_cons, List.map_cons, List.find?_cons, List.lookup_cons]
    by_cases h : v = e.1
    · have h1 : Value.isStrOf v (stEntry P e).key = true := by
        show (e.1 == v) = true
        rw [h]; exact BEq.rfl
      have h2 : (v == e.1) = true := by rw [h]; exact BEq.rfl
      rw [h1, h2]
      exact .inr ⟨_, _, rfl, _, rfl, rfl⟩
    · have h1 : Value.isStrOf v (stEntry P e).key = false := beq_false_of_ne fun q => h q.symm
      have h2 : (v == e.1) = false := beq_false_of_ne h
      rw [h1, h2]
      exact find_stages v L
theorem stages_of {prog : Program} {w : World} {h : Heap} {a : Addr} {L : List (Str × Int × Nat × Nat)} {o : Obj} {es : Array DictEntry} {n : Nat} (ho : h.get? a = some o) (hx : o.ExactDict) (hd : o.data = .dict es n) (he : es.toList = L.map (stEntry w.params)) (hL : (L.map fun e => (e.1, e.2.1)) = stagesT) :
    ∃ f, h.MapOf (strKind prog w) a f ∧ ∀ v, (f v = none ∧ stage v = 0) ∨ ∃ t, f v = some (.int (stage v) t) := by
  refine ⟨fun k => findBy (strKind prog w).is es k, ⟨o, es, n, ho, hx, hd, fun e hm => ?_, fun k => rfl⟩, fun v => ?_⟩
  · have : e ∈ es.toList := by simpa using hm
    rw [he] at this
    obtain ⟨q, _, rfl⟩ := List.mem_map.mp this
    exact ⟨q.1, BEq.rfl, rfl⟩
  · have e1 : findBy (strKind prog w).is es v = (es.toList.find? fun e => Value.isStrOf v e.key).map (·.val) := by
      unfold findBy
      rw [← Array.find?_toList]; rfl
    show (findBy (strKind prog w).is es v = none ∧ _) ∨ ∃ t, findBy (strKind prog w).is es v = _
    rw [e1, he]
    unfold stage
    rw [← hL]
    rcases find_stages (P := w.params) v L with ⟨h1, h2⟩ | ⟨e, t, h1, i, h2, h3⟩
    · rw [h1, h2]
      exact .inl ⟨rfl, rfl⟩
    · rw [h1, h3]
      exact .inr ⟨t, by rw [Option.map_some, h2]; rfl⟩
theorem well_allInts {P : Params} {h : Heap} {H : PHeap} : ∀ {ns : List Int} {vs : List Value}, WellAll P h vs (ofPys (ns.map PyData.int)) → DenL H (intsT ns) vs
  | [], _, r => by
    rw [List.map_nil] at r
    unfold ofPys at r
    cases r
    exact .nil
  | n :: ns, _, r => by
    rw [List.map_cons] at r
    unfold ofPys at r
    cases r with
    | cons a b =>
      unfold ofPy at a
      cases a
      exact .cons (by unfold Den; exact ⟨_, rfl⟩) (well_allInts b)
theorem well_ints {P : Params} {h : Heap} {a : Addr} {ns : List Int} (w : Well P h (.ref a) (ofPy (.list (ns.map PyData.int)))) : Den h.get? (.list (intsT ns)) (.ref a) := by
  unfold ofPy at w
  cases w with
  | list hg hw =>
    unfold Den
    exact ⟨a, _, _, rfl, hg, well_allInts hw⟩
theorem room_caller {n : Nat} (h : n ≤ 100) : Room n callerA := ⟨fun _ => rfl, by show 1 + claimMargin + n ≤ 900; have : claimMargin = 300 := rfl; lia, by show 4 + 60 * n ≤ 9000; lia⟩
theorem law_end {C : Cx} {n : Nat} {al l : Addr} {ns : List Int} {s : Shared} {Q : Value → Shared → Prop} {E : Value → Shared → Prop}
    (h : Con C n (.ref al) [] [.val (.list (intsT ns))] [] fun d O' => RetD [] O' d fun t => t = .bool true) (hn : n ≤ 100) (hB : C.B = s.heap) (hos : C.os = s.os) (hg : s.gens = #[])
    (hw : Well C.w.params s.heap (.ref l) (ofPy (.list (ns.map PyData.int)))) (hQ : ∀ s' : Shared, (∀ b o, s.heap.get? b = some o → s'.heap.get? b = some o) → s'.os = s.os → s'.gens = #[] → Q (.bool true) s') :
    wpC (model C.prog C.w) callerA (call (.ref al) [.ref l]) Q E s := by
  have M : Mem C callerA s.heap.get? [] [] s := ⟨fun a o e => by rw [hB] at e; exact e, fun a o e => e, rfl, List.nodup_nil, fun i a ob e => (by simp at e), fun a e => (by simp at e), hos.symm, hg, ⟨[], rfl, fun env e => (by simp at e)⟩⟩
  refine wpC_mono (h callerA s.heap.get? [] s [.ref l] [] E (room_caller hn) M ⟨well_ints hw, trivial⟩ rfl trivial) ?_ (fun _ _ q => q)
  rintro v s' ⟨d, O', H', as', ⟨t, rfl, rfl, rfl⟩, M', hv, _⟩
  have hv : Den H' (.bool true) v := hv
  unfold Den at hv
  subst hv
  exact hQ s' (fun b o e => M'.sat b o (M'.base b o (by rw [hB]; exact e))) (M'.os.trans hos) M'.gens
end Mine
end

section
set_option Elab.async false
set_option maxRecDepth 100000
set_option maxHeartbeats 8000000
open PySem PySem.W PyProof.Rows
namespace Mine.Hd
open_top hd for PySem.Challenge.rw_wn0033_01


end Mine.Hd
end

set_option Elab.async false
set_option maxRecDepth 100000
set_option maxHeartbeats 4000000
set_option linter.unusedVariables false
open PySem PySem.W PyProof.Rows
namespace Mine
theorem defAt_of {C : Cx} {K : Frag} (X : K.In C.B) {x : Str} {a c : Addr} {pm doc dV kV : Value} {o oc : Obj} {vs : Array Value} {t : Tok} (hm : C.mg x = some (.ref a)) (h1 : K.lookup a = some o)
    (h2 : o.data = .func (fdOf PW x pm (.ref c) doc dV kV)) (h3 : K.lookup c = some oc) (h4 : oc.data = .fields vs) (h5 : vs[1]? = some (.str x t)) : DefAt C PW x a dV kV :=
  ⟨hm, o, pm, .ref c, doc, X a o h1, h2, c, oc, vs, t, rfl, X c oc h3, h4, h5⟩
theorem kw_of {h : Heap} {a : Addr} {e : DictEntry} {n : Nat} {c : Value} (h1 : h.get? a = some { cls := c, data := .dict #[e] n }) {t : Tok} (hk : e.key = .str "key" t) (hv : e.val = .none) : ∃ m, h.Ns a m ∧ m "key" = some .none := by
  refine ⟨fun x => nsFind #[e] x, ⟨_, _, _, h1, rfl, fun e' he => ?_, fun _ => rfl⟩, ?_⟩
  · have : e' = e := by simpa using he
    subst this
    exact ⟨_, _, hk⟩
  · unfold nsFind findBy
    simp [hk, Value.isStr, hv]
section
variable {C : Cx} {P : Params}
theorem bi_of (KX : (Mine.Hd.hd.heap_39 P).In C.B) (hb : ∀ x : Str, x ≠ "__name__" → C.mb x = bootBuiltins x) {x : Str} {v : Value} (h1 : nsIn (Mine.Hd.hd.heap_39 P) mainGlobals x = some none) (h2 : (x == "__name__") = false) (h3 : bootBuiltins x = some v) : Bi C x v :=
  ⟨mg_none_of KX C.g h1, (hb x (fun e => by rw [e] at h2; exact absurd h2 (by decide))).trans h3⟩
theorem pat_of (KX : (Mine.Hd.hd.heap_39 P).In C.B) : PatAt C.B 43 :=
  ⟨_, 42, _, _, _, _, _, _, _, _, _, KX 43 _ rfl, rfl, rfl, rfl, KX 42 _ rfl, rfl, by decide +kernel⟩
noncomputable def stL : List (Str × Int × Nat × Nat) := [("dev", 10, 345, 346), ("alpha", 20, 347, 348), ("a", 20, 349, 350), ("beta", 30, 351, 352), ("b", 30, 353, 354), ("c", 40, 355, 356), ("RC", 50, 357, 358), ("rc", 50, 359, 360), ("pl", 200, 361, 362), ("p", 200, 363, 364)]
theorem tab_of (KX : (Mine.Hd.hd.heap_39 C.w.params).In C.B) : ∃ f, C.B.MapOf (strKind C.prog C.w) 44 f ∧ ∀ v, (f v = none ∧ stage v = 0) ∨ ∃ t, f v = some (.int (stage v) t) :=
  stages_of (L := stL) (KX 44 _ rfl) ⟨rfl, rfl, rfl⟩ rfl rfl rfl
theorem w1_of (KX : (Mine.Hd.hd.heap_39 C.w.params).In C.B) (hb : ∀ x : Str, x ≠ "__name__" → C.mb x = bootBuiltins x) : W1 C 69 60 61 62 52 53 51 43 44 38 76 83 90 95 102 109 114 119 := by
  have b : BisW C PW 69 60 61 62 52 53 := ⟨defAt_of KX (mg_of KX C.g rfl) rfl rfl rfl rfl rfl, defAt_of KX (mg_of KX C.g rfl) rfl rfl rfl rfl rfl, ⟨⟨_, _, _, KX 61 _ rfl, rfl⟩, kw_of (KX 62 _ rfl) rfl rfl⟩, ⟨⟨_, _, _, KX 52 _ rfl, rfl⟩, kw_of (KX 53 _ rfl) rfl rfl⟩, bi_of KX hb rfl rfl rfl⟩
  have c : CvW C PW 51 43 44 := ⟨defAt_of KX (mg_of KX C.g rfl) rfl rfl rfl rfl rfl, pat_of KX, mg_of KX C.g rfl, mg_of KX C.g rfl, tab_of KX, ⟨_, KX 44 _ rfl, rfl, rfl⟩, rfl, bi_of KX hb rfl rfl rfl, bi_of KX hb rfl rfl rfl⟩
  have s : SubW C PW 38 := ⟨defAt_of KX (mg_of KX C.g rfl) rfl rfl rfl rfl rfl, ⟨_, mg_of KX C.g rfl⟩, ⟨_, mg_of KX C.g rfl⟩⟩
  exact ⟨b, c, s, defAt_of KX (mg_of KX C.g rfl) rfl rfl rfl rfl rfl, defAt_of KX (mg_of KX C.g rfl) rfl rfl rfl rfl rfl, defAt_of KX (mg_of KX C.g rfl) rfl rfl rfl rfl rfl, defAt_of KX (mg_of KX C.g rfl) rfl rfl rfl rfl rfl,
    defAt_of KX (mg_of KX C.g rfl) rfl rfl rfl rfl rfl, defAt_of KX (mg_of KX C.g rfl) rfl rfl rfl rfl rfl, defAt_of KX (mg_of KX C.g rfl) rfl rfl rfl rfl rfl, defAt_of KX (mg_of KX C.g rfl) rfl rfl rfl rfl rfl,
    bi_of KX hb rfl rfl rfl, bi_of KX hb rfl rfl rfl, bi_of KX hb rfl rfl rfl, bi_of KX hb rfl rfl rfl, bi_of KX hb rfl rfl rfl, bi_of KX hb rfl rfl rfl, bi_of KX hb rfl rfl rfl⟩
end
end Mine
set_option maxHeartbeats 8000000 in
theorem PySem.Challenge.cw_wn0033_01_holds : PySem.Challenge.rw_wn0033_01.Holds := by
  refine Mine.Hd.hd ?_
  intro w s0 s1 mg mb G Y fa o pm cd doc dV kV ho hd hcd hD hmg hg args vals as hpre hlay hrd hwl hlo
  have KX := kIn_of Y
  clear Y ho hd hcd hD
  wrow_args hpre hlay hrd hwl hlo
  rename_i ns _ _ _ _ _ _ _ l _ _ _ _ hw _ _ _ hlen _
  have e1 : mg "law" = some (.ref 124) := mg_of KX G.T.g rfl
  have e2 : fa = 124 := by
    have := hmg.symm.trans e1
    injection this with this
    injection this
  subst e2
  have := Mine.con_law (C := ⟨PySem.Challenge.pw_wn0033_01, w, s1.heap, s1.os, mg, mb, G.T.nolimit, G.T.g, G.T.b, G.T.nodigits⟩) (n := 0) (Mine.defAt_of KX (mg_of KX G.T.g rfl) rfl rfl rfl rfl rfl) (Mine.w1_of KX G.T.builtins)
    (fun ms h => ⟨Mine.names_letters h, Mine.names_joins h⟩) (fun ms h w h6 hw => Mine.law_words h w h6 hw) (ns := ns) (by omega)
  refine Mine.law_end this (by omega) rfl rfl hg hw fun s' k1 k2 k3 => ?_
  refine GoodW.toG ⟨.inl ⟨_, .bool true, [], rfl, fun _ => rfl, .bool true, ?_, ?_⟩, k1, k2, k3⟩
  · clear hmg e1 G KX this
    wrow_post
  · clear hmg e1 G KX this
    exact fun _ => ⟨List.nodup_nil, fun a h => by cases h⟩
