import PyProof.Rows.All
import PyProof.SliceMore
import PyProof.SliceStr2
import PyProof.StrLaws
import Wide.All
import OpenK.AllK
import Wide.FinOn
import Lean
import PySem.Challenge.RW_wn0033_02
set_option genSizeOf false
set_option genSizeOfSpec false
set_option genInjectivity false
set_option bootstrap.genMatcherCode false
set_option compiler.extract_closed false

section
set_option Elab.async false
set_option maxRecDepth 100000
set_option linter.unusedVariables false
namespace Mine
open PySem PySem.W PyProof.Rows PySem.Calls

noncomputable def Called (Γ : Ctx) : Prop := ((Γ.code :: Γ.below.map (·.1)).any Code.isCaller) = true
noncomputable def CalledB (Γ : Ctx) : Prop := ((Γ.below.map (·.1)).any Code.isCaller) = true
theorem CalledB.called {Γ : Ctx} (h : CalledB Γ) : Called Γ := by
  unfold Called; rw [List.any_cons, (show _ = true from h), Bool.or_true]
theorem Called.enter {Γ : Ctx} (h : Called Γ) (c : Code) (hd : Option Value) (p : Pos) : CalledB (Γ.enter c hd p) := h
theorem ltA {i m N : Nat} (h : i + (m + 1) = N) : i < N := h ▸ Nat.lt_add_of_pos_right (Nat.succ_pos m)
theorem nxA {i m N : Nat} (h : i + (m + 1) = N) : i + 1 + m = N := (Nat.add_right_comm i 1 m).trans h
theorem zLe {a b c : Nat} (h : a ≤ b) (k : Nat.ble b c = true) : a ≤ c := Nat.le_trans h (Nat.le_of_ble_eq_true k)
theorem zLt {a b c : Nat} (h : a ≤ b) (k : Nat.ble (b + 1) c = true) : a < c := Nat.lt_of_le_of_lt h (Nat.le_of_ble_eq_true k)
theorem zNe {a b c : Nat} (h : b ≤ a) (k : Nat.ble (c + 1) b = true) : a ≠ c := fun e => Nat.lt_irrefl c (Nat.lt_of_lt_of_le (Nat.le_of_ble_eq_true k) (Nat.le_trans h (Nat.le_of_eq e)))
theorem z20 {a b : Nat} (h : a ≤ b) (k : Nat.ble (b + 1) (2 ^ 20) = true) : (a : Int) < 2 ^ 20 := Int.ofNat_lt.mpr (zLt h k)
theorem z62 {a b : Nat} (h : a ≤ b) (k : Nat.ble (b + 1) (2 ^ 62) = true) : (a : Int) < 2 ^ 62 := Int.ofNat_lt.mpr (zLt h k)
theorem z63 {a b : Nat} (h : a ≤ b) (k : Nat.ble (b + 1) (2 ^ 63) = true) : (a : Int) < 2 ^ 63 := Int.ofNat_lt.mpr (zLt h k)
theorem z27 {a : Nat} (h : a ≤ 100) : (2 : Int) * (a : Int) ≤ 2 ^ 27 := by omega
theorem zSub {a b : Nat} (h : a < b) : b - a = b - (a + 1) + 1 := (Nat.succ_pred_eq_of_pos (Nat.sub_pos_of_lt h)).symm
theorem zAs {a b : Nat} : a + 1 + b = a + (b + 1) := Nat.succ_add_eq_add_succ a b
theorem zEq {a b c : Nat} (h : a = b) (k : b ≤ c) : a ≤ c := h ▸ k
theorem z28 {a b : Nat} (h1 : a < b) : (a + b) / 2 < b := Nat.div_lt_of_lt_mul (Nat.two_mul b ▸ Nat.add_lt_add_right h1 b)
theorem z40 {a b : Nat} (h1 : a < b) : a ≤ (a + b) / 2 := (Nat.le_div_iff_mul_le (Nat.succ_pos 1)).mpr (Nat.mul_two a ▸ Nat.add_le_add_left (Nat.le_of_lt h1) a)
theorem z18 {a b c : Nat} (h : a + (b + 1) ≤ c) : a + 1 + b ≤ c := zEq zAs h
theorem zLo {a : Int} (h : 0 ≤ a) : -9223372036854775808 ≤ a := Int.le_trans (by decide) h
theorem om4 {a b c : Nat} (h1 : (a < b)) (h2 : (c < b)) : ((a - c) < (b - c)) := Nat.lt_sub_of_add_lt (Nat.lt_of_le_of_lt (Nat.le_of_eq (Nat.sub_add_eq_max _ _)) (Nat.max_lt.mpr ⟨h1, h2⟩))
theorem om6 {a b c d e : Nat} (h1 : ((a - b) < (c + 1))) (h2 : (b ≤ d)) (h3 : (d < e)) (h4 : (e ≤ a)) : ((a - e) < c) := Nat.lt_of_lt_of_le (Nat.sub_lt_sub_left (Nat.lt_of_lt_of_le (Nat.lt_of_le_of_lt h2 h3) h4) (Nat.lt_of_le_of_lt h2 h3)) (Nat.le_of_lt_succ h1)
theorem om19 {a b c d : Nat} (h1 : ((a < b) ∧ (b ≤ c))) (h2 : (d ≤ b)) (h3 : (¬ ((a < d) ∧ (d ≤ c)))) : (d ≤ (b - 1)) := Nat.le_sub_one_of_lt (Nat.lt_of_le_of_ne h2 fun e => h3 (e ▸ h1))
theorem om38 {a b c d : Nat} (h1 : ((a + (b + 1)) < c)) (h2 : (d ≤ b)) : (((a + 1) + d) < c) := Nat.lt_of_le_of_lt (zEq zAs (Nat.add_le_add_left (Nat.succ_le_succ h2) _)) h1
theorem om48 {a b c : Nat} (h1 : ((a ≤ b) ∧ (b < c))) : ((((a + c) - 1) - b) < c) := Nat.sub_lt_left_of_lt_add (Nat.le_sub_one_of_lt (Nat.lt_of_lt_of_le h1.2 (Nat.le_add_left _ _))) (Nat.lt_of_lt_of_le (Nat.sub_one_lt_of_lt (Nat.lt_of_lt_of_le h1.2 (Nat.le_add_left _ _))) (Nat.add_le_add_right h1.1 _))
theorem om50 {a b c : Nat} (h1 : ((a ≤ b) ∧ (b < c))) : (a ≤ (((a + c) - 1) - b)) := Nat.le_sub_of_add_le (Nat.le_sub_one_of_lt (Nat.add_lt_add_left h1.2 _))
theorem om77 {a b : Nat}  : (((a = b) ∨ (a < b)) ↔ (a < (b + 1))) := ⟨fun h => h.elim (fun e => e ▸ Nat.lt_succ_self _) Nat.lt_succ_of_lt, fun h => (Nat.lt_succ_iff_lt_or_eq.mp h).symm⟩
theorem om81 {a b c : Nat} (h1 : ((1 + a) ≤ (b + 1))) (h2 : (c < a)) : (c ≤ b) := Nat.le_of_lt (Nat.lt_of_lt_of_le h2 (Nat.le_of_succ_le_succ (zEq (Nat.add_comm _ 1) h1)))
theorem om120 {a b c d : Nat} (h1 : ((a + 60) < b)) (h2 : (c ≤ 40)) (h3 : (d ≤ c)) : (((a + 1) + d) < b) := Nat.lt_of_le_of_lt (Nat.le_trans (Nat.add_le_add_left (Nat.le_trans h3 h2) _) (zEq (Nat.add_assoc _ 1 40) (Nat.add_le_add_left (Nat.le_of_ble_eq_true rfl) _))) h1
theorem om134 {a b c d : Nat} (h1 : (((a + b) + 1) < c)) (h2 : (d ≤ b)) : (((a + 1) + d) < c) := Nat.lt_of_le_of_lt (zEq (Nat.add_right_comm _ 1 _) (Nat.succ_le_succ (Nat.add_le_add_left h2 _))) h1
theorem om150 {a b c d e : Nat} (h1 : ((a + b) ≤ c)) (h2 : (d = a)) (h3 : (e = b)) : ((d + e) ≤ (c + 1)) := Nat.le_succ_of_le (Nat.le_trans (Nat.add_le_add (Nat.le_of_eq h2) (Nat.le_of_eq h3)) h1)
theorem s63 {n : Nat} (h : n ≤ 100000) : ((n : Nat) : Int) < 2 ^ 63 := by (first | exact z63 h rfl | omega)
theorem s62 {n : Nat} (h : n ≤ 100000) : n < 2 ^ 62 := by (first | exact zLt h rfl | omega)
theorem sLn {n : Nat} (h : n ≤ 100000) : n ≤ sizeLine := by rw [sizeLine_eq]; (first | exact zLe h rfl | omega)
structure wpC {α : Type} (M : Model) (A : Around) (t : Sem α) (Q : α → Shared → Prop) (E : Value → Shared → Prop) (s : Shared) : Prop where
  run : ∀ Γ p, Γ.In A → Called Γ → Sem.wp M Γ t (fun a _ s' => Q a s') (fun e _ s' => E e s') p s
noncomputable def codeC (M : Model) (A : Around) (c : Code) (R : Result → Shared → Prop) (s : Shared) : Prop :=
  ∀ Γ p, Γ.code = c → Γ.Below A → CalledB Γ → wpCode M Γ R p s

section
variable {α β : Type} {M : Model} {A : Around} {E : Value → Shared → Prop} {s : Shared}

theorem wpC.of {t : Sem α} {Q : α → Shared → Prop} (h : wpAny M A t Q E s) : wpC M A t Q E s := ⟨fun Γ p hΓ _ => h Γ p hΓ⟩
theorem wpC_pure {a : α} {Q : α → Shared → Prop} (h : Q a s) : wpC M A (pure a) Q E s := ⟨fun _ _ _ _ => h⟩
theorem wpC_mono {t : Sem α} {Q Q' : α → Shared → Prop} {E' : Value → Shared → Prop} (h : wpC M A t Q E s)
    (hQ : ∀ a s, Q a s → Q' a s) (hE : ∀ e s, E e s → E' e s) : wpC M A t Q' E' s :=
  ⟨fun Γ p hΓ hC => Sem.wp_mono M Γ t (fun a _ s => hQ a s) (fun e _ s => hE e s) p s (h.run Γ p hΓ hC)⟩
theorem wpC_bind {m : Sem α} {f : α → Sem β} {Q : β → Shared → Prop} (h : wpC M A m (fun a s' => wpC M A (f a) Q E s') E s) :
    wpC M A (m >>= f) Q E s := .mk fun Γ p hΓ hC => by
  rw [Sem.wp_bind']
  exact Sem.wp_mono M Γ m (fun a p' s' h' => h'.run Γ p' hΓ hC) (fun _ _ _ h' => h') p s (h.run Γ p hΓ hC)
theorem wpC_onRaise {m : Sem α} {k : Value → Sem Unit} {Q : α → Shared → Prop}
    (h : wpC M A m Q (fun e s' => wpC M A (k e) (fun _ s'' => E e s'') E s') s) : wpC M A (m.onRaise k) Q E s := .mk fun Γ p hΓ hC => by
  rw [Sem.wp_onRaise]
  exact Sem.wp_mono M Γ m (fun _ _ _ h' => h') (fun e p' s' h' => h'.run Γ p' hΓ hC) p s (h.run Γ p hΓ hC)
theorem wpC_attempt {m : Sem α} {Q : Except Value α → Shared → Prop} (h : wpC M A m (fun a => Q (.ok a)) (fun e => Q (.error e)) s) :
    wpC M A m.attempt Q E s := .mk fun Γ p hΓ hC => by rw [Sem.wp_attempt]; exact h.run Γ p hΓ hC
theorem wpC_holding {vs : List Value} {m : Sem α} {Q : α → Shared → Prop} (h : wpC M A m Q E s) : wpC M A (holding vs m) Q E s :=
  .mk fun Γ p hΓ hC => by rw [Sem.wp_holding]; exact h.run Γ p hΓ hC
theorem wpC_standAt {pos : Pos} {Q : Unit → Shared → Prop} (h : Q () s) : wpC M A (standAt pos) Q E s := ⟨fun _ _ _ _ => h⟩
theorem wpC_point {Q : Unit → Shared → Prop} (h : Q () s) : wpC M A point Q E s := ⟨fun _ _ _ _ => h⟩
theorem wpC_operate {vs : List Value} {m : Sem Value} {Q : Value → Shared → Prop} (h : wpC M A m Q E s) : wpC M A (operate vs m) Q E s :=
  .mk fun Γ p hΓ hC => by rw [Sem.wp_operate]; exact h.run Γ p hΓ hC
theorem wpC_of_eq {t : Sem α} {a : α} {Q : α → Shared → Prop} (e : t = pure a) (h : Q a s) : wpC M A t Q E s := by rw [e]; exact wpC_pure h

theorem codeC_mono {c : Code} {R R' : Result → Shared → Prop} (h : codeC M A c R s) (hR : ∀ r s, R r s → R' r s) : codeC M A c R' s :=
  fun Γ p hc hΓ hC => wpCode_mono hR (h Γ p hc hΓ hC)
theorem wpC_run {c : Code} {h : Option Value} {Q : Flow → Shared → Prop}
    (hc : codeC M (A.mark h) c (fun r s' => match r with | .ok f => Q f s' | .error e => E e s') s) (hnb : h ≠ some byPass) :
    wpC M A (run c h) Q E s :=
  .mk fun Γ p hΓ hC => by rw [Sem.wp_run]; exact hc _ p rfl (hΓ.enter c h p hnb) (hC.enter c h p)
theorem wpC_runValue {c : Code} {Q : Value → Shared → Prop}
    (hc : codeC M A c (fun r s' => match r with | .ok (.ret v) => Q v s' | .ok _ => False | .error e => E e s') s) :
    wpC M A (runValue c) Q E s := .mk fun Γ p hΓ hC => by rw [Sem.wp_runValue]; exact hc _ p rfl (hΓ.enter c none p (by intro x; cases x)) (hC.enter c none p)
theorem wpC_call {f : Value} {pos : List Value} {kw : List (Str × Value)} {Q : Value → Shared → Prop}
    (hc : codeC M A (.call f ⟨pos, kw⟩) (fun r s' => match r with | .ok (.ret v) => Q v s' | .ok _ => False | .error e => E e s') s) :
    wpC M A (call f pos kw) Q E s := wpC_runValue hc
theorem codeC_of_tree {c : Code} {R : Result → Shared → Prop}
    (h : wpC M (A.under c) (M.den c) (fun fin s' => match fin with | .done f => R (.ok f) s' | .again c' => c'.quiet = true ∧ codeC M A c' R s')
      (fun e s' => R (.error e) s') s) : codeC M A c R s := fun Γ p hc hΓ hC => by
  rw [wpCode_iff_wp, hc]
  refine Sem.wp_mono M Γ _ (fun fin p' s' h' => ?_) (fun _ _ _ h' => h') p s (h.run Γ p (hc ▸ hΓ.in) hC.called)
  cases fin with
  | done f => exact h'
  | again c' => exact ⟨h'.1, h'.2 (Γ.goto c') p' rfl (hΓ.goto c') hC⟩
theorem codeC_loop {c : Code} {R : Result → Shared → Prop} (hq : c.quiet = true) (I : Nat → Shared → Prop)
    (turn : ∀ n s, I n s → wpC M (A.under c) (M.den c)
      (fun fin s' => match fin with
        | .done f => R (.ok f) s'
        | .again c' => (c' = c ∧ ∃ m, m < n ∧ I m s') ∨ (c'.quiet = true ∧ codeC M A c' R s')) (fun e s' => R (.error e) s') s)
    (n : Nat) (h : I n s) : codeC M A c R s := by
  induction n using Nat.strongRecOn generalizing s with
  | ind n ih =>
    refine codeC_of_tree (wpC_mono (turn n s h) (fun fin s' hf => ?_) fun _ _ h' => h')
    cases fin with
    | done f => exact hf
    | again c' =>
      rcases hf with ⟨rfl, m, hm, hI⟩ | hf
      · exact ⟨hq, ih m hm hI⟩
      · exact hf
end

section
variable {α : Type} {M : Model} {A : Around} {E : Value → Shared → Prop} {s : Shared} {env : Env}

theorem wpC_noted {m : Sem α} {Q : α → Shared → Prop} (h : wpC M A m Q (notedBy M A env E) s) : wpC M A (m.onRaise fun x => do noteFrame x env; theTreesLotGoes x) Q E s :=
  wpC_onRaise (wpC_mono h (fun _ _ q => q) fun _ _ hx => .of (wpAny_bind (wpAny_mono hx (fun _ _ e => wpAny_theTreesLotGoes e) fun _ _ e => e)))
theorem wpC_runOwn {c : Code} {h : Option Value} {Q : Flow → Shared → Prop}
    (hc : codeC M (A.mark h) c (fun r s' => match r with | .ok f => Q f s' | .error e => cameBackBy M A env E e s') s) (hnb : h ≠ some byPass) :
    wpC M A (runOwn c env h) Q E s := by
  unfold runOwn
  exact wpC_onRaise (wpC_mono (wpC_run (E := fun e s' => cameBackBy M A env E e s') hc hnb) (fun _ _ q => q) fun _ _ h' => .of h')

theorem wpC_BinOp {l op r pos} {Q : Value → Shared → Prop}
    (h : wpC M A (eval l env) (fun a s₁ => wpC M A (eval r env) (fun b s₂ => wpAny M A (binaryOp op a b) Q E s₂) E s₁) E s) :
    wpC M A (eval (.BinOp l op r pos) env) Q E s := by
  rw [eval_BinOp]
  exact wpC_bind (wpC_mono h (fun a s₁ h₁ => wpC_bind (wpC_holding (wpC_mono h₁ (fun b s₂ h₂ => wpC_bind (wpC_standAt (wpC_operate (.of h₂)))) fun _ _ x => x))) fun _ _ x => x)
theorem wpC_UnaryOp {op : UnaryOp} {x : Expr} {pos : Pos} {Q : Value → Shared → Prop} (h : wpC M A (eval x env) (fun v s₁ => wpAny M A (unaryOp op v) Q E s₁) E s) :
    wpC M A (eval (.UnaryOp op x pos) env) Q E s := by
  rw [arm_eval_UnaryOp]
  exact wpC_bind (wpC_mono h (fun v s₁ h₁ => wpC_bind (wpC_standAt (wpC_holding (.of h₁)))) fun _ _ x => x)
theorem wpC_Compare1 {l op r pos} {Q : Value → Shared → Prop}
    (h : wpC M A (eval l env) (fun a s₁ => wpC M A (eval r env) (fun b s₂ => wpAny M A (compareOp op a b) Q E s₂) E s₁) E s)
    (hm : behindInMarks op r = false) : wpC M A (eval (.Compare l [op] [r] pos) env) Q E s := by
  rw [eval_Compare1, markedBehindIn_of_false hm]
  exact wpC_bind (wpC_mono h (fun a s₁ h₁ => wpC_bind (wpC_holding (wpC_mono h₁ (fun b s₂ h₂ => wpC_bind (wpC_standAt (wpC_operate (.of h₂)))) fun _ _ x => x))) fun _ _ x => x)
theorem wpC_isTrue_Compare1 {l op r pos whole} {Q : Bool → Shared → Prop}
    (h : wpC M A (eval l env) (fun a s₁ => wpC M A (eval r env) (fun b s₂ => wpAny M A (compareOp op a b) (fun c s₃ => wpAny M A (truthy c) Q E s₃) E s₂) E s₁) E s)
    (hm : behindInMarks op r = false) : wpC M A (isTrue (.Compare l [op] [r] pos) env whole) Q E s := by
  rw [isTrue_Compare1, markedBehindIn_of_false hm]
  exact wpC_bind (wpC_mono h (fun a s₁ h₁ => wpC_bind (wpC_holding (wpC_mono h₁ (fun b s₂ h₂ => wpC_bind (wpC_standAt (wpC_bind (wpC_operate (wpC_mono (.of h₂) (fun c s₃ h₃ => wpC_holding (.of h₃)) fun _ _ x => x))))) fun _ _ x => x))) fun _ _ x => x)
theorem wpC_isTrue_BoolOp {op : BoolOp} {values : List Expr} {pos : Pos} {whole : Sem Value} {Q : Bool → Shared → Prop} (h : wpC M A (allTrue op values env) Q E s) :
    wpC M A (isTrue (.BoolOp op values pos) env whole) Q E s := by rw [arm_isTrue_BoolOp]; exact h
theorem wpC_allTrue_And_nil {Q : Bool → Shared → Prop} (h : Q true s) : wpC M A (allTrue .And [] env) Q E s := wpC_pure h
theorem wpC_allTrue_And_cons {x : Expr} {rest : List Expr} {Q : Bool → Shared → Prop}
    (h : wpC M A (isTrue x env (eval x env)) (fun b s₁ => if b then wpC M A (allTrue .And rest env) Q E s₁ else Q false s₁) E s) : wpC M A (allTrue .And (x :: rest) env) Q E s := by
  show wpC M A (do match BoolOp.And, ← isTrue x env (eval x env) with | .And, false => pure false | .Or, true => pure true | _, _ => allTrue .And rest env) Q E s
  refine wpC_bind (wpC_mono h (fun b s₁ h₁ => ?_) fun _ _ x => x)
  cases b
  · exact wpC_pure h₁
  · exact h₁
theorem wpC_execs_cons {st rest} {Q : Flow → Shared → Prop}
    (h : wpC M A (exec st env) (fun f s' => match f with | .next => wpC M A (execs rest env) Q E s' | f => Q f s') E s) :
    wpC M A (execs (st :: rest) env) Q E s := by
  rw [execs_cons]
  refine wpC_bind (wpC_mono h (fun f s' h' => ?_) fun _ _ x => x)
  cases f <;> first | exact h' | exact wpC_pure h'
theorem wpC_If {test body orelse pos} {Q : Flow → Shared → Prop}
    (h : wpC M A (isTrue test env (eval test env)) (fun b s₂ => if b then wpC M A (execs body env) Q E s₂ else wpC M A (execs orelse env) Q E s₂) E s) :
    wpC M A (exec (.If test body orelse pos) env) Q E s := by
  rw [exec_If]
  refine wpC_bind (wpC_standAt (wpC_bind (wpC_mono h (fun b s₂ h₂ => ?_) fun _ _ x => x)))
  cases b <;> exact h₂
theorem wpC_Return_some {e pos} {Q : Flow → Shared → Prop} (h : wpC M A (eval e env) (fun v => Q (.ret v)) E s) :
    wpC M A (exec (.Return (some e) pos) env) Q E s := by
  rw [exec_Return_some]
  exact wpC_bind (wpC_standAt (wpC_bind (wpC_mono h (fun v s₁ h₁ => wpC_pure h₁) fun _ _ x => x)))
theorem wpC_Assign_Name {x pos' value pos} {Q : Flow → Shared → Prop}
    (h : wpC M A (eval value env) (fun v s₁ => wpAny M A (storeName env x v) (fun _ => Q .next) E s₁) E s)
    (hs : swapsWith value (some (.Name x pos')) pos.line env = pure false) :
    wpC M A (exec (.Assign [.Name x pos'] value pos) env) Q E s := by
  rw [exec_Assign_Name env x pos' value pos hs]
  exact wpC_bind (wpC_standAt (wpC_bind (wpC_mono h (fun v s₁ h₁ => wpC_bind (wpC_standAt (wpC_bind (.of (wpAny_bindName (wpAny_mono h₁ (fun _ _ q => wpC_pure q) fun _ _ x => x)))))) fun _ _ x => x)))
theorem wpC_Assign_Subscript {o i pos' value pos} {Q : Flow → Shared → Prop}
    (h : wpC M A (eval value env) (fun v s₁ => wpC M A (eval o env) (fun ov s₂ => wpC M A (eval i env) (fun iv s₃ => wpAny M A (setItem ov iv v) (fun _ => Q .next) E s₃) E s₂) E s₁) E s)
    (hs : swapsWith value (some (.Subscript o i pos')) pos.line env = pure false) :
    wpC M A (exec (.Assign [.Subscript o i pos'] value pos) env) Q E s := by
  rw [exec_Assign_Subscript o i pos' value pos hs]
  refine wpC_bind (wpC_standAt (wpC_bind (wpC_mono h (fun v s₁ h₁ => wpC_bind ?_) fun _ _ x => x)))
  rw [assign_Subscript]
  exact wpC_bind (wpC_holding (wpC_mono h₁ (fun ov s₂ h₂ => wpC_bind (wpC_holding (wpC_mono h₂ (fun iv s₃ h₃ => wpC_bind (wpC_standAt (wpC_bind (wpC_holding (wpC_mono (.of h₃) (fun _ s₄ h₄ => .mk fun Γ p hΓ hC => by
    rw [Sem.wp_release]; exact wpC_pure h₄) fun _ _ x => x))))) fun _ _ x => x))) fun _ _ x => x))
theorem wpC_Expr {e pos} {Q : Flow → Shared → Prop} (h : wpC M A (eval e env) (fun v s' => match v with | .ref _ => False | _ => Q .next s') E s)
    (hi : interactive env = false) (hs : swapsWith e none pos.line env = pure false) :
    wpC M A (exec (.Expr e pos) env) Q E s := by
  rw [exec_Expr env e pos hi hs]
  refine wpC_bind (wpC_standAt (wpC_bind (wpC_mono h (fun v s' h' => ?_) fun _ _ x => x)))
  have hv : ∀ a, v ≠ .ref a := fun a hva => by subst hva; exact h'
  rw [dropValue_plain hv]
  refine wpC_pure ?_
  cases v <;> first | exact h' | exact (hv _ rfl).elim
theorem wpC_While {test body orelse pos} {Q : Flow → Shared → Prop}
    (h : codeC M A (.whileLoop test body orelse env) (fun r s' => match r with | .ok f => Q f s' | .error e => cameBackBy M A env E e s') s) :
    wpC M A (exec (.While test body orelse pos) env) Q E s := by
  rw [exec_While]; exact wpC_bind (wpC_standAt (wpC_runOwn h (by intro x; cases x)))
theorem wpC_For {target iter body orelse pos} {Q : Flow → Shared → Prop}
    (h : wpC M A (eval iter env) (fun x s₁ => wpAny M A (pyIter x) (fun it s₂ =>
      codeC M A (.forLoop target it body orelse env) (fun r s' => match r with | .ok f => Q f s' | .error e => cameBackBy M A env E e s') s₂) E s₁) E s)
    (hs : ∀ x, foldedSetIterable iter env x = pure x) :
    wpC M A (exec (.For target iter body orelse pos) env) Q E s := by
  rw [exec_For]
  exact wpC_bind (wpC_standAt (wpC_bind (wpC_mono h (fun x s₁ h₁ => wpC_bind (wpC_of_eq (hs x) (wpC_bind (wpC_standAt (wpC_bind (wpC_holding
    (wpC_mono (.of h₁) (fun it s₂ h₂ => wpC_runOwn h₂ (by intro x; cases x)) fun _ _ h' => h'))))))) fun _ _ h' => h')))

theorem splicedC_cons {x : Sem Value} {rest : List (Bool × Sem Value)} {Q : List Value → Shared → Prop}
    (h : wpC M A x (fun v s₁ => wpC M A (spliced rest) (fun vs s₂ => Q (v :: vs) s₂) E s₁) E s) : wpC M A (spliced ((false, x) :: rest)) Q E s := by
  rw [spliced]
  refine wpC_bind (wpC_mono h (fun v s₁ h₁ => ?_) fun _ _ x => x)
  simp only [Bool.false_eq_true, if_false]
  exact wpC_bind (wpC_pure (wpC_bind (wpC_holding (wpC_mono h₁ (fun vs s₂ h₂ => wpC_pure h₂) fun _ _ x => x))))
theorem ListC_ {elts : List Expr} {pos : Pos} {Q : Value → Shared → Prop}
    (h : wpC M A (spliced (backTo pos (starEach elts env))) (fun vs s₁ => wpAny M A (newList vs) Q E s₁) E s) : wpC M A (eval (.List elts pos) env) Q E s := by
  show wpC M A (do standAt pos; newList (← spliced (backTo pos (starEach elts env)))) Q E s
  exact wpC_bind (wpC_standAt (wpC_bind (wpC_mono h (fun _ _ q => .of q) fun _ _ x => x)))
theorem TupleC_ {elts : List Expr} {k : Nat} {pos : Pos} {Q : Value → Shared → Prop}
    (h : wpC M A (spliced (backTo pos (starEach elts env))) (fun vs s₁ => wpAny M A (newTuple vs) Q E s₁) E s) : wpC M A (eval (.Tuple elts k pos) env) Q E s := by
  show wpC M A (do standAt pos; newTuple (← spliced (backTo pos (starEach elts env)))) Q E s
  exact wpC_bind (wpC_standAt (wpC_bind (wpC_mono h (fun _ _ q => .of q) fun _ _ x => x)))
theorem wpC_evalAll_nil {Q : List Value → Shared → Prop} (h : Q [] s) : wpC M A (evalAll []) Q E s := wpC_pure h
theorem wpC_evalAll_cons {x : Sem Value} {rest : List (Sem Value)} {Q : List Value → Shared → Prop}
    (h : wpC M A x (fun v s₁ => wpC M A (evalAll rest) (fun vs s₂ => Q (v :: vs) s₂) E s₁) E s) : wpC M A (evalAll (x :: rest)) Q E s := by
  rw [evalAll]
  exact wpC_bind (wpC_mono h (fun v s₁ h₁ => wpC_bind (wpC_holding (wpC_mono h₁ (fun vs s₂ h₂ => wpC_pure h₂) fun _ _ x => x))) fun _ _ x => x)
theorem evalArgsC_kw {f : Value} {x : Sem Value} {rest : List (Bool × Sem Value)} {keywords : List (Option Str × Sem Value)} {Q : Args → Shared → Prop}
    (hall : keywords.all (·.1.isSome) = true)
    (h : wpC M A (spliced ((false, x) :: rest)) (fun vs s₁ => wpC M A (evalAll (keywords.map (·.2))) (fun ks s₂ => Q ⟨vs, (keywords.filterMap (·.1)).zip ks⟩ s₂) E s₁) E s) :
    wpC M A (evalArgs f true ((false, x) :: rest) keywords) Q E s := by
  unfold evalArgs
  show wpC M A (spliced ((false, x) :: rest) >>= _) Q E s
  refine wpC_bind (wpC_mono h (fun vs s₁ h₁ => ?_) fun _ _ x => x)
  refine wpC_holding ?_
  simp only [hall, if_true]
  refine wpC_bind (wpC_mono h₁ (fun ks s₂ h₂ => ?_) fun _ _ x => x)
  exact wpC_bind (wpC_pure (wpC_pure h₂))
theorem wpC_Call_Name_kw {id : Str} {p pos : Pos} {args : List Expr} {keywords : List Keyword} {Q : Value → Shared → Prop}
    (h : wpC M A (eval (.Name id p) env) (fun f s₁ => wpC M A (callWith pos f [] (backTo pos (starEach args env)) (backToKw pos (keywordEach keywords env))) Q E s₁) E s) :
    wpC M A (eval (.Call (.Name id p) args keywords pos) env) Q E s := by
  rw [arm_eval_Call_Name']
  exact wpC_bind h
theorem callWithC_builtin {pos : Pos} {id : String} {first : List Value} {args : List (Bool × Sem Value)} {Q : Value → Shared → Prop} (hplain : args.any (·.1) = false)
    (h : wpC M A (evalArgs (.builtin id) true args []) (fun a s₁ => wpC M A (call (.builtin id) (first ++ a.pos) a.kw) Q E s₁) E s) :
    wpC M A (callWith pos (.builtin id) first args []) Q E s := by
  unfold callWith
  refine wpC_bind (wpC_holding (wpC_mono h (fun a s₁ h₁ => wpC_bind (wpC_standAt ?_)) fun _ _ x => x))
  simp only [hplain, List.any_nil, Bool.or_false]
  refine wpC_bind (wpC_pure ?_)
  exact wpC_bind (wpC_mono h₁ (fun r s₂ hr => wpC_bind (wpC_holding (.of (wpAny_point (wpC_pure hr))))) fun _ _ x => x)
theorem callWithC_type {pos : Pos} {T : String} {first : List Value} {args : List (Bool × Sem Value)} {Q : Value → Shared → Prop} (hplain : args.any (·.1) = false)
    (h : wpC M A (evalArgs (.type T) true args []) (fun a s₁ => wpC M A (call (.type T) (first ++ a.pos) a.kw) Q E s₁) E s) :
    wpC M A (callWith pos (.type T) first args []) Q E s := by
  unfold callWith
  refine wpC_bind (wpC_holding (wpC_mono h (fun a s₁ h₁ => wpC_bind (wpC_standAt ?_)) fun _ _ x => x))
  simp only [hplain, List.any_nil, Bool.or_false]
  refine wpC_bind (wpC_pure ?_)
  exact wpC_bind (wpC_mono h₁ (fun r s₂ hr => wpC_bind (wpC_holding (.of (wpAny_point (wpC_pure hr))))) fun _ _ x => x)
theorem SubscriptC_ {value slice pos} {Q : Value → Shared → Prop}
    (h : wpC M A (eval value env) (fun o s₁ => wpC M A (eval slice env) (fun i s₂ => wpAny M A (subscriptTail value slice o i) Q E s₂) E s₁) E s) :
    wpC M A (eval (.Subscript value slice pos) env) Q E s := by
  rw [eval_Subscript]
  exact wpC_bind (wpC_mono h (fun o s₁ h₁ => wpC_bind (wpC_holding (wpC_mono h₁ (fun i s₂ h₂ => wpC_bind (wpC_standAt (.of h₂))) fun _ _ x => x))) fun _ _ x => x)
theorem wpC_Slice {lower upper step : Option Expr} {p : Pos} {Q : Value → Shared → Prop}
    (h : wpC M A (evalPart lower env) (fun l s₁ => wpC M A (evalPart upper env) (fun u s₂ => wpC M A (evalPart step env) (fun st s₃ =>
      Q (.ref s₃.heap.objs.size) { s₃ with heap := s₃.heap.push { cls := .type "slice", data := .fields #[l, u, st] } }) E s₂) E s₁) E s) :
    wpC M A (eval (.Slice lower upper step p) env) Q E s := by
  rw [arm_eval_Slice]
  refine wpC_bind (wpC_mono h (fun l s₁ h₁ => wpC_bind (wpC_holding (wpC_mono h₁ (fun u s₂ h₂ => wpC_bind (wpC_holding (wpC_mono h₂ (fun st s₃ h₃ => ?_) fun _ _ x => x))) fun _ _ x => x))) fun _ _ x => x)
  exact .of (wpAny_newObj_type h₃)
theorem pairTreesC_cons {k v : Expr} {ks : List (Option Expr)} {vs : List Expr} {pos : Pos} {Q : List (Value × Value) → Shared → Prop}
    (h : wpC M A (eval k env) (fun kv s₁ => wpC M A (eval v env) (fun vv s₂ => wpC M A (evalPairs (pairTrees ks vs env pos)) (fun r s₃ => Q ((kv, vv) :: r) s₃) E s₂) E s₁) E s) :
    wpC M A (evalPairs (pairTrees (some k :: ks) (v :: vs) env pos)) Q E s := by
  show wpC M A (do let kv ← eval k env; let vv ← holding [kv] (do let x ← eval v env; standAt pos; pure x); return (kv, vv) :: (← holding [kv, vv] (evalPairs (pairTrees ks vs env pos)))) Q E s
  exact wpC_bind (wpC_mono h (fun kv s₁ h₁ => wpC_bind (wpC_holding (wpC_bind (wpC_mono h₁ (fun vv s₂ h₂ => wpC_bind (wpC_standAt (wpC_pure (wpC_bind (wpC_holding (wpC_mono h₂ (fun r s₃ h₃ => wpC_pure h₃) fun _ _ x => x)))))) fun _ _ x => x)))) fun _ _ x => x)
end

section
variable {prog : Program} {w : World} {A : Around} {E : Value → Shared → Prop} {R : Result → Shared → Prop} {s : Shared} {env : Env}
theorem codeC_block {stmts : List Stmt}
    (h : wpC (model prog w) A (execs stmts env) (fun f s' => R (.ok f) s') (notedBy (model prog w) A env fun e s' => R (.error e) s') s) : codeC (model prog w) A (.block stmts env) R s := by
  refine codeC_of_tree ?_
  show wpC _ _ (do return Fin.done (← (execs stmts env).onRaise (fun x => do noteFrame x env; theTreesLotGoes x))) _ _ s
  exact wpC_bind (wpC_noted (wpC_mono h (fun f s' h' => wpC_pure h') fun _ _ h' => h'))
theorem codeC_func {body}
    (h : wpC (model prog w) (A.deeper env) (execs body env) (fun f s' => R (.ok (.ret (match f with | .ret v => v | _ => .none))) s') (fun _ _ => False) s) :
    codeC (model prog w) A (.func body env) R s := by
  refine codeC_of_tree ?_
  show wpC _ (A.deeper env) (do point; match ← (execs body env).onRaise (leaving env) with | .ret v => ret v | _ => ret .none) _ _ s
  refine wpC_bind (wpC_point (wpC_bind (wpC_onRaise (wpC_mono h (fun f s' h' => ?_) fun _ _ h' => h'.elim))))
  cases f <;> exact wpC_pure h'
theorem codeC_call_function {a : Addr} {args : Args} {o : Obj} {fd : FuncData} {body : List Stmt} (hroom : A.depth < recursionLimit)
    (ho : s.heap.get? a = some o)
    (hd' : o.data = .func fd) (hco : fd.scope.isCoroutine = false) (hgen : fd.scope.isGenerator = false) (hbody : fd.body = .stmts body) (hcd : s.heap.CodeRec fd.code fd.qualname)
    (h : wpAny (model prog w) A.in1 (bindArgs fd args) (fun binds s₁ =>
      wpAny (model prog w) A.in1 (newFunctionEnv fd.scope fd.globals fd.closure binds (fd.qualname ++ ".<locals>.") (some a) fd.code none fd.builtins)
        (fun env s₂ => s₂.heap.NoLimit ∧ codeC (model prog w) A (.func body env) R s₂) (fun e s' => R (.error e) s') s₁) (fun e s' => R (.error e) s') s) :
    codeC (model prog w) A (.call (.ref a) args) R s := by
  refine codeC_of_tree ?_
  show wpC _ A.in1 (callAny (.ref a) args) _ _ s
  simp only [callAny]
  refine .of (wpAny_bind (wpAny_load ho ?_))
  obtain ⟨c, oc, vs, tq, hc, hoc, hdc, hq⟩ := hcd
  simp only [hd', callFunction, hco, hgen, hbody, hc]
  rw [hc] at h
  refine wpAny_bind (m := field (.ref c) 1) (wpAny_field hoc hdc hq (wpAny_bind (wpAny_pure ?_)))
  exact wpAny_bind (wpAny_mono h (fun binds s₁ h₁ => wpAny_bind (wpAny_mono h₁ (fun env s₂ h₂ => wpAny_bind (wpAny_enterFrame h₂.1 hroom
    (wpAny_pure (And.intro rfl h₂.2)))) fun _ _ h' => h')) fun _ _ h' => h')
theorem codeC_whileLoop {test body orelse} (I : Nat → Shared → Prop)
    (turn : ∀ n s E, I n s → wpC (model prog w) A (isTrue test env (eval test env)) (fun b s₂ =>
        if b then wpC (model prog w) A (execs body env) (fun f s₃ => match f with
            | .next | .cont => ∃ m, m < n ∧ I m s₃
            | .brk => R (.ok .next) s₃
            | .ret v => R (.ok (.ret v)) s₃) E s₂
        else wpC (model prog w) A (execs orelse env) (fun f s₃ => R (.ok f) s₃) E s₂) E s)
    (n : Nat) (h : I n s) : codeC (model prog w) A (.whileLoop test body orelse env) R s := by
  refine codeC_loop rfl I (fun n s hI => ?_) n h
  show wpC _ A ((whileTurn test body orelse env).onRaise (fun x => do noteFrame x env; theTreesLotGoes x)) _ _ s
  refine wpC_noted ?_
  simp only [whileTurn]
  refine wpC_bind (wpC_mono (turn n s (notedBy (model prog w) A env fun e s' => R (.error e) s') hI) (fun b s₂ h₂ => ?_) fun _ _ h' => h')
  cases b with
  | false =>
    simp only [Bool.false_eq_true, if_false] at h₂ ⊢
    exact wpC_bind (wpC_mono h₂ (fun f s₃ h₃ => wpC_pure h₃) fun _ _ h' => h')
  | true =>
    simp only [if_true] at h₂ ⊢
    refine wpC_bind (wpC_mono h₂ (fun f s₃ h₃ => ?_) fun _ _ h' => h')
    cases f with
    | next => exact wpC_pure (.inl ⟨rfl, h₃⟩)
    | cont => exact wpC_pure (.inl ⟨rfl, h₃⟩)
    | brk => exact wpC_pure h₃
    | ret v => exact wpC_pure h₃
end

theorem wpC_ite_stand {α : Type} {M : Model} {A : Around} {E : Value → Shared → Prop} {s : Shared} {c : Prop} [Decidable c] {pos : Pos} {k : PUnit → Sem α} {Q : α → Shared → Prop} (h : wpC M A (k ()) Q E s) :
    wpC M A (if c then (standAt pos >>= k) else k ()) Q E s := by
  split
  · exact wpC_bind (wpC_standAt h)
  · exact h
theorem wpC_notedAt {α : Type} {M : Model} {A : Around} {env : Env} {m : Sem α} {pos : Pos} {Q : α → Shared → Prop} {E : Value → Shared → Prop} {s : Shared} (h : wpC M A m Q (notedBy M A env E) s) :
    wpC M A (m.onRaise fun x => do noteFrame x env; standAt pos) Q E s :=
  wpC_onRaise (wpC_mono h (fun _ _ q => q) fun _ _ hx => .of (wpAny_bind (wpAny_mono hx (fun _ _ e => wpAny_standAt e) fun _ _ e => e)))
noncomputable def compPostC (M : Model) (A : Around) (E : Value → Shared → Prop) (use : Option (Value → Sem Unit)) (Q : Value → Shared → Prop) (acc : Value) (C : Addr) (r : Result) (s' : Shared) : Prop :=
  match r with
  | .ok f => compPost M A E use Q acc C (.ok f) s'
  | .error _ => False
theorem wpC_comprehension {M : Model} {A : Around} {E : Value → Shared → Prop} {s : Shared} {env : Env} {e : Expr} {scope : Scope} {pos : Pos} {newAcc first : Sem Value} {g : Comprehension} {gs : List Comprehension} {cl : List (Str × Addr)} {use : Option (Value → Sem Unit)}
    {Q : Value → Shared → Prop}
    (hcl : clausesOf e = g :: gs) (hs : ∀ x, foldedSetIterable g.iter env x = pure x) (hclos : closureFor scope env = pure cl)
    (hkind : scope.kind = .function) (hnames : ∀ x ∈ scope.names, x.2 = .local → scope.names.lookup x.1 = some .local)
    (h : wpC M A first (fun x s₁ => wpAny M A (pyIter x) (fun it s₂ => wpAny M A newAcc (fun acc s₃ =>
      wpAny M A (newFunctionEnv scope env.globals cl [] env.qual none .none (some env)) (fun cenv s₄ =>
        codeC M A (.compStart e 0 it acc { cenv with scope := relabel scope env }) (compPostC M A E use Q acc cenv.locals) s₄) E s₃) E s₂) E s₁) E s) :
    wpC M A (comprehension e scope env pos newAcc false first use) Q E s := by
  unfold comprehension
  rw [hclos, hcl]
  refine wpC_bind (wpC_mono h (fun x s₁ h₁ => wpC_bind (wpC_standAt (wpC_bind (wpC_of_eq (hs x) (wpC_bind (wpC_holding (wpC_mono (.of h₁) (fun it s₂ h₂ =>
    wpC_ite_stand (wpC_bind (wpC_mono (.of h₂) (fun acc s₃ h₃ => wpC_bind (wpC_pure (wpC_bind (wpC_mono (.of h₃) (fun cenv s₄ h₄ => ?_) fun _ _ h' => h')))) fun _ _ h' => h')))
      fun _ _ h' => h'))))))) fun _ _ h' => h')
  dsimp only
  have hv : ∀ x ∈ (scope.names.filter fun x => (x.2 == .local || x.2 == .cell) && x.1 != (".0" : Str)).reverse, x.2 = .local →
      Env.kindOf { cenv with scope := relabel scope env } x.1 = some .local := fun x hx hl => lookup_relabel_local (hnames x (List.mem_filter.mp (List.mem_reverse.mp hx)).1 hl)
  have hv' : ∀ x ∈ (scope.names.filter fun x => (x.2 == .local || x.2 == .cell) && x.1 != (".0" : Str)).reverse.drop 1 ++ (scope.names.filter fun x => (x.2 == .local || x.2 == .cell) && x.1 != (".0" : Str)).reverse.take 1,
      x.2 = .local → Env.kindOf { cenv with scope := relabel scope env } x.1 = some .local := fun x hx hl => by
    rcases List.mem_append.mp hx with h1 | h1
    · exact hv x (List.mem_of_mem_drop h1) hl
    · exact hv x (List.mem_of_mem_take h1) hl
  refine wpC_holding (wpC_bind (wpC_attempt (wpC_holding (wpC_run (codeC_mono h₄ fun r s' hr => ?_) (by intro x; cases x)))))
  cases r with
  | ok f =>
    cases use with
    | none =>
      obtain ⟨m, hn, hr⟩ := hr
      exact .of (wpAny_bind (wpAny_holding (wpAny_comp_letGo (cenv := { cenv with scope := relabel scope env }) hkind _ s' m hv hn fun h' m' _ hs' => wpAny_pure (hr h' hs'))))
    | some u =>
      refine .of (wpAny_bind (wpAny_rule (wpAny_bind (wpAny_holding (wpAny_mono hr (fun _ s'' hr' => ?_) fun _ _ h' => h')))))
      obtain ⟨m, hn, hr'⟩ := hr'
      exact wpAny_bind (wpAny_comp_letGo (cenv := { cenv with scope := relabel scope env }) hkind _ s'' m hv' hn fun h' m' _ hs' => wpAny_pure (hr' h' hs'))
  | error x => exact hr.elim

section
variable {prog : Program} {w : World} {A : Around} {E : Value → Shared → Prop} {R : Result → Shared → Prop} {s : Shared} {env : Env}
theorem codeC_compStart_list {elt target iter ifs rest scope pos it acc}
    (h0 : codeC (model prog w) A (.compLoop (.ListComp elt (⟨target, iter, ifs, 0⟩ :: rest) scope pos) 0 it acc env) R s)
    (h : wpAny (model prog w) A (pyIter it) (fun it' s' => codeC (model prog w) A (.compLoop (.ListComp elt (⟨target, iter, ifs, 0⟩ :: rest) scope pos) 0 it' acc env) R s')
      (notedBy (model prog w) A env fun x s' => R (.error x) s') s) :
    codeC (model prog w) A (.compStart (.ListComp elt (⟨target, iter, ifs, 0⟩ :: rest) scope pos) 0 it acc env) R s := by
  refine codeC_of_tree ?_
  show wpC _ _ ((compStart (.ListComp elt (⟨target, iter, ifs, 0⟩ :: rest) scope pos) 0 it acc env).onRaise (fun x => do noteFrame x env; standAt theWindowsPlace)) _ _ s
  refine wpC_notedAt ?_
  unfold compStart
  refine .of ?_
  show wpAny _ _ (ask >>= _) _ _ s
  refine wpAny_bind (wpAny_askSetting (wpAny_ite ?_))
  split
  · first
      | exact wpAny_bind (wpAny_pure (wpAny_pure (And.intro rfl h0)))
      | exact wpAny_pure (And.intro rfl h0)
  · first
      | exact wpAny_bind (wpAny_rule (wpAny_bind (wpAny_standAt (wpAny_bind (wpAny_mono h (fun it' s' h' => wpAny_pure (And.intro rfl h')) fun _ _ x => x)))))
      | (refine wpAny_bind (wpAny_rule ?_); show wpAny _ _ (standAt iter.pos >>= _) _ _ s; exact wpAny_bind (wpAny_standAt (wpAny_bind (wpAny_mono h (fun it' s' h' => wpAny_pure (And.intro rfl h')) fun _ _ x => x))))
end

section
variable {prog : Program} {w : World} {A : Around} {E : Value → Shared → Prop} {s : Shared} {env : Env}
theorem wpC_ite {α : Type} {c : Prop} [Decidable c] {a b : Sem α} {Q : α → Shared → Prop} (h : if c then wpC (model prog w) A a Q E s else wpC (model prog w) A b Q E s) :
    wpC (model prog w) A (if c then a else b) Q E s := by split <;> simp_all
theorem wpC_keep {α : Type} {vs : List Value} {m : Sem α} {Q : α → Shared → Prop} (h : wpC (model prog w) A m Q E s) : wpC (model prog w) A (m.keep vs) Q E s :=
  .mk fun Γ p hΓ hC => by rw [Sem.wp_keep]; exact h.run Γ p hΓ hC
theorem callWithC_function_kw {pos : Pos} {a : Addr} {o : Obj} {fd : FuncData} {first : List Value} {args : List (Bool × Sem Value)} {keywords : List (Option Str × Sem Value)} {Q : Value → Shared → Prop}
    (h : wpC (model prog w) A (evalArgs (.ref a) true args keywords) (fun x s₁ => (s₁.heap.get? a = some o ∧ o.data = .func fd) ∧ wpC (model prog w) A (call (.ref a) (first ++ x.pos) x.kw) Q E s₁) E s) :
    wpC (model prog w) A (callWith pos (.ref a) first args keywords) Q E s := by
  unfold callWith
  refine wpC_bind (wpC_holding (wpC_mono h (fun x s₁ h₁ => wpC_bind (wpC_standAt ?_)) fun _ _ x => x))
  have tail : ∀ {t : Sem Value}, wpC (model prog w) A t Q E s₁ → wpC (model prog w) A (t >>= fun r => holding [r] point >>= fun _ => pure r) Q E s₁ :=
    fun ht => wpC_bind (wpC_mono ht (fun r s₂ hr => wpC_bind (wpC_holding (wpC_point (wpC_pure hr)))) fun _ _ x => x)
  cases hs : (args.any (·.1) || keywords.any (·.1.isNone)) <;>
    refine wpC_bind (m := keeperOf (.ref a)) ?_ <;> unfold keeperOf <;>
    refine wpC_bind (.of (wpAny_load h₁.1.1 ?_)) <;> rw [h₁.1.2] <;> refine wpC_pure ?_
  · first
      | refine wpC_ite ?_
      | skip
    split <;> first
      | exact tail h₁.2
      | exact tail (by unfold callMarked; exact wpC_keep h₁.2)
  · first
      | exact tail (by unfold callMarked; exact wpC_keep h₁.2)
      | exact tail h₁.2
theorem wpC_Call_method {o : Expr} {name : Str} {apos pos : Pos} {args : List Expr} {T id : String} {Q : Value → Shared → Prop}
    (hbase : attributeBase o name env (eval o env) = eval o env)
    (hfew : ((backTo pos (starEach args env)).all (fun x => !x.1) && (backToKw pos (keywordEach [] env)).all (fun x => x.1.isSome)
      && decide (args.length + ([] : List Keyword).length + (if ([] : List Keyword).isEmpty then 0 else 1) < 30)) = true)
    (hline : (apos.endLine == pos.line) = true)
    (pa : PlainAttrs T) (slot : Slot T name id) (hty : typeOf (.builtin id) = pure (.type "method_descriptor"))
    (h : wpC (model prog w) A (eval o env) (fun ov s₁ => s₁.TypeIs ov T ∧ (∀ a, ov = .ref a → ∃ ob, s₁.heap.get? a = some ob ∧ ob.dict = none) ∧
      wpC (model prog w) A (callWith pos (.builtin id) [ov] (backTo pos (starEach args env)) []) Q E s₁) E s) :
    wpC (model prog w) A (eval (.Call (.Attribute o name apos) args [] pos) env) Q E s := by
  rw [arm_eval_Call, hbase]
  refine wpC_bind (wpC_mono h (fun ov s₁ h₁ => ?_) fun _ _ e => e)
  obtain ⟨hT, hd, hc⟩ := h₁
  refine wpC_bind (wpC_standAt ?_)
  first
    | (have hform : methodCallForm (args.length + ([] : List Keyword).length) (backTo pos (starEach args env)) (backToKw pos (keywordEach [] env)) = true := hfew
       have hpos : methodCallPos true o env apos pos = pure pos := by unfold methodCallPos; simp [hline]
       unfold methodCall
       rw [hform]
       refine wpC_bind (wpC_holding (.of (getMethod_builtin hT pa slot hty hd ?_)))
       exact wpC_bind (wpC_of_eq hpos hc))
    | (unfold methodCall calleeOf methodCallPos methodCallForm
       simp only [hfew, hline, if_true, Bool.not_true, Bool.or_true]
       refine wpC_bind (wpC_holding (.of (getMethod_builtin hT pa slot hty hd ?_)))
       exact wpC_bind (wpC_pure hc))
end
end Mine
end

section
set_option Elab.async false
set_option maxRecDepth 100000
set_option linter.unusedVariables false
namespace Mine
open PySem PySem.W PyProof.Rows PySem.Calls

set_option genSizeOf true
set_option genSizeOfSpec true
set_option genInjectivity true
inductive T where
  | none | bool (b : Bool) | int (i : Int) | str (x : Str) | static (v : Value)
  | list (ts : List T) | tup (ts : List T) | dict (ks : List Int) (ts : List T) | range (a b c : Int)
  deriving Inhabited
set_option genSizeOf false
set_option genSizeOfSpec false

noncomputable abbrev PHeap := Addr → Option Obj
noncomputable def listO (vs : Array Value) (n : Nat) : Obj := { cls := .type "list", data := .seq vs n }
noncomputable def tupO (vs : Array Value) (n : Nat) : Obj := { cls := .type "tuple", data := .seq vs n }
noncomputable def rangeO (a b c : Int) (t u v : Tok) : Obj := { cls := .type "range", data := .fields #[.int a t, .int b u, .int c v] }

noncomputable def IntDict (o : Obj) (ks : List Int) (vs : List Value) : Prop :=
  ks.length = vs.length ∧ ∀ (prog : Program) (w : World), o.IsDictOf (intKind prog w) (ks.zip vs)

mutual
noncomputable def Den (H : PHeap) : T → Value → Prop
  | .none, v => v = .none
  | .bool b, v => v = .bool b
  | .int i, v => ∃ t, v = .int i t
  | .str x, v => ∃ t, v = .str x t
  | .static u, v => v = u
  | .list ts, v => ∃ a vs n, v = .ref a ∧ H a = some (listO vs n) ∧ DenL H ts vs.toList
  | .tup ts, v => ∃ a vs n, v = .ref a ∧ H a = some (tupO vs n) ∧ DenL H ts vs.toList
  | .dict ks ts, v => ∃ a o vs, v = .ref a ∧ H a = some o ∧ IntDict o ks vs ∧ DenL H ts vs
  | .range a b c, v => ∃ r t u w, v = .ref r ∧ H r = some (rangeO a b c t u w)
noncomputable def DenL (H : PHeap) : List T → List Value → Prop
  | [], vs => vs = []
  | t :: ts, vs => ∃ v r, vs = v :: r ∧ Den H t v ∧ DenL H ts r
end

mutual
theorem Den.mono {H H' : PHeap} (hm : ∀ a o, H a = some o → H' a = some o) : ∀ (t : T) (v : Value), Den H t v → Den H' t v
  | .none, v, h => by unfold Den at h ⊢; exact h
  | .bool b, v, h => by unfold Den at h ⊢; exact h
  | .int i, v, h => by unfold Den at h ⊢; exact h
  | .str x, v, h => by unfold Den at h ⊢; exact h
  | .static u, v, h => by unfold Den at h ⊢; exact h
  | .list ts, v, h => by
    unfold Den at h ⊢
    obtain ⟨a, vs, n, e, h1, h2⟩ := h
    exact ⟨a, vs, n, e, hm _ _ h1, DenL.mono hm ts _ h2⟩
  | .tup ts, v, h => by
    unfold Den at h ⊢
    obtain ⟨a, vs, n, e, h1, h2⟩ := h
    exact ⟨a, vs, n, e, hm _ _ h1, DenL.mono hm ts _ h2⟩
  | .dict ks ts, v, h => by
    unfold Den at h ⊢
    obtain ⟨a, es, n, e, h1, hk, h2⟩ := h
    exact ⟨a, es, n, e, hm _ _ h1, hk, DenL.mono hm ts _ h2⟩
  | .range a b c, v, h => by
    unfold Den at h ⊢
    obtain ⟨r, t, u, w, e, h1⟩ := h
    exact ⟨r, t, u, w, e, hm _ _ h1⟩
theorem DenL.mono {H H' : PHeap} (hm : ∀ a o, H a = some o → H' a = some o) : ∀ (ts : List T) (vs : List Value), DenL H ts vs → DenL H' ts vs
  | [], vs, h => by unfold DenL at h ⊢; exact h
  | t :: ts, vs, h => by
    unfold DenL at h ⊢
    obtain ⟨v, r, e, h1, h2⟩ := h
    exact ⟨v, r, e, Den.mono hm t v h1, DenL.mono hm ts r h2⟩
end

theorem DenL.nil {H : PHeap} : DenL H [] [] := by unfold DenL; rfl
theorem DenL.cons {H : PHeap} {t : T} {v : Value} {ts vs} (h : Den H t v) (r : DenL H ts vs) : DenL H (t :: ts) (v :: vs) := by
  unfold DenL; exact ⟨v, vs, rfl, h, r⟩
theorem DenL.cons_iff {H : PHeap} {t : T} {ts vs} : DenL H (t :: ts) vs ↔ ∃ v r, vs = v :: r ∧ Den H t v ∧ DenL H ts r := by
  rw [DenL]
theorem DenL.nil_iff {H : PHeap} {vs} : DenL H [] vs ↔ vs = [] := by rw [DenL]
theorem DenL.length {H : PHeap} : ∀ {ts : List T} {vs : List Value}, DenL H ts vs → vs.length = ts.length
  | [], vs, h => by rw [DenL.nil_iff] at h; subst h; rfl
  | t :: ts, vs, h => by
    rw [DenL.cons_iff] at h
    obtain ⟨v, r, rfl, _, h2⟩ := h
    simp [DenL.length h2]
theorem DenL.get {H : PHeap} : ∀ {ts : List T} {vs : List Value}, DenL H ts vs → ∀ {i : Nat} {t : T}, ts[i]? = some t → ∃ v, vs[i]? = some v ∧ Den H t v
  | [], vs, h, i, t, e => by simp at e
  | t₀ :: ts, vs, h, i, t, e => by
    rw [DenL.cons_iff] at h
    obtain ⟨v, r, rfl, h1, h2⟩ := h
    cases i with
    | zero => simp at e; subst e; exact ⟨v, by simp, h1⟩
    | succ i => simp at e; obtain ⟨v', e', d⟩ := DenL.get h2 e; exact ⟨v', by simpa using e', d⟩
theorem DenL.append {H : PHeap} : ∀ {ts : List T} {vs : List Value} {ts' : List T} {vs' : List Value}, DenL H ts vs → DenL H ts' vs' → DenL H (ts ++ ts') (vs ++ vs')
  | [], vs, _, _, h, h' => by rw [DenL.nil_iff] at h; subst h; simpa using h'
  | t :: ts, vs, _, _, h, h' => by
    rw [DenL.cons_iff] at h
    obtain ⟨v, r, rfl, h1, h2⟩ := h
    exact .cons h1 (h2.append h')
theorem DenL.drop {H : PHeap} : ∀ {ts : List T} {vs : List Value}, DenL H ts vs → ∀ (n : Nat), DenL H (ts.drop n) (vs.drop n)
  | _, _, h, 0 => by simpa using h
  | [], vs, h, n + 1 => by rw [DenL.nil_iff] at h; subst h; simpa using DenL.nil
  | t :: ts, vs, h, n + 1 => by
    rw [DenL.cons_iff] at h
    obtain ⟨v, r, rfl, h1, h2⟩ := h
    simpa using h2.drop n
theorem DenL.take {H : PHeap} : ∀ {ts : List T} {vs : List Value}, DenL H ts vs → ∀ (n : Nat), DenL H (ts.take n) (vs.take n)
  | _, _, h, 0 => by simpa using DenL.nil
  | [], vs, h, n + 1 => by rw [DenL.nil_iff] at h; subst h; simpa using DenL.nil
  | t :: ts, vs, h, n + 1 => by
    rw [DenL.cons_iff] at h
    obtain ⟨v, r, rfl, h1, h2⟩ := h
    simpa using DenL.cons h1 (h2.take n)
theorem DenL.set {H : PHeap} : ∀ {ts : List T} {vs : List Value}, DenL H ts vs → ∀ {t : T} {v : Value} (n : Nat), Den H t v → DenL H (ts.set n t) (vs.set n v)
  | [], vs, h, t, v, n, d => by rw [DenL.nil_iff] at h; subst h; simpa using DenL.nil
  | t₀ :: ts, vs, h, t, v, 0, d => by
    rw [DenL.cons_iff] at h
    obtain ⟨v, r, rfl, h1, h2⟩ := h
    simpa using DenL.cons d h2
  | t₀ :: ts, vs, h, t, v, n + 1, d => by
    rw [DenL.cons_iff] at h
    obtain ⟨v, r, rfl, h1, h2⟩ := h
    simpa using DenL.cons h1 (h2.set n d)
inductive D where
  | val (t : T)
  | ref (i : Nat)

inductive Ob where
  | gone
  | list (ts : List T)
  | dict (ks : List Int) (ts : List T)

noncomputable def DenD (H : PHeap) (as : List Addr) : D → Value → Prop
  | .val t, v => Den H t v
  | .ref i, v => ∃ a, as[i]? = some a ∧ v = .ref a

noncomputable def ObAt (H : PHeap) (h : Heap) (a : Addr) : Ob → Prop
  | .gone => True
  | .list ts => H a = none ∧ ∃ vs n, h.get? a = some (listO vs n) ∧ DenL H ts vs.toList
  | .dict ks ts => H a = none ∧ ∃ o vs, h.get? a = some o ∧ IntDict o ks vs ∧ DenL H ts vs

set_option genInjectivity false
structure Cx where
  prog : Program
  w : World
  B : Heap
  os : OsState
  mg : Str → Option Value
  mb : Str → Option Value
  nolimit : B.NoLimit
  g : B.Ns mainGlobals mg
  b : B.Ns builtinsNs mb
  nodigits : ∃ mc, B.Ns cStatics mc ∧ mc "sys.int_max_str_digits" = none

noncomputable def Live (h : Heap) (a : Addr) : Prop := ∃ o, h.get? a = some o
theorem Live.not_none {h : Heap} {a : Addr} (x : Live h a) : h.get? a ≠ none := by obtain ⟨o, e⟩ := x; rw [e]; simp
theorem live_or (h : Heap) (a : Addr) : Live h a ∨ h.get? a = none := by
  cases q : h.get? a with
  | none => exact .inr rfl
  | some o => exact .inl ⟨o, q⟩

noncomputable def Stk (A : Around) (H : PHeap) (as : List Addr) (h : Heap) : Prop :=
  ∃ l, A.frames = some l ∧ ∀ env ∈ l, env.scope.kind ≠ .module ∧ ∃ L, env.frame = some L ∧ L ∉ as ∧ H L = none ∧ ∃ o es n, h.get? L = some o ∧ o.data = .dict es n

noncomputable def Kept (h' : Heap) (a : Addr) (o : Obj) : Prop := h'.get? a = some o ∨ ∃ es n sl, o.data = .dict es n ∧ h'.get? a = some { o with slots := sl }
theorem Kept.trans {h₁ h₂ : Heap} {a : Addr} {o : Obj} (x : Kept h₁ a o) (f : ∀ o', h₁.get? a = some o' → Kept h₂ a o') : Kept h₂ a o := by
  rcases x with x | ⟨es, n, sl, hd, x⟩
  · exact f _ x
  · rcases f _ x with y | ⟨es', n', sl', hd', y⟩
    · exact .inr ⟨es, n, sl, hd, y⟩
    · exact .inr ⟨es, n, sl', hd, y⟩
theorem Kept.exact {h' : Heap} {a : Addr} {o : Obj} (x : Kept h' a o) (hd : ∀ es n, o.data ≠ .dict es n) : h'.get? a = some o := by
  rcases x with x | ⟨es, n, sl, hd', x⟩
  · exact x
  · exact absurd hd' (hd es n)
theorem Kept.ns {h h' : Heap} {a : Addr} {m : Str → Option Value} (hn : h.Ns a m) (x : ∀ o, h.get? a = some o → Kept h' a o) : h'.Ns a m := by
  obtain ⟨o, es, ep, ho, hd, r⟩ := hn
  rcases x o ho with x | ⟨_, _, sl, _, x⟩
  · exact ⟨o, es, ep, x, hd, r⟩
  · exact ⟨_, es, ep, x, hd, r⟩
theorem Kept.live {h' : Heap} {a : Addr} {o : Obj} (x : Kept h' a o) : Live h' a := by
  rcases x with x | ⟨_, _, sl, _, x⟩
  · exact ⟨_, x⟩
  · exact ⟨_, x⟩

structure Mem (C : Cx) (A : Around) (H : PHeap) (as : List Addr) (O : List Ob) (s : Shared) : Prop where
  base : ∀ a o, C.B.get? a = some o → H a = some o
  sat : ∀ a o, H a = some o → s.heap.get? a = some o
  len : as.length = O.length
  nodup : as.Nodup
  obs : ∀ (i : Nat) a ob, as[i]? = some a → O[i]? = some ob → ObAt H s.heap a ob
  live : ∀ a ∈ as, Live s.heap a
  os : s.os = C.os
  gens : s.gens = #[]
  stk : Stk A H as s.heap

theorem Stk.turn {A H as h H' as' h'} (x : Stk A H as h) (ha : ∀ L, L ∉ as → Live h L → L ∉ as') (hH : ∀ L, L ∉ as → H L = none → Live h L → H' L = none)
    (hk : ∀ L o, L ∉ as → h.get? L = some o → Kept h' L o) : Stk A H' as' h' := by
  obtain ⟨l, e, f⟩ := x
  refine ⟨l, e, fun env he => ?_⟩
  obtain ⟨k, L, h1, h2, h3, o, es, n, h4, h5⟩ := f env he
  refine ⟨k, L, h1, ha L h2 ⟨o, h4⟩, hH L h2 h3 ⟨o, h4⟩, ?_⟩
  rcases hk L o h2 h4 with h | ⟨_, _, sl, _, h⟩
  · exact ⟨o, es, n, h, h5⟩
  · exact ⟨_, es, n, h, h5⟩
theorem Stk.turn' {A H as h H' as' h'} (x : Stk A H as h) (ha : ∀ L, L ∉ as → Live h L → L ∉ as') (hH : ∀ L, L ∉ as → H L = none → Live h L → H' L = none)
    (hk : ∀ L o es n, L ∉ as → h.get? L = some o → o.data = .dict es n → ∃ o' es' n', h'.get? L = some o' ∧ o'.data = .dict es' n') : Stk A H' as' h' := by
  obtain ⟨l, e, f⟩ := x
  refine ⟨l, e, fun env he => ?_⟩
  obtain ⟨k, L, h1, h2, h3, o, es, n, h4, h5⟩ := f env he
  exact ⟨k, L, h1, ha L h2 ⟨o, h4⟩, hH L h2 h3 ⟨o, h4⟩, hk L o es n h2 h4 h5⟩
theorem Mem.around {C A A' H as O s} (M : Mem C A H as O s) (h : A'.frames = A.frames) : Mem C A' H as O s :=
  ⟨M.base, M.sat, M.len, M.nodup, M.obs, M.live, M.os, M.gens, let ⟨l, e, f⟩ := M.stk; ⟨l, h.trans e, f⟩⟩

structure Rel (X : List Addr) (H : PHeap) (as : List Addr) (s : Shared) (H' : PHeap) (as' : List Addr) (s' : Shared) : Prop where
  mono : ∀ a o, H a = some o → H' a = some o
  fresh : ∀ a o, H' a = some o → H a = some o ∨ s.heap.get? a = none ∨ a ∈ as
  keep : ∀ a o, s.heap.get? a = some o → a ∉ X → a ∉ as → Kept s'.heap a o
  alive : ∀ a, Live s.heap a → Live s'.heap a
  ext : ∃ more, as' = as ++ more ∧ ∀ a ∈ more, s.heap.get? a = none

theorem Rel.back {X H as s H' as' s'} (r : Rel X H as s H' as' s') {a : Addr} (h : s'.heap.get? a = none) : s.heap.get? a = none := by
  rcases live_or s.heap a with l | l
  · exact absurd h (r.alive a l).not_none
  · exact l

theorem Rel.refl {X H as s} : Rel X H as s H as s :=
  ⟨fun _ _ h => h, fun _ _ h => .inl h, fun _ _ h _ _ => .inl h, fun _ h => h, [], by simp, by simp⟩

theorem Rel.trans {X H as s H' as' s' H'' as'' s''} (r : Rel X H as s H' as' s') (r' : Rel X H' as' s' H'' as'' s'') : Rel X H as s H'' as'' s'' := by
  obtain ⟨m1, e1, f1⟩ := r.ext
  obtain ⟨m2, e2, f2⟩ := r'.ext
  refine ⟨fun a o h => r'.mono _ _ (r.mono _ _ h), fun a o h => ?_, fun a o h hX ha => ?_, fun a h => r'.alive a (r.alive a h), m1 ++ m2, by rw [e2, e1, List.append_assoc], fun a ha => ?_⟩
  · rcases r'.fresh _ _ h with h | h | h
    · exact r.fresh _ _ h
    · exact .inr (.inl (r.back h))
    · rw [e1] at h
      rcases List.mem_append.mp h with h | h
      · exact .inr (.inr h)
      · exact .inr (.inl (f1 _ h))
  · refine (r.keep _ _ h hX ha).trans fun o' h' => r'.keep _ _ h' hX ?_
    rw [e1]
    intro hm
    rcases List.mem_append.mp hm with hm | hm
    · exact ha hm
    · rw [f1 _ hm] at h; cases h
  · rcases List.mem_append.mp ha with ha | ha
    · exact f1 _ ha
    · exact r.back (f2 _ ha)

theorem Rel.weaken {X Y H as s H' as' s'} (r : Rel X H as s H' as' s') (h : ∀ a ∈ X, a ∈ Y) : Rel Y H as s H' as' s' :=
  ⟨r.mono, r.fresh, fun a o e hY ha => r.keep a o e (fun hx => hY (h a hx)) ha, r.alive, r.ext⟩

theorem Rel.get_as {X H as s H' as' s'} (r : Rel X H as s H' as' s') {i : Nat} {a : Addr} (h : as[i]? = some a) : as'[i]? = some a := by
  obtain ⟨m, rfl, _⟩ := r.ext
  rw [List.getElem?_append_left (by have := (List.getElem?_eq_some_iff.mp h).1; exact this)]; exact h

theorem DenD.rel {X H as s H' as' s'} (r : Rel X H as s H' as' s') {d : D} {v : Value} (h : DenD H as d v) : DenD H' as' d v := by
  cases d with
  | val t => exact Den.mono r.mono t v h
  | ref i => obtain ⟨a, e, rfl⟩ := h; exact ⟨a, r.get_as e, rfl⟩

theorem Mem.grow {C A H as O s} (M : Mem C A H as O s) {H' : PHeap} {s' : Shared} (hs' : ∀ a o, H' a = some o → s'.heap.get? a = some o)
    (hm : ∀ a o, H a = some o → H' a = some o) (hf : ∀ a o, H' a = some o → H a = some o ∨ s.heap.get? a = none)
    (hk : ∀ a o, s.heap.get? a = some o → s'.heap.get? a = some o) (hos : s'.os = s.os) (hg : s'.gens = s.gens) : Mem C A H' as O s' where
  base := fun a o h => hm _ _ (M.base a o h)
  sat := hs'
  len := M.len
  nodup := M.nodup
  obs := fun i a ob ha ho => by
    have h := M.obs i a ob ha ho
    have hlt := M.live a (List.mem_of_getElem? ha)
    have hn : ∀ o, H' a = some o → H a = some o := fun o h => (hf _ _ h).elim id fun h => absurd h hlt.not_none
    have hnone : H a = none → H' a = none := fun e => by
      cases q : H' a with
      | none => rfl
      | some o => have := hn _ q; rw [e] at this; cases this
    cases ob with
    | gone => trivial
    | list ts => obtain ⟨h0, vs, n, h1, h2⟩ := h; exact ⟨hnone h0, vs, n, hk _ _ h1, DenL.mono hm _ _ h2⟩
    | dict ks ts => obtain ⟨h0, es, n, h1, h1', h2⟩ := h; exact ⟨hnone h0, es, n, hk _ _ h1, h1', DenL.mono hm _ _ h2⟩
  live := fun a ha => let ⟨o, e⟩ := M.live a ha; ⟨o, hk _ _ e⟩
  os := hos.trans M.os
  gens := hg.trans M.gens
  stk := M.stk.turn (fun L h _ => h) (fun L h1 h2 h3 => by
    cases q : H' L with
    | none => rfl
    | some o =>
      rcases hf _ _ q with h | h
      · rw [h2] at h; cases h
      · exact absurd h h3.not_none) fun L o _ e => .inl (hk _ _ e)

theorem Rel.grow {X H as} {s : Shared} {H' : PHeap} {s' : Shared}
    (hm : ∀ a o, H a = some o → H' a = some o) (hf : ∀ a o, H' a = some o → H a = some o ∨ s.heap.get? a = none)
    (hk : ∀ a o, s.heap.get? a = some o → s'.heap.get? a = some o) : Rel X H as s H' as s' :=
  ⟨hm, fun a o h => (hf a o h).imp id .inl, fun a o h _ _ => .inl (hk a o h), fun a h => let ⟨o, e⟩ := h; ⟨o, hk _ _ e⟩, [], by simp, by simp⟩

theorem Mem.tok {C A H as O s} (M : Mem C A H as O s) (t : Nat) : Mem C A H as O { s with toks := t } :=
  M.grow M.sat (fun _ _ h => h) (fun _ _ h => .inl h) (fun _ _ h => h) rfl rfl
theorem Rel.tok {X H as} {s : Shared} (t : Nat) : Rel X H as s H as { s with toks := t } :=
  Rel.grow (fun _ _ h => h) (fun _ _ h => .inl h) (fun _ _ h => h)

theorem Mem.fresh_none {C A H as O s} (M : Mem C A H as O s) {a : Addr} (h : s.heap.get? a = none) : H a = none := by
  cases q : H a with
  | none => rfl
  | some o => rw [M.sat _ _ q] at h; cases h
theorem get?_size (h : Heap) : h.get? h.objs.size = none := by
  cases q : h.get? h.objs.size with
  | none => rfl
  | some o => exact absurd (Heap.lt_size q) (Nat.lt_irrefl _)

noncomputable def PHeap.put (H : PHeap) (a : Addr) (o : Obj) : PHeap := fun b => if b = a then some o else H b
theorem PHeap.put_mono {C A H as O s} (M : Mem C A H as O s) {a : Addr} {o : Obj} (h : s.heap.get? a = none) : ∀ b o', H b = some o' → H.put a o b = some o' := fun b o' e => by
  unfold PHeap.put
  split
  · rename_i q; subst q; rw [M.fresh_none h] at e; cases e
  · exact e
theorem PHeap.put_self {H : PHeap} {a : Addr} {o : Obj} : H.put a o a = some o := by simp [PHeap.put]

theorem Mem.put {C A H as O s} (M : Mem C A H as O s) {a : Addr} {o : Obj} {s' : Shared} (ha : s.heap.get? a = none) (ho : s'.heap.get? a = some o)
    (hk : ∀ a o, s.heap.get? a = some o → s'.heap.get? a = some o) (hos : s'.os = s.os) (hg : s'.gens = s.gens) :
    Mem C A (H.put a o) as O s' ∧ ∀ X, Rel X H as s (H.put a o) as s' := by
  have hm := PHeap.put_mono M (o := o) ha
  have hf : ∀ b o', H.put a o b = some o' → H b = some o' ∨ s.heap.get? b = none := fun b o' e => by
    unfold PHeap.put at e
    split at e
    · rename_i q; subst q; exact .inr ha
    · exact .inl e
  refine ⟨M.grow (fun b o' e => ?_) hm hf hk hos hg, fun X => Rel.grow hm hf hk⟩
  unfold PHeap.put at e
  split at e
  · rename_i q; subst q; cases e; exact ho
  · exact hk _ _ (M.sat _ _ e)
theorem Mem.same {C A H as O s} (M : Mem C A H as O s) {s' : Shared}
    (hk : ∀ a o, s.heap.get? a = some o → s'.heap.get? a = some o) (hos : s'.os = s.os) (hg : s'.gens = s.gens) :
    Mem C A H as O s' ∧ ∀ X, Rel X H as s H as s' :=
  ⟨M.grow (fun a o e => hk _ _ (M.sat _ _ e)) (fun _ _ h => h) (fun _ _ h => .inl h) hk hos hg, fun _ => Rel.grow (fun _ _ h => h) (fun _ _ h => .inl h) hk⟩

theorem Mem.own {C A H as O s} (M : Mem C A H as O s) {a : Addr} {ob : Ob} {s' : Shared} (ha : s.heap.get? a = none) (ho : ObAt H s'.heap a ob) (hlt : Live s'.heap a)
    (hk : ∀ a o, s.heap.get? a = some o → s'.heap.get? a = some o) (hos : s'.os = s.os) (hg : s'.gens = s.gens) :
    Mem C A H (as ++ [a]) (O ++ [ob]) s' ∧ ∀ X, Rel X H as s H (as ++ [a]) s' := by
  obtain ⟨M', R⟩ := M.same hk hos hg
  refine ⟨⟨M'.base, M'.sat, by simp [M.len], ?_, fun i b ob' hb ho' => ?_, fun b hb => ?_, M'.os, M'.gens, M.stk.turn (fun L h l => by
    intro hm
    rcases List.mem_append.mp hm with hm | hm
    · exact h hm
    · have : L = a := by simpa using hm
      subst this; exact l.not_none ha) (fun L _ h _ => h) fun L o _ e => .inl (hk _ _ e)⟩, fun X => ⟨(R X).mono, (R X).fresh, (R X).keep, (R X).alive, [a], rfl, by simpa using ha⟩⟩
  · refine List.nodup_append.mpr ⟨M.nodup, by simp, fun x hx y hy => ?_⟩
    have : y = a := by simpa using hy
    subst this
    rintro rfl
    exact (M.live x hx).not_none ha
  · by_cases hi : i < as.length
    · rw [List.getElem?_append_left hi] at hb
      rw [List.getElem?_append_left (by rw [← M.len]; exact hi)] at ho'
      exact M'.obs i b ob' hb ho'
    · have hi' : i = as.length := by
        have := (List.getElem?_eq_some_iff.mp hb).1
        simp at this; (first | exact Nat.eq_of_lt_succ_of_not_lt this hi | lia)
      subst hi'
      simp at hb
      rw [M.len] at ho'
      simp at ho'
      subst hb; subst ho'
      exact ho
  · rcases List.mem_append.mp hb with hb | hb
    · exact M'.live b hb
    · have : b = a := by simpa using hb
      subst this; exact hlt

theorem Mem.upd {C A H as O s} (M : Mem C A H as O s) {i : Nat} {a : Addr} {ob : Ob} {s' : Shared} (ha : as[i]? = some a) (ho : ObAt H s'.heap a ob) (hl : Live s'.heap a)
    (hk : ∀ b o, b ≠ a → s.heap.get? b = some o → s'.heap.get? b = some o) (hn : H a = none) (hos : s'.os = s.os) (hg : s'.gens = s.gens) :
    Mem C A H as (O.set i ob) s' ∧ ∀ X, Rel X H as s H as s' := by
  have hmem : a ∈ as := List.mem_of_getElem? ha
  have hH : ∀ b o, H b = some o → b ≠ a := fun b o e q => by subst q; rw [hn] at e; cases e
  have hal : ∀ b, Live s.heap b → Live s'.heap b := fun b ⟨o, e⟩ => by
    by_cases q : b = a
    · rw [q]; exact hl
    · exact ⟨o, hk b o q e⟩
  refine ⟨⟨M.base, fun b o e => hk _ _ (hH b o e) (M.sat _ _ e), by simp [M.len], M.nodup, fun j b ob' hb ho' => ?_, fun b hb => hal b (M.live b hb), hos.trans M.os, hg.trans M.gens, M.stk.turn (fun L h _ => h) (fun L _ h _ => h) fun L o hL e => .inl (hk L o (fun q => hL (q ▸ hmem)) e)⟩,
    fun X => ⟨fun _ _ h => h, fun _ _ h => .inl h, fun b o e _ hb => .inl (hk b o (fun q => hb (q ▸ hmem)) e), hal, [], by simp, by simp⟩⟩
  by_cases hj : j = i
  · subst hj
    rw [ha] at hb; cases hb
    have hlt : j < O.length := by rw [← M.len]; exact (List.getElem?_eq_some_iff.mp ha).1
    rw [List.getElem?_set_self hlt] at ho'
    cases ho'; exact ho
  · rw [List.getElem?_set_ne (by (first | exact fun ze => hj ze.symm | lia))] at ho'
    have h := M.obs j b ob' hb ho'
    have hne : b ≠ a := fun q => by
      subst q
      exact hj ((List.getElem?_inj (List.getElem?_eq_some_iff.mp hb).1 M.nodup).mp (hb.trans ha.symm))
    cases ob' with
    | gone => trivial
    | list ts => obtain ⟨h0, vs, n, h1, h2⟩ := h; exact ⟨h0, vs, n, hk _ _ hne h1, h2⟩
    | dict ks ts => obtain ⟨h0, es, n, h1, h1', h2⟩ := h; exact ⟨h0, es, n, hk _ _ hne h1, h1', h2⟩

end Mine
end

section
set_option Elab.async false
set_option maxRecDepth 100000
set_option linter.unusedVariables false
namespace Mine
open PySem PySem.W PyProof.Rows PySem.Calls

noncomputable abbrev Vars := List (Str × D)
noncomputable abbrev Kinds := List (Str × NameKind)

noncomputable def slots (env : Env) : List Addr := env.locals :: env.cells.map (·.2)

structure EnvOk (sc : Kinds) (env : Env) : Prop where
  names : env.scope.names = sc
  kind : env.scope.kind = .function
  globals : env.globals = mainGlobals
  builtins : env.builtins = builtinsNs
  cellsOk : ∀ x, sc.lookup x = some .cell → ∃ c, env.cells.lookup x = some c

structure Loc (H : PHeap) (as : List Addr) (env : Env) (ρ : Vars) (s : Shared) : Prop where
  off : ∀ a ∈ slots env, a ∉ as ∧ H a = none ∧ Live s.heap a
  apart : env.cells.Pairwise fun x y => x.2 ≠ y.2
  apartL : ∀ n c, (n, c) ∈ env.cells → c ≠ env.locals
  ns : ∃ m, s.heap.Ns env.locals m ∧ ∀ x d, ρ.lookup x = some d → env.kindOf x = some .local → ∃ v, DenD H as d v ∧ m x = some v
  cell : ∀ n c, (n, c) ∈ env.cells → ∃ v, s.heap.IsCell c v
  cells : ∀ x d, ρ.lookup x = some d → env.kindOf x = some .cell → ∃ v c, DenD H as d v ∧ env.cells.lookup x = some c ∧ s.heap.IsCell c (some v)

theorem Loc.rel {H as env ρ s H' as' s'} (l : Loc H as env ρ s) (r : Rel [] H as s H' as' s') : Loc H' as' env ρ s' := by
  have keep : ∀ a ∈ slots env, ∀ o, s.heap.get? a = some o → Kept s'.heap a o := fun a ha o e => r.keep a o e (by simp) (l.off a ha).1
  have hc : ∀ n c, (n, c) ∈ env.cells → c ∈ slots env := fun n c h => List.mem_cons_of_mem _ (List.mem_map_of_mem (f := (·.2)) h)
  refine ⟨fun a ha => ?_, l.apart, l.apartL, ?_, fun n c h => ?_, fun x d hx hk => ?_⟩
  · obtain ⟨h1, h2, h3⟩ := l.off a ha
    obtain ⟨more, rfl, hm⟩ := r.ext
    refine ⟨fun hmem => ?_, ?_, r.alive _ h3⟩
    · rcases List.mem_append.mp hmem with h | h
      · exact h1 h
      · exact h3.not_none (hm a h)
    · cases q : H' a with
      | none => rfl
      | some o =>
        rcases r.fresh a o q with h | h | h
        · rw [h2] at h; cases h
        · exact absurd h h3.not_none
        · exact absurd h h1
  · obtain ⟨m, hn, hm⟩ := l.ns
    exact ⟨m, Kept.ns hn (keep _ (List.mem_cons_self ..)), fun x d hx hk => let ⟨v, hv, e⟩ := hm x d hx hk; ⟨v, hv.rel r, e⟩⟩
  · obtain ⟨v, o, ho, hd⟩ := l.cell n c h
    exact ⟨v, o, (keep _ (hc n c h) _ ho).exact (fun es n q => by rw [hd] at q; cases q), hd⟩
  · obtain ⟨v, c, hv, e, o, ho, hd⟩ := l.cells x d hx hk
    exact ⟨v, c, hv.rel r, e, o, (keep _ (hc x c (mem_of_lookup e)) _ ho).exact (fun es n q => by rw [hd] at q; cases q), hd⟩

structure Room (n : Nat) (A : Around) : Prop where
  handled : 0 < n → A.handled = none
  depth : A.depth + n ≤ 900
  units : A.units + 60 * n ≤ 9000
theorem Room.le {n m A} (r : Room n A) (h : m ≤ n) : Room m A := ⟨fun h' => r.handled (Nat.lt_of_lt_of_le h' h), by have := r.depth; (first | exact Nat.le_trans (Nat.add_le_add_left h _) this | lia), by have := r.units; (first | exact Nat.le_trans (Nat.add_le_add_left (Nat.mul_le_mul_left 60 h) _) this | lia)⟩

inductive After (C : Cx) (A : Around) (X : List Addr) (H : PHeap) (as : List Addr) (s : Shared) (Φ : D → List Ob → Prop) (v : Value) (s' : Shared) : Prop
  | intro (d : D) (O' : List Ob) (H' : PHeap) (as' : List Addr) (h : Φ d O') (M : Mem C A H' as' O' s') (D : DenD H' as' d v) (R : Rel X H as s H' as' s')
inductive AfterB (C : Cx) (A : Around) (X : List Addr) (H : PHeap) (as : List Addr) (s : Shared) (Φ : Bool → List Ob → Prop) (b : Bool) (s' : Shared) : Prop
  | intro (O' : List Ob) (H' : PHeap) (as' : List Addr) (h : Φ b O') (M : Mem C A H' as' O' s') (R : Rel X H as s H' as' s')

theorem After.out {C A X H as s Φ v s'} {P : Prop} (h : After C A X H as s Φ v s') (k : ∀ d O' H' as', Φ d O' → Mem C A H' as' O' s' → DenD H' as' d v → Rel X H as s H' as' s' → P) : P :=
  h.casesOn k
theorem AfterB.out {C A X H as s Φ b s'} {P : Prop} (h : AfterB C A X H as s Φ b s') (k : ∀ O' H' as', Φ b O' → Mem C A H' as' O' s' → Rel X H as s H' as' s' → P) : P :=
  h.casesOn k
theorem After.from {C A X H as s H' as' s' Φ v s''} (r : Rel X H as s H' as' s') (h : After C A X H' as' s' Φ v s'') : After C A X H as s Φ v s'' :=
  h.casesOn fun d O' H2 as2 h1 h2 h3 h4 => ⟨d, O', H2, as2, h1, h2, h3, r.trans h4⟩
noncomputable def DenDs (H : PHeap) (as : List Addr) : List D → List Value → Prop
  | [], [] => True
  | d :: ds, v :: vs => DenD H as d v ∧ DenDs H as ds vs
  | _, _ => False
theorem DenDs.rel {X H as s H' as' s'} (r : Rel X H as s H' as' s') : ∀ {ds : List D} {vs : List Value}, DenDs H as ds vs → DenDs H' as' ds vs
  | [], [], _ => trivial
  | d :: ds, v :: vs, ⟨h, t⟩ => ⟨h.rel r, DenDs.rel r t⟩
  | [], _ :: _, h => h.elim
  | _ :: _, [], h => h.elim

noncomputable def WPt (C : Cx) (n : Nat) (O : List Ob) (ds : List D) (t : List Value → Sem Value) (Φ : D → List Ob → Prop) : Prop :=
  ∀ A H as s vs E, Room n A → Mem C A H as O s → DenDs H as ds vs → wpAny (model C.prog C.w) A (t vs) (After C A [] H as s Φ) E s
noncomputable def WPe (C : Cx) (n : Nat) (sc : Kinds) (ρ : Vars) (O : List Ob) (e : Expr) (Φ : D → List Ob → Prop) : Prop :=
  ∀ A env H as s E, Room n A → EnvOk sc env → Mem C A H as O s → Loc H as env ρ s → wpC (model C.prog C.w) A (eval e env) (After C A [] H as s Φ) E s

theorem WPe.run {C n sc ρ O e Φ} {A env H as s E} (h : WPe C n sc ρ O e Φ) (rm : Room n A) (eo : EnvOk sc env) (M : Mem C A H as O s) (l : Loc H as env ρ s) : wpC (model C.prog C.w) A (eval e env) (After C A [] H as s Φ) E s := h A env H as s E rm eo M l
noncomputable def WPb (C : Cx) (n : Nat) (sc : Kinds) (ρ : Vars) (O : List Ob) (e : Expr) (Φ : Bool → List Ob → Prop) : Prop :=
  ∀ A env H as s E, Room n A → EnvOk sc env → Mem C A H as O s → Loc H as env ρ s → wpC (model C.prog C.w) A (isTrue e env (eval e env)) (AfterB C A [] H as s Φ) E s

section
variable {C : Cx} {n : Nat} {sc : Kinds} {ρ : Vars} {O : List Ob} {Φ : D → List Ob → Prop}

theorem WPe.mono {e Φ'} (h : WPe C n sc ρ O e Φ) (hi : ∀ d O', Φ d O' → Φ' d O') : WPe C n sc ρ O e Φ' := fun A env H as s E r eo M l =>
  wpC_mono (h A env H as s E r eo M l) (fun v s' qq => qq.out fun d O' H' as' h M D R => ⟨d, O', H', as', hi _ _ h, M, D, R⟩) fun _ _ x => x
theorem WPb.mono {e} {Ψ Ψ' : Bool → List Ob → Prop} (h : WPb C n sc ρ O e Ψ) (hi : ∀ d O', Ψ d O' → Ψ' d O') : WPb C n sc ρ O e Ψ' := fun A env H as s E r eo M l =>
  wpC_mono (h A env H as s E r eo M l) (fun v s' qq => qq.out fun O' H' as' h M R => ⟨O', H', as', hi _ _ h, M, R⟩) fun _ _ x => x

theorem WPe_int {i k pos} (h : Φ (.val (.int i)) O) : WPe C n sc ρ O (.Constant (.int i) k pos) Φ := fun A env H as s E r eo M l =>
  .of (wpAny_Constant_int ⟨_, _, H, as, h, M.tok _, by unfold DenD Den; exact ⟨_, rfl⟩, Rel.tok _⟩)
theorem WPe_str {x k pos} (h : Φ (.val (.str x)) O) : WPe C n sc ρ O (.Constant (.str x) k pos) Φ := fun A env H as s E r eo M l =>
  .of (wpAny_Constant_str ⟨_, _, H, as, h, M.tok _, by unfold DenD Den; exact ⟨_, rfl⟩, Rel.tok _⟩)
theorem WPe_none {k pos} (h : Φ (.val .none) O) : WPe C n sc ρ O (.Constant .none k pos) Φ := fun A env H as s E r eo M l =>
  .of (wpAny_Constant_none ⟨_, _, H, as, h, M, by unfold DenD Den; rfl, Rel.refl⟩)
theorem WPe_var {x pos d} (hx : ρ.lookup x = some d) (hk : sc.lookup x = some .local ∨ sc.lookup x = some .cell) (h : Φ d O) (hd : (x == ("__debug__" : Str)) = false) : WPe C n sc ρ O (.Name x pos) Φ := fun A env H as s E r eo M l => by
  refine .of (wpAny_Name ?_ hd)
  rcases hk with hk | hk
  · have hk' : env.kindOf x = some .local := by unfold Env.kindOf; rw [eo.names]; exact hk
    obtain ⟨m, hn, hm⟩ := l.ns
    obtain ⟨v, hv, e⟩ := hm x d hx hk'
    exact wpAny_loadName_local eo.kind hk' hn e ⟨d, O, H, as, h, M, hv, Rel.refl⟩
  · have hk' : env.kindOf x = some .cell := by unfold Env.kindOf; rw [eo.names]; exact hk
    obtain ⟨v, c, hv, e, ic⟩ := l.cells x d hx hk'
    exact wpAny_loadName_cell eo.kind hk' e ic ⟨d, O, H, as, h, M, hv, Rel.refl⟩

theorem Mem.keepB {C A H as O s} (M : Mem C A H as O s) : ∀ b o, C.B.get? b = some o → s.heap.get? b = some o := fun b o e => M.sat _ _ (M.base _ _ e)

theorem WPe_glob {x pos v} (hx : C.mg x = some v) (hk : sc.lookup x = some .globalImplicit) (h : Φ (.val (.static v)) O) (hd : (x == ("__debug__" : Str)) = false) : WPe C n sc ρ O (.Name x pos) Φ := fun A env H as s E r eo M l => by
  have hk' : env.kindOf x = some .globalImplicit := by unfold Env.kindOf; rw [eo.names]; exact hk
  refine .of (wpAny_Name ?_ hd)
  unfold loadName
  simp only [Env.blockKind, eo.kind, hk', ScopeKind.isAnnotationScope, Bool.false_and, Bool.false_eq_true, if_false]
  exact loadGlobal_global (by rw [eo.globals]; exact C.g.keeps M.keepB) hx ⟨_, O, H, as, h, M, by unfold DenD Den; rfl, Rel.refl⟩
theorem WPe_glob_int {x pos i t} (hx : C.mg x = some (.int i t)) (hk : sc.lookup x = some .globalImplicit) (h : Φ (.val (.int i)) O) (hd : (x == ("__debug__" : Str)) = false) : WPe C n sc ρ O (.Name x pos) Φ := fun A env H as s E r eo M l => by
  have hk' : env.kindOf x = some .globalImplicit := by unfold Env.kindOf; rw [eo.names]; exact hk
  refine .of (wpAny_Name ?_ hd)
  unfold loadName
  simp only [Env.blockKind, eo.kind, hk', ScopeKind.isAnnotationScope, Bool.false_and, Bool.false_eq_true, if_false]
  exact loadGlobal_global (by rw [eo.globals]; exact C.g.keeps M.keepB) hx ⟨_, O, H, as, h, M, by unfold DenD Den; exact ⟨_, rfl⟩, Rel.refl⟩
theorem WPe_builtin {x pos v} (hx : C.mg x = none) (hb : C.mb x = some v) (hk : sc.lookup x = some .globalImplicit) (h : Φ (.val (.static v)) O) (hd : (x == ("__debug__" : Str)) = false) : WPe C n sc ρ O (.Name x pos) Φ := fun A env H as s E r eo M l => by
  have hk' : env.kindOf x = some .globalImplicit := by unfold Env.kindOf; rw [eo.names]; exact hk
  refine .of (wpAny_Name ?_ hd)
  unfold loadName
  simp only [Env.blockKind, eo.kind, hk', ScopeKind.isAnnotationScope, Bool.false_and, Bool.false_eq_true, if_false]
  exact loadGlobal_builtin (by rw [eo.globals]; exact C.g.keeps M.keepB) hx (by rw [eo.builtins]; exact C.b.keeps M.keepB) hb ⟨_, O, H, as, h, M, by unfold DenD Den; rfl, Rel.refl⟩

theorem WPe_BinOp {l op r pos} (h : WPe C n sc ρ O l fun d₁ O₁ => WPe C n sc ρ O₁ r fun d₂ O₂ => WPt C n O₂ [d₁, d₂] (fun vs => binaryOp op (vs.getD 0 .none) (vs.getD 1 .none)) Φ) :
    WPe C n sc ρ O (.BinOp l op r pos) Φ := fun A env H as s E rm eo M lc =>
  wpC_BinOp (wpC_mono (h A env H as s E rm eo M lc) (fun v₁ s₁ qq => qq.out fun d₁ O₁ H₁ as₁ h₁ M₁ D₁ R₁ =>
    wpC_mono (h₁ A env H₁ as₁ s₁ E rm eo M₁ (lc.rel R₁)) (fun v₂ s₂ qq => qq.out fun d₂ O₂ H₂ as₂ h₂ M₂ D₂ R₂ =>
      wpAny_mono (h₂ A H₂ as₂ s₂ [v₁, v₂] E rm M₂ ⟨D₁.rel R₂, D₂, trivial⟩) (fun v s' h' => h'.from (R₁.trans R₂)) fun _ _ x => x) fun _ _ x => x) fun _ _ x => x)

theorem WPe_UnaryOp {op x pos} (h : WPe C n sc ρ O x fun d₁ O₁ => WPt C n O₁ [d₁] (fun vs => unaryOp op (vs.getD 0 .none)) Φ) :
    WPe C n sc ρ O (.UnaryOp op x pos) Φ := fun A env H as s E rm eo M lc =>
  wpC_UnaryOp (wpC_mono (h A env H as s E rm eo M lc) (fun v₁ s₁ qq => qq.out fun d₁ O₁ H₁ as₁ h₁ M₁ D₁ R₁ =>
      wpAny_mono (h₁ A H₁ as₁ s₁ [v₁] E rm M₁ ⟨D₁, trivial⟩) (fun v s' h' => h'.from R₁) fun _ _ x => x) fun _ _ x => x)

theorem WPe_Compare {l op r pos} (h : WPe C n sc ρ O l fun d₁ O₁ => WPe C n sc ρ O₁ r fun d₂ O₂ => WPt C n O₂ [d₁, d₂] (fun vs => compareOp op (vs.getD 0 .none) (vs.getD 1 .none)) Φ)
    (hm : behindInMarks op r = false) :
    WPe C n sc ρ O (.Compare l [op] [r] pos) Φ := fun A env H as s E rm eo M lc =>
  wpC_Compare1 (wpC_mono (h A env H as s E rm eo M lc) (fun v₁ s₁ qq => qq.out fun d₁ O₁ H₁ as₁ h₁ M₁ D₁ R₁ =>
    wpC_mono (h₁ A env H₁ as₁ s₁ E rm eo M₁ (lc.rel R₁)) (fun v₂ s₂ qq => qq.out fun d₂ O₂ H₂ as₂ h₂ M₂ D₂ R₂ =>
      wpAny_mono (h₂ A H₂ as₂ s₂ [v₁, v₂] E rm M₂ ⟨D₁.rel R₂, D₂, trivial⟩) (fun v s' h' => h'.from (R₁.trans R₂)) fun _ _ x => x) fun _ _ x => x) fun _ _ x => x) hm

inductive BoolP (d : D) (Ψ : Bool → Prop) : Prop
  | intro (b : Bool) (e : d = .val (.bool b)) (h : Ψ b)
theorem BoolP.pos {c : Bool} {P Q : Prop} (hc : c = true) (h : P) : BoolP (.val (.bool c)) fun b => if b = true then P else Q := ⟨c, rfl, by rw [if_pos hc]; exact h⟩
theorem BoolP.neg {c : Bool} {P Q : Prop} (hc : ¬ c = true) (h : Q) : BoolP (.val (.bool c)) fun b => if b = true then P else Q := ⟨c, rfl, by rw [if_neg hc]; exact h⟩
theorem WPb_Compare {l op r pos} {Ψ : Bool → List Ob → Prop} (h : WPe C n sc ρ O l fun d₁ O₁ => WPe C n sc ρ O₁ r fun d₂ O₂ => WPt C n O₂ [d₁, d₂] (fun vs => compareOp op (vs.getD 0 .none) (vs.getD 1 .none)) fun d O' => BoolP d fun b => Ψ b O')
    (hm : behindInMarks op r = false) :
    WPb C n sc ρ O (.Compare l [op] [r] pos) Ψ := fun A env H as s E rm eo M lc =>
  wpC_isTrue_Compare1 (wpC_mono (h A env H as s E rm eo M lc) (fun v₁ s₁ qq => qq.out fun d₁ O₁ H₁ as₁ h₁ M₁ D₁ R₁ =>
    wpC_mono (h₁ A env H₁ as₁ s₁ E rm eo M₁ (lc.rel R₁)) (fun v₂ s₂ qq => qq.out fun d₂ O₂ H₂ as₂ h₂ M₂ D₂ R₂ =>
      wpAny_mono (h₂ A H₂ as₂ s₂ [v₁, v₂] E rm M₂ ⟨D₁.rel R₂, D₂, trivial⟩) (fun v s' qq => qq.out fun d O' H' as' hq M' D' R' => by
        obtain ⟨b, hb, hΨ⟩ := hq
        subst hb
        unfold DenD Den at D'
        subst D'
        exact wpAny_truthy_bool ⟨O', H', as', hΨ, M', (R₁.trans R₂).trans R'⟩) fun _ _ x => x) fun _ _ x => x) fun _ _ x => x) hm

theorem WPb_and {x y pos} {Ψ : Bool → List Ob → Prop} (h : WPb C n sc ρ O x fun b O₁ => if b then WPb C n sc ρ O₁ y Ψ else Ψ false O₁) : WPb C n sc ρ O (.BoolOp .And [x, y] pos) Ψ := fun A env H as s E rm eo M lc => by
  refine wpC_isTrue_BoolOp (wpC_allTrue_And_cons (wpC_mono (h A env H as s E rm eo M lc) (fun b s₁ qq => qq.out fun O₁ H₁ as₁ h₁ M₁ R₁ => ?_) fun _ _ x => x))
  cases b with
  | false => simp only [Bool.false_eq_true, if_false] at h₁ ⊢; exact ⟨O₁, H₁, as₁, h₁, M₁, R₁⟩
  | true =>
    simp only [if_true] at h₁ ⊢
    refine wpC_allTrue_And_cons (wpC_mono (h₁ A env H₁ as₁ s₁ E rm eo M₁ (lc.rel R₁)) (fun b s₂ qq => qq.out fun O₂ H₂ as₂ h₂ M₂ R₂ => ?_) fun _ _ x => x)
    cases b with
    | false => simp only [Bool.false_eq_true, if_false]; exact ⟨O₂, H₂, as₂, h₂, M₂, R₁.trans R₂⟩
    | true => simp only [if_true]; exact wpC_allTrue_And_nil ⟨O₂, H₂, as₂, h₂, M₂, R₁.trans R₂⟩
end

set_option genInjectivity true
inductive Out where
  | next (ρ : Vars) (O : List Ob)
  | brk (ρ : Vars) (O : List Ob)
  | cont (ρ : Vars) (O : List Ob)
  | ret (d : D) (O : List Ob)

inductive AfterN (C : Cx) (A : Around) (env : Env) (H' : PHeap) (as' : List Addr) (P : Vars → List Ob → Prop) (s' : Shared) : Prop
  | intro (ρ' : Vars) (O' : List Ob) (h : P ρ' O') (M : Mem C A H' as' O' s') (l : Loc H' as' env ρ' s')
inductive AfterR (C : Cx) (A : Around) (H' : PHeap) (as' : List Addr) (P : D → List Ob → Prop) (v : Value) (s' : Shared) : Prop
  | intro (d : D) (O' : List Ob) (h : P d O') (M : Mem C A H' as' O' s') (D : DenD H' as' d v)
noncomputable def AfterF (C : Cx) (A : Around) (env : Env) (H' : PHeap) (as' : List Addr) (Ψ : Out → Prop) (f : Flow) (s' : Shared) : Prop :=
  match f with
    | .next => AfterN C A env H' as' (fun ρ' O' => Ψ (.next ρ' O')) s'
    | .brk => AfterN C A env H' as' (fun ρ' O' => Ψ (.brk ρ' O')) s'
    | .cont => AfterN C A env H' as' (fun ρ' O' => Ψ (.cont ρ' O')) s'
    | .ret v => AfterR C A H' as' (fun d O' => Ψ (.ret d O')) v s'
inductive AfterS (C : Cx) (A : Around) (env : Env) (H : PHeap) (as : List Addr) (s : Shared) (Ψ : Out → Prop) (f : Flow) (s' : Shared) : Prop
  | intro (H' : PHeap) (as' : List Addr) (R : Rel (slots env) H as s H' as' s') (h : AfterF C A env H' as' Ψ f s')
theorem AfterS.out {C env H as s Ψ f s'} {A : Around} {P : Prop} (h : AfterS C A env H as s Ψ f s') (k : ∀ H' as', Rel (slots env) H as s H' as' s' → AfterF C A env H' as' Ψ f s' → P) : P :=
  h.casesOn k
theorem AfterS.from {C env H as s H' as' s' Ψ f s''} (r : Rel (slots env) H as s H' as' s') (h : AfterS C A env H' as' s' Ψ f s'') : AfterS C A env H as s Ψ f s'' :=
  h.casesOn fun H2 as2 h1 h2 => ⟨H2, as2, r.trans h1, h2⟩

structure EnvS (sc : Kinds) (A : Around) (env : Env) : Prop extends EnvOk sc env where
  top : ∃ l, A.frames = some (env :: l)

noncomputable def WPs (C : Cx) (n : Nat) (sc : Kinds) (ρ : Vars) (O : List Ob) (ss : List Stmt) (Ψ : Out → Prop) : Prop :=
  ∀ A env H as s E, Room n A → EnvS sc A env → Mem C A H as O s → Loc H as env ρ s → wpC (model C.prog C.w) A (execs ss env) (AfterS C A env H as s Ψ) E s
theorem WPs.run {C n sc ρ O ss Ψ} {A env H as s E} (h : WPs C n sc ρ O ss Ψ) (rm : Room n A) (eo : EnvS sc A env) (M : Mem C A H as O s) (l : Loc H as env ρ s) : wpC (model C.prog C.w) A (execs ss env) (AfterS C A env H as s Ψ) E s := h A env H as s E rm eo M l
noncomputable abbrev SeqK (C : Cx) (n : Nat) (sc : Kinds) (ss : List Stmt) (Ψ : Out → Prop) : Out → Prop := fun o => match o with
  | .next ρ' O' => WPs C n sc ρ' O' ss Ψ
  | o => Ψ o
noncomputable def WPx (C : Cx) (n : Nat) (sc : Kinds) (ρ : Vars) (O : List Ob) (st : Stmt) (Ψ : Out → Prop) : Prop :=
  ∀ A env H as s E, Room n A → EnvS sc A env → Mem C A H as O s → Loc H as env ρ s → wpC (model C.prog C.w) A (exec st env) (AfterS C A env H as s Ψ) E s

section
variable {C : Cx} {n : Nat} {sc : Kinds} {ρ : Vars} {O : List Ob} {Ψ : Out → Prop}

theorem Rel.up {env H as s H' as' s'} (r : Rel [] H as s H' as' s') : Rel (slots env) H as s H' as' s' := r.weaken (by simp)

theorem WPs.mono {ss Ψ'} (h : WPs C n sc ρ O ss Ψ) (hi : ∀ o, Ψ o → Ψ' o) : WPs C n sc ρ O ss Ψ' := fun A env H as s E r eo M l =>
  wpC_mono (h A env H as s E r eo M l) (fun f s' qq => qq.out fun H' as' R h1 => ⟨H', as', R, by
    cases f with
    | next => obtain ⟨ρ', O', h2, h3, h4⟩ := h1; exact ⟨ρ', O', hi _ h2, h3, h4⟩
    | brk => obtain ⟨ρ', O', h2, h3, h4⟩ := h1; exact ⟨ρ', O', hi _ h2, h3, h4⟩
    | cont => obtain ⟨ρ', O', h2, h3, h4⟩ := h1; exact ⟨ρ', O', hi _ h2, h3, h4⟩
    | ret v => obtain ⟨ρ', O', h2, h3, h4⟩ := h1; exact ⟨ρ', O', hi _ h2, h3, h4⟩⟩) fun _ _ x => x

noncomputable def Sub (ρ' ρ : Vars) : Prop := ∀ x d, ρ'.lookup x = some d → ρ.lookup x = some d
theorem Loc.sub {H as env ρ ρ' s} (l : Loc H as env ρ s) (h : Sub ρ' ρ) : Loc H as env ρ' s :=
  ⟨l.off, l.apart, l.apartL, let ⟨m, a, b⟩ := l.ns; ⟨m, a, fun x d hx => b x d (h x d hx)⟩, l.cell, fun x d hx => l.cells x d (h x d hx)⟩
theorem WPs.sub {ss ρ'} (h : WPs C n sc ρ' O ss Ψ) (hs : Sub ρ' ρ) : WPs C n sc ρ O ss Ψ := fun A env H as s E r eo M l => h A env H as s E r eo M (l.sub hs)
theorem WPs_nil (h : Ψ (.next ρ O)) : WPs C n sc ρ O [] Ψ := fun A env H as s E r eo M l =>
  .of (wpAny_execs_nil ⟨H, as, Rel.refl, ρ, O, h, M, l⟩)

theorem WPs_cons {st ss} (h : WPx C n sc ρ O st (SeqK C n sc ss Ψ)) : WPs C n sc ρ O (st :: ss) Ψ := fun A env H as s E r eo M l => by
  refine wpC_execs_cons (wpC_mono (h A env H as s E r eo M l) (fun f s' qq => qq.out fun H' as' R h1 => ?_) fun _ _ x => x)
  cases f with
  | next =>
    obtain ⟨ρ', O', h2, M', L'⟩ := h1
    exact wpC_mono (h2 A env H' as' s' E r eo M' L') (fun f s'' h' => h'.from R) fun _ _ x => x
  | brk => exact ⟨H', as', R, h1⟩
  | cont => exact ⟨H', as', R, h1⟩
  | ret v => exact ⟨H', as', R, h1⟩

theorem WPx_If {test body orelse pos} (h : WPb C n sc ρ O test fun b O' => if b then WPs C n sc ρ O' body Ψ else WPs C n sc ρ O' orelse Ψ) : WPx C n sc ρ O (.If test body orelse pos) Ψ := fun A env H as s E r eo M l => by
  refine wpC_If (wpC_mono (h A env H as s E r eo.toEnvOk M l) (fun b s₁ qq => qq.out fun O₁ H₁ as₁ h₁ M₁ R₁ => ?_) fun _ _ x => x)
  cases b with
  | true => simp only [if_true] at h₁ ⊢; exact wpC_mono (h₁ A env H₁ as₁ s₁ E r eo M₁ (l.rel R₁)) (fun f s'' h' => h'.from R₁.up) fun _ _ x => x
  | false => simp only [Bool.false_eq_true, if_false] at h₁ ⊢; exact wpC_mono (h₁ A env H₁ as₁ s₁ E r eo M₁ (l.rel R₁)) (fun f s'' h' => h'.from R₁.up) fun _ _ x => x

theorem WPx_Return {e pos} (h : WPe C n sc ρ O e fun d O' => Ψ (.ret d O')) : WPx C n sc ρ O (.Return (some e) pos) Ψ := fun A env H as s E r eo M l =>
  wpC_Return_some (wpC_mono (h A env H as s E r eo.toEnvOk M l) (fun v s' qq => qq.out fun d O' H' as' h1 M' D' R' => ⟨H', as', R'.up, d, O', h1, M', D'⟩) fun _ _ x => x)

theorem lookup_cons_ne {x y : Str} {d : D} {ρ : Vars} (h : x ≠ y) : List.lookup x ((y, d) :: ρ) = ρ.lookup x := by
  rw [List.lookup_cons]
  cases hb : x == y with
  | true => exact absurd (beq_iff_eq.mp hb) h
  | false => rfl

noncomputable def SlotIn (env : Env) (x : Str) (X : List Addr) : Prop := (env.kindOf x = some .local → env.locals ∈ X) ∧ ∀ c, env.kindOf x = some .cell → env.cells.lookup x = some c → c ∈ X
theorem SlotIn.all {env : Env} {x : Str} : SlotIn env x (slots env) :=
  ⟨fun _ => List.mem_cons_self .., fun c _ hc => List.mem_cons_of_mem _ (List.mem_map_of_mem (f := (·.2)) (mem_of_lookup hc))⟩
theorem store_ {A env H as s E x d v} {Q : Unit → Shared → Prop} (eo : EnvOk sc env) (M : Mem C A H as O s) (l : Loc H as env ρ s) (hv : DenD H as d v) (hk : sc.lookup x = some .local ∨ sc.lookup x = some .cell)
    (h : ∀ s', Mem C A H as O s' → Loc H as env ((x, d) :: ρ) s' → (∀ X, SlotIn env x X → Rel X H as s H as s') → Q () s') :
    wpAny (model C.prog C.w) A (storeName env x v) Q E s := by
  have hHne : ∀ a, a ∈ slots env → ∀ b o, H b = some o → b ≠ a := fun a ha b o e q => by subst q; rw [(l.off b ha).2.1] at e; cases e
  have hane : ∀ a, a ∈ slots env → ∀ b, b ∈ as → b ≠ a := fun a ha b hb q => by subst q; exact (l.off b ha).1 hb
  -- whichever slot is written, all else stands
  have gen : ∀ (a : Addr) (h' : Heap) (tk : Nat), a ∈ slots env → Live h' a → (∀ o es n, s.heap.get? a = some o → o.data = .dict es n → ∃ o' es' n', h'.get? a = some o' ∧ o'.data = .dict es' n') → Heap.SameBut a s.heap h' → Mem C A H as O { s with heap := h', toks := tk } ∧ ∀ X, a ∈ X → Rel X H as s H as { s with heap := h', toks := tk } := fun a h' tk ha hl hdict hs => by
    have keep : ∀ b o, b ≠ a → s.heap.get? b = some o → h'.get? b = some o := fun b o hb e => (hs.2 b hb).trans e
    have hal : ∀ b, Live s.heap b → Live h' b := fun b ⟨o, e⟩ => by
      by_cases q : b = a
      · rw [q]; exact hl
      · exact ⟨o, keep b o q e⟩
    refine ⟨⟨M.base, fun b o e => keep b o (hHne a ha b o e) (M.sat _ _ e), M.len, M.nodup, fun i b ob hb ho => ?_, fun b hb => hal b (M.live b hb), M.os, M.gens, M.stk.turn' (fun L h _ => h) (fun L _ h _ => h) fun L o es n _ e he => by
        by_cases q : L = a
        · subst q; exact hdict o es n e he
        · exact ⟨o, es, n, keep L o q e, he⟩⟩,
      fun X haX => ⟨fun _ _ e => e, fun _ _ e => .inl e, fun b o e hX _ => .inl (keep b o (fun q => hX (q ▸ haX)) e), hal, [], by simp, by simp⟩⟩
    have h := M.obs i b ob hb ho
    have hne := hane a ha b (List.mem_of_getElem? hb)
    cases ob with
    | gone => trivial
    | list ts => obtain ⟨h0, vs, k, h1, h2⟩ := h; exact ⟨h0, vs, k, keep _ _ hne h1, h2⟩
    | dict ks ts => obtain ⟨h0, es, k, h1, h2⟩ := h; exact ⟨h0, es, k, keep _ _ hne h1, h2⟩
  have off : ∀ (a : Addr) (h' : Heap), Live h' a → Heap.SameBut a s.heap h' → ∀ b ∈ slots env, b ∉ as ∧ H b = none ∧ Live h' b := fun a h' hl hs b hb => by
    obtain ⟨h1, h2, o, e⟩ := l.off b hb
    refine ⟨h1, h2, ?_⟩
    by_cases q : b = a
    · rw [q]; exact hl
    · exact ⟨o, (hs.2 b q).trans e⟩
  rcases hk with hk | hk
  · have hk' : env.kindOf x = some .local := by unfold Env.kindOf; rw [eo.names]; exact hk
    obtain ⟨m, hn, hm⟩ := l.ns
    refine wpAny_storeName_local hk' hn (fun h' hn' hs => ?_) (by rw [eo.kind]; rfl)
    have hl : Live h' env.locals := let ⟨o, _, _, e, _⟩ := hn'; ⟨o, e⟩
    obtain ⟨M', R'⟩ := gen env.locals h' (s.toks + 1) (List.mem_cons_self ..) hl (fun _ _ _ _ _ => let ⟨o, es, n, e, d, _⟩ := hn'; ⟨o, es, n, e, d⟩) hs
    refine h _ M' ⟨off _ h' hl hs, l.apart, l.apartL, ⟨_, hn', fun y d' hy hky => ?_⟩, fun k c hkc => ?_, fun y d' hy hky => ?_⟩ fun X hX => R' X (hX.1 hk')
    · by_cases q : y = x
      · subst q
        rw [List.lookup_cons, beq_self_eq_true] at hy
        cases hy
        exact ⟨v, hv, by simp⟩
      · rw [lookup_cons_ne q] at hy
        obtain ⟨v', hv', e⟩ := hm y d' hy hky
        exact ⟨v', hv', by rw [if_neg q]; exact e⟩
    · obtain ⟨v', ic⟩ := l.cell k c hkc
      exact ⟨v', ic.sameBut hs (l.apartL k c hkc)⟩
    · have q : y ≠ x := by rintro rfl; rw [hk'] at hky; cases hky
      rw [lookup_cons_ne q] at hy
      obtain ⟨v', c, hv', e, ic⟩ := l.cells y d' hy hky
      exact ⟨v', c, hv', e, ic.sameBut hs (l.apartL y c (mem_of_lookup e))⟩
  · obtain ⟨c, hc⟩ := eo.cellsOk x hk
    have hk' : env.kindOf x = some .cell := by unfold Env.kindOf; rw [eo.names]; exact hk
    have hcm := mem_of_lookup hc
    obtain ⟨v₀, ic₀⟩ := l.cell x c hcm
    refine wpAny_storeName_cell eo.kind hk' hc ic₀ fun h' ic' hs => ?_
    have hl : Live h' c := let ⟨o, e, _⟩ := ic'; ⟨o, e⟩
    obtain ⟨M', R'⟩ := gen c h' s.toks (List.mem_cons_of_mem _ (List.mem_map_of_mem (f := (·.2)) hcm)) hl (fun o es n e he => by
      obtain ⟨o', e', hd⟩ := ic₀
      rw [e] at e'; cases e'; rw [he] at hd; cases hd) hs
    refine h _ M' ⟨off _ h' hl hs, l.apart, l.apartL, ?_, fun k c' hkc => ?_, fun y d' hy hky => ?_⟩ fun X hX => R' X (hX.2 c hk' hc)
    · obtain ⟨m, hn, hm⟩ := l.ns
      refine ⟨m, hn.sameBut hs (Ne.symm (l.apartL x c hcm)), fun y d' hy hky => ?_⟩
      have q : y ≠ x := by rintro rfl; rw [hk'] at hky; cases hky
      rw [lookup_cons_ne q] at hy
      exact hm y d' hy hky
    · by_cases q : c' = c
      · subst q; exact ⟨_, ic'⟩
      · obtain ⟨v', ic⟩ := l.cell k c' hkc
        exact ⟨v', ic.sameBut hs q⟩
    · by_cases q : y = x
      · subst q
        rw [List.lookup_cons, beq_self_eq_true] at hy
        cases hy
        exact ⟨v, c, hv, hc, ic'⟩
      · rw [lookup_cons_ne q] at hy
        obtain ⟨v', c', hv', e, ic⟩ := l.cells y d' hy hky
        refine ⟨v', c', hv', e, ic.sameBut hs fun hcc => q ?_⟩
        subst hcc
        exact name_of_addr l.apart (mem_of_lookup e) hcm
end

end Mine
end

section
set_option Elab.async false
set_option maxRecDepth 100000
set_option linter.unusedVariables false
namespace Mine
open PySem PySem.W PyProof.Rows PySem.Calls

noncomputable def Apart (A : Around) (a : Addr) : Prop := ∀ l, A.frames = some l → ∀ env ∈ l, ∀ L, env.frame = some L → L ≠ a
theorem Mem.apart_new {C A H as O s} (M : Mem C A H as O s) {a : Addr} (h : s.heap.get? a = none) : Apart A a := fun l hl env he L hL q => by
  obtain ⟨l', e, f⟩ := M.stk
  rw [hl] at e; cases e
  obtain ⟨_, L', h1, _, _, o, _, _, h4, _⟩ := f env he
  rw [hL] at h1; cases h1
  subst q; rw [h] at h4; cases h4
theorem Mem.apart_nd {C A H as O s} (M : Mem C A H as O s) {a : Addr} (hd : ∀ o es n, s.heap.get? a = some o → o.data ≠ .dict es n) : Apart A a := fun l hl env he L hL q => by
  obtain ⟨l', e, f⟩ := M.stk
  rw [hl] at e; cases e
  obtain ⟨_, L', h1, _, _, o, es, n, h4, h5⟩ := f env he
  rw [hL] at h1; cases h1
  subst q; exact hd o es n h4 h5
theorem Mem.touchA {C A H as O s} (M : Mem C A H as O s) {a : Addr} {h' : Heap} {tk : Nat} (hH : H a = none) (ha : a ∉ as) (hs : Heap.ExtBut a s.heap h')
    (hap : Apart A a) : Mem C A H as O { s with heap := h', toks := tk } := by
  have hHne : ∀ b o, H b = some o → b ≠ a := fun b o e q => by subst q; rw [hH] at e; cases e
  have hane : ∀ b ∈ as, b ≠ a := fun b hb q => ha (q ▸ hb)
  refine ⟨M.base, fun b o e => hs b o (hHne b o e) (M.sat _ _ e), M.len, M.nodup, fun i b ob hb ho => ?_, fun b hb => let ⟨o, e⟩ := M.live b hb; ⟨o, hs b o (hane b hb) e⟩, M.os, M.gens, ?_⟩
  · have h := M.obs i b ob hb ho
    have hne : b ≠ a := hane b (List.mem_of_getElem? hb)
    cases ob with
    | gone => trivial
    | list ts => obtain ⟨h0, vs, k, h1, h2⟩ := h; exact ⟨h0, vs, k, hs _ _ hne h1, h2⟩
    | dict ks ts => obtain ⟨h0, es, k, h1, h2⟩ := h; exact ⟨h0, es, k, hs _ _ hne h1, h2⟩
  · obtain ⟨l, e, f⟩ := M.stk
    refine ⟨l, e, fun env he => ?_⟩
    obtain ⟨k, L, h1, h2, h3, o, es, n, h4, h5⟩ := f env he
    exact ⟨k, L, h1, h2, h3, o, es, n, hs L o (hap l e env he L h1) h4, h5⟩
theorem Mem.touch {C A H as O s} (M : Mem C A H as O s) {a : Addr} {h' : Heap} {tk : Nat} (hH : H a = none) (ha : a ∉ as) (hs : Heap.ExtBut a s.heap h')
    (hd : ∀ o es n, s.heap.get? a = some o → o.data ≠ .dict es n) : Mem C A H as O { s with heap := h', toks := tk } := M.touchA hH ha hs (M.apart_nd hd)
theorem Loc.touch {H as env ρ s} (l : Loc H as env ρ s) {a : Addr} {h' : Heap} {tk : Nat} (ha : a ∉ slots env) (hs : Heap.ExtBut a s.heap h') :
    Loc H as env ρ { s with heap := h', toks := tk } := by
  have keep : ∀ b ∈ slots env, ∀ o, s.heap.get? b = some o → h'.get? b = some o := fun b hb o e => hs b o (fun q => ha (q ▸ hb)) e
  have hc : ∀ n c, (n, c) ∈ env.cells → c ∈ slots env := fun n c h => List.mem_cons_of_mem _ (List.mem_map_of_mem (f := (·.2)) h)
  refine ⟨fun b hb => let ⟨h1, h2, o, e⟩ := l.off b hb; ⟨h1, h2, o, keep b hb o e⟩, l.apart, l.apartL, ?_, fun n c h => ?_, fun x d hx hk => ?_⟩
  · obtain ⟨m, ⟨o, es, ep, ho, r1⟩, hm⟩ := l.ns
    exact ⟨m, ⟨o, es, ep, keep _ (List.mem_cons_self ..) _ ho, r1⟩, hm⟩
  · obtain ⟨v, o, ho, hd⟩ := l.cell n c h
    exact ⟨v, o, keep _ (hc n c h) _ ho, hd⟩
  · obtain ⟨v, c, hv, e, o, ho, hd⟩ := l.cells x d hx hk
    exact ⟨v, c, hv, e, o, keep _ (hc x c (mem_of_lookup e)) _ ho, hd⟩
theorem Rel.touch {X H as s H' as' s'} (r : Rel X H as s H' as' s') {a : Addr} {h' : Heap} {tk : Nat} (ha : s.heap.get? a = none) (hs : Heap.ExtBut a s'.heap h') :
    Rel X H as s H' as' { s' with heap := h', toks := tk } :=
  ⟨r.mono, r.fresh, fun b o e hX hb => (r.keep b o e hX hb).trans fun o' e' => .inl (hs b o' (fun q => by rw [q, ha] at e; cases e) e'),
    fun b l => let ⟨o, e⟩ := r.alive b l; ⟨o, hs b o (fun q => by rw [q] at l; exact l.not_none ha) e⟩, r.ext⟩

noncomputable def rangeT : Int → Int → Nat → List T
  | _, _, 0 => []
  | x, c, n + 1 => .int x :: rangeT (x + c) c n

inductive ItAt (H : PHeap) (as : List Addr) (O : List Ob) (h : Heap) : Addr → List T → Prop
  | list {I l : Addr} {i : Nat} {vs : Array Value} {n : Nat} {ts : List T} : h.IsListIter I l i → H l = some (listO vs n) → DenL H ts vs.toList → ItAt H as O h I (ts.drop i)
  | own {I l : Addr} {i j : Nat} {ts : List T} : h.IsListIter I l i → as[j]? = some l → O[j]? = some (Ob.list ts) → ItAt H as O h I (ts.drop i)
  | range {I : Addr} {x : Int} {left : Nat} {step : Int} : IsRangeIter h I x left step → ItAt H as O h I (rangeT x step left)

section
variable {C : Cx} {n : Nat} {A : Around} {E : Value → Shared → Prop} {H : PHeap} {as : List Addr} {O : List Ob} {s : Shared}

theorem ItAt.keep {I ts h} (x : ItAt H as O s.heap I ts) (hk : ∀ o, s.heap.get? I = some o → h.get? I = some o) : ItAt H as O h I ts := by
  cases x with
  | list a b c => obtain ⟨o, ho, r⟩ := a; exact .list ⟨o, hk o ho, r⟩ b c
  | own a b c => obtain ⟨o, ho, r⟩ := a; exact .own ⟨o, hk o ho, r⟩ b c
  | range a => exact .range (hk _ a)
theorem ItAt.nd {I ts h} (x : ItAt H as O h I ts) : ∀ o es n, h.get? I = some o → o.data ≠ .dict es n := by
  cases x with
  | list a b c => obtain ⟨o, ho, _, hd⟩ := a; intro o' es n e q; rw [ho] at e; cases e; rw [hd] at q; cases q
  | own a b c => obtain ⟨o, ho, _, hd⟩ := a; intro o' es n e q; rw [ho] at e; cases e; rw [hd] at q; cases q
  | range a => intro o' es n e q; have a' := (show h.get? I = _ from a); rw [a'] at e; cases e; cases q
theorem ItAt.rel {X I ts H' as' s'} (x : ItAt H as O s.heap I ts) (r : Rel X H as s H' as' s') (hI : I ∉ as) (hX : I ∉ X) : ItAt H' as' O s'.heap I ts := by
  have hk : ∀ o, s.heap.get? I = some o → s'.heap.get? I = some o := fun o e => (r.keep _ _ e hX hI).exact fun es n => x.nd o es n e
  cases x with
  | list a b c => obtain ⟨o, ho, q⟩ := a; exact .list ⟨o, hk o ho, q⟩ (r.mono _ _ b) (DenL.mono r.mono _ _ c)
  | own a b c => obtain ⟨o, ho, q⟩ := a; exact .own ⟨o, hk o ho, q⟩ (r.get_as b) c
  | range a => exact .range (hk _ a)
theorem ItAt.relF {X I ts H' as' s'} (x : ItAt H [] [] s.heap I ts) (r : Rel X H as s H' as' s') (hI : I ∉ as) (hX : I ∉ X) : ItAt H' [] [] s'.heap I ts := by
  have hk : ∀ o, s.heap.get? I = some o → s'.heap.get? I = some o := fun o e => (r.keep _ _ e hX hI).exact fun es n => x.nd o es n e
  cases x with
  | list a b c => obtain ⟨o, ho, q⟩ := a; exact .list ⟨o, hk o ho, q⟩ (r.mono _ _ b) (DenL.mono r.mono _ _ c)
  | own a b c => simp at b
  | range a => exact .range (hk _ a)

theorem drop_cons {α : Type} {ts : List α} {i : Nat} {t : α} {r : List α} (h : ts.drop i = t :: r) : ts[i]? = some t ∧ ts.drop (i + 1) = r := by
  have h1 : (ts.drop i)[0]? = some t := by rw [h]; rfl
  rw [List.getElem?_drop] at h1
  refine ⟨by simpa using h1, ?_⟩
  rw [← List.drop_drop, h]; rfl
theorem drop_nil {α : Type} {ts : List α} {i : Nat} (h : ts.drop i = []) : ts[i]? = none := by
  have := List.drop_eq_nil_iff.mp h
  exact List.getElem?_eq_none this
theorem DenL.getNone {H : PHeap} {ts : List T} {vs : List Value} (h : DenL H ts vs) {i : Nat} (e : ts[i]? = none) : vs[i]? = none := by
  rw [List.getElem?_eq_none_iff] at e ⊢
  rw [h.length]; exact e

theorem ItAt.next {I t ts} (rm : Room n A) (M : Mem C A H as O s) (hI : I ∉ as) (hH : H I = none) (x : ItAt H as O s.heap I (t :: ts)) {Q : Option Value → Shared → Prop}
    (h : ∀ v h' tk, Den H t v → ItAt H as O h' I ts → Heap.SameBut I s.heap h' → Q (some v) { s with heap := h', toks := tk }) : wpAny (model C.prog C.w) A (pyNext (.ref I)) Q E s := by
  generalize he : t :: ts = all at x
  cases x with
  | @list l i vs k ts' a b c =>
    obtain ⟨e1, e2⟩ := drop_cons he.symm
    obtain ⟨v, hv, d⟩ := c.get e1
    refine wpAny_pyNext_list_item a ⟨_, M.sat _ _ b, rfl, k, rfl⟩ (x := v) (by simpa using hv) fun h' hit hs => ?_
    exact h v h' s.toks d (e2 ▸ .list hit b c) hs
  | @own l i j ts' a b c =>
    obtain ⟨e1, e2⟩ := drop_cons he.symm
    obtain ⟨_, vs, k, g, dl⟩ := M.obs j l _ b c
    obtain ⟨v, hv, d⟩ := dl.get e1
    refine wpAny_pyNext_list_item a ⟨_, g, rfl, k, rfl⟩ (x := v) (by simpa using hv) fun h' hit hs => ?_
    exact h v h' s.toks d (e2 ▸ .own hit b c) hs
  | @range x left step a =>
    cases left with
    | zero => cases he
    | succ m =>
      unfold rangeT at he
      cases he
      refine wpAny_pyNext_range_item a (by (first | exact Int.ofNat_succ_pos _ | omega)) fun h' hit hs => ?_
      refine h (.int x s.toks) h' _ (by unfold Den; exact ⟨_, rfl⟩) (.range ?_) hs
      have e : ((m + 1 : Nat) : Int) - 1 = (m : Int) := by (first | exact Int.sub_eq_iff_eq_add.mpr rfl | lia)
      rw [e] at hit
      exact hit
theorem ItAt.end {I} (rm : Room n A) (h0n : 0 < n) (M : Mem C A H as O s) (x : ItAt H as O s.heap I []) {Q : Option Value → Shared → Prop}
    (h : ∀ h', Heap.ExtBut I s.heap h' → Q none { s with heap := h' }) : wpAny (model C.prog C.w) A (pyNext (.ref I)) Q E s := by
  generalize he : ([] : List T) = all at x
  cases x with
  | @list l i vs k ts' a b c =>
    refine wpAny_pyNext_list_end (rm.handled h0n) a ⟨_, M.sat _ _ b, rfl, k, rfl⟩ (by simpa using c.getNone (drop_nil he.symm)) h
  | @own l i j ts' a b c =>
    obtain ⟨_, vs, k, g, dl⟩ := M.obs j l _ b c
    refine wpAny_pyNext_list_end (rm.handled h0n) a ⟨_, g, rfl, k, rfl⟩ (by simpa using dl.getNone (drop_nil he.symm)) h
  | @range x left step a =>
    cases left with
    | zero => exact wpAny_pyNext_range_end (rm.handled h0n) a (by simp) h
    | succ m => unfold rangeT at he; cases he
end

inductive BindR : Expr → T → Vars → Vars → Prop
  | name {x p t ρ} : BindR (.Name x p) t ρ ((x, .val t) :: ρ)
  | pair {a pa b pb k p t1 t2 ρ} : BindR (.Tuple [.Name a pa, .Name b pb] k p) (.list [t1, t2]) ρ ((b, .val t2) :: (a, .val t1) :: ρ)
inductive BindP (tgt : Expr) (t : T) (ρ : Vars) (P : Vars → Prop) : Prop
  | intro (ρ₁ : Vars) (b : BindR tgt t ρ ρ₁) (h : P ρ₁)
noncomputable def nameOk (sc : Kinds) (x : Str) : Prop := sc.lookup x = some .local ∨ sc.lookup x = some .cell
inductive tgtOk (sc : Kinds) : Expr → Prop
  | name {x p} (h : nameOk sc x) : tgtOk sc (.Name x p)
  | pair {a pa b pb k p} (h1 : nameOk sc a) (h2 : nameOk sc b) : tgtOk sc (.Tuple [.Name a pa, .Name b pb] k p)

section
variable {prog : Program} {w : World} {A : Around} {E : Value → Shared → Prop} {s : Shared}
theorem wpAny_draw_list {it t : Addr} {items : Array Value} (hne : t ≠ it) : ∀ (n i : Nat) (s : Shared) (Q : List Value → Shared → Prop), s.heap.IsListIter it t i → s.heap.IsList t items → i + n ≤ items.size →
    (∀ h', h'.IsListIter it t (i + n) → Heap.SameBut it s.heap h' → Q ((items.toList.drop i).take n) { s with heap := h' }) → wpAny (model prog w) A (draw (.ref it) n) Q E s
  | 0, i, s, Q, hit, _, _, hQ => by
    show wpAny _ _ (pure []) Q E s
    exact wpAny_pure (by simpa using hQ s.heap hit (Heap.SameBut.refl ..))
  | n + 1, i, s, Q, hit, ht, hle, hQ => by
    have hlt : i < items.size := by (first | exact Nat.lt_of_add_right_lt hle | lia)
    show wpAny _ _ (pyNext (.ref it) >>= _) Q E s
    refine wpAny_bind (wpAny_pyNext_list_item hit ht (x := items[i]) (by simp [hlt]) fun h₁ hit₁ hs₁ => ?_)
    refine wpAny_bind (wpAny_holding (wpAny_draw_list hne n (i + 1) _ _ hit₁ (ht.extBut hs₁.extBut hne) (by (first | exact z18 hle | lia)) fun h₂ hit₂ hs₂ => wpAny_pure ?_))
    have hd : items.toList.drop i = items[i] :: items.toList.drop (i + 1) := by simp [List.drop_eq_getElem_cons, hlt]
    have := hQ h₂ (by rw [show i + (n + 1) = i + 1 + n by (first | exact zAs.symm | lia)]; exact hit₂) (hs₁.trans hs₂)
    rw [hd, List.take_succ_cons] at this
    exact this
theorem wpAny_unpackItems_list {t : Addr} {items : Array Value} {Q : List Value → Shared → Prop} (hh : A.handled = none) (ht : s.heap.IsList t items)
    (hQ : ∀ h', Heap.ExtBut s.heap.objs.size s.heap h' → Q items.toList { s with heap := h' }) : wpAny (model prog w) A (unpackItems (.ref t) items.size none) Q E s := by
  have hlt : t ≠ s.heap.objs.size := by obtain ⟨o, ho, _⟩ := ht; exact Nat.ne_of_lt (Heap.lt_size ho)
  unfold unpackItems
  refine wpAny_bind ?_
  · unfold notIterableAtAll
    refine wpAny_bind (wpAny_specialOf ht.typeIs slot_list_iter.lookup ?_)
    refine wpAny_pure ?_
    simp only [Bool.false_eq_true, if_false]
    refine wpAny_bind (wpAny_holding (wpAny_pyIter_list ht ?_))
    refine wpAny_bind (wpAny_holding (wpAny_draw_list hlt items.size 0 _ _ ⟨_, Heap.get?_push_size _ rfl, rfl, rfl⟩ (ht.push _) (by (first | exact Nat.le_of_eq (Nat.zero_add _) | lia)) fun h₁ hit₁ hs₁ => ?_))
    have hall : List.take items.size (List.drop 0 items.toList) = items.toList := by
      rw [List.drop_zero]; exact List.take_of_length_le (by simp)
    rw [hall]
    rw [if_neg (by simp)]
    have ht₁ : h₁.IsList t items := (ht.push _).extBut hs₁.extBut hlt
    refine wpAny_bind (wpAny_holding (wpAny_pyNext_list_end hh hit₁ ht₁ (by simp) fun h₂ he₂ => ?_))
    simp only [Option.isSome_none, Bool.false_eq_true, if_false]
    refine wpAny_pure (hQ h₂ fun b o hb e => he₂ b o hb (hs₁.extBut b o hb (Heap.get?_push_of_some _ e)))
theorem wpAny_unpack_list {t : Addr} {items : Array Value} {targets : List (Bool × (Value → Sem Unit))} {Q : Unit → Shared → Prop} (hh : A.handled = none) (ht : s.heap.IsList t items)
    (hn : targets.length = items.size) (hstar : targets.findIdx? (·.1) = none)
    (h : ∀ h', Heap.ExtBut s.heap.objs.size s.heap h' → wpAny (model prog w) A (assignInOrder (targets.map (·.2)) items.toList) Q E { s with heap := h' }) :
    wpAny (model prog w) A (unpack (.ref t) targets) Q E s := by
  unfold unpack
  rw [hn, hstar]
  exact wpAny_bind (wpAny_holding (wpAny_unpackItems_list hh ht h))
theorem wpAny_assign_TupleL {env : Env} {elts : List Expr} {x1} {pos : Pos} {t : Addr} {items : Array Value} {Q : Unit → Shared → Prop} (hh : A.handled = none) (ht : s.heap.IsList t items)
    (hn : (assignEach elts env).length = items.size) (hstar : (assignEach elts env).findIdx? (·.1) = none)
    (h : ∀ h', Heap.ExtBut s.heap.objs.size s.heap h' → wpAny (model prog w) A (assignInOrder ((assignEach elts env).map (·.2)) items.toList) Q E { s with heap := h' }) :
    wpAny (model prog w) A (assign (.Tuple elts x1 pos) env (.ref t)) Q E s := by
  rw [arm_assign_Tuple]
  exact wpAny_bind (wpAny_standAt (wpAny_unpack_list hh ht hn hstar h))
end

theorem Loc.ext {H as env ρ s} (l : Loc H as env ρ s) {h' : Heap} {tk : Nat} (hs : ∀ b o, s.heap.get? b = some o → h'.get? b = some o) : Loc H as env ρ { s with heap := h', toks := tk } :=
  l.rel (s' := { s with heap := h', toks := tk }) (Rel.grow (fun _ _ h => h) (fun _ _ h => .inl h) hs)
theorem Mem.ext {C A H as O s} (M : Mem C A H as O s) {h' : Heap} {tk : Nat} (hs : ∀ b o, s.heap.get? b = some o → h'.get? b = some o) : Mem C A H as O { s with heap := h', toks := tk } :=
  (M.same (s' := { s with heap := h', toks := tk }) hs rfl rfl).1
theorem extBut_ext {s : Shared} {h' : Heap} (hs : Heap.ExtBut s.heap.objs.size s.heap h') : ∀ b o, s.heap.get? b = some o → h'.get? b = some o :=
  fun b o e => hs b o (Nat.ne_of_lt (Heap.lt_size e)) e

inductive TgtIn (env : Env) (X : List Addr) : Expr → Prop
  | name {x p} (h : SlotIn env x X) : TgtIn env X (.Name x p)
  | pair {a pa b pb k p} (h1 : SlotIn env a X) (h2 : SlotIn env b X) : TgtIn env X (.Tuple [.Name a pa, .Name b pb] k p)
theorem TgtIn.of_pair {env X a pa b pb k p} (h : TgtIn env X (.Tuple [.Name a pa, .Name b pb] k p)) : SlotIn env a X ∧ SlotIn env b X := by
  cases h with | pair h1 h2 => exact ⟨h1, h2⟩
theorem TgtIn.all {env : Env} {sc : Kinds} {tgt : Expr} (h : tgtOk sc tgt) : TgtIn env (slots env) tgt := by
  cases h with
  | name h => exact .name SlotIn.all
  | pair h1 h2 => exact .pair SlotIn.all SlotIn.all
theorem assign_ {C : Cx} {n A env H as O s E ρ ρ' sc} {tgt : Expr} {t : T} {v : Value} {Q : Unit → Shared → Prop} (rm : Room n A) (h0n : 0 < n) (eo : EnvOk sc env) (M : Mem C A H as O s) (l : Loc H as env ρ s) (hv : Den H t v)
    (hk : tgtOk sc tgt) (hb : BindR tgt t ρ ρ') (h : ∀ s', Mem C A H as O s' → Loc H as env ρ' s' → (∀ X, TgtIn env X tgt → Rel X H as s H as s') → Q () s') :
    wpAny (model C.prog C.w) A (assign tgt env v) Q E s := by
  cases hb with
  | name =>
    cases hk with | name hk =>
    exact wpAny_assign_Name (store_ (d := .val t) eo M l hv hk fun s' M' L' R' => h s' M' L' fun X hX => R' X (by cases hX; assumption))
  | @pair a pa b pb k p t1 t2 =>
    cases hk with | pair hk1 hk2 =>
    unfold Den at hv
    obtain ⟨ad, vs, k', rfl, hH, dl⟩ := hv
    rw [DenL.cons_iff] at dl
    obtain ⟨v1, r1, e1, d1, dl⟩ := dl
    rw [DenL.cons_iff] at dl
    obtain ⟨v2, r2, e2, d2, dl⟩ := dl
    rw [DenL.nil_iff] at dl
    have hvs : vs.toList = [v1, v2] := by rw [e1, e2, dl]
    have hsz : vs.size = 2 := by rw [← Array.length_toList, hvs]; rfl
    refine wpAny_assign_TupleL (rm.handled h0n) (items := vs) ⟨_, M.sat _ _ hH, rfl, k', rfl⟩ (by rw [hsz]; rfl) (by rfl) fun h' hs => ?_
    rw [hvs]
    have M1 := M.ext (h' := h') (tk := s.toks) (extBut_ext hs)
    have L1 := l.ext (h' := h') (tk := s.toks) (extBut_ext hs)
    have R1 : ∀ X, Rel X H as s H as { s with heap := h', toks := s.toks } := fun X => Rel.grow (fun _ _ h => h) (fun _ _ h => .inl h) (extBut_ext hs)
    show wpAny _ _ (assignInOrder [assign (.Name a pa) env, assign (.Name b pb) env] [v1, v2]) _ _ _
    unfold assignInOrder
    refine wpAny_bind (wpAny_holding (wpAny_assign_Name (store_ (d := .val t1) eo M1 L1 d1 hk1 fun s2 M2 L2 R2 => ?_)))
    unfold assignInOrder
    refine wpAny_bind (wpAny_holding (wpAny_assign_Name (store_ (d := .val t2) eo M2 L2 d2 hk2 fun s3 M3 L3 R3 => ?_)))
    unfold assignInOrder
    exact wpAny_pure (h s3 M3 L3 fun X hX => by
      cases hX with
      | pair q1 q2 => exact ((R1 X).trans (R2 X q1)).trans (R3 X q2))

noncomputable def ForP (C : Cx) (n : Nat) (sc : Kinds) (tgt : Expr) (body : List Stmt) : List T → Vars → List Ob → (Out → Prop) → Prop
  | [], ρ, O, Ψ => Ψ (.next ρ O)
  | t :: ts, ρ, O, Ψ => BindP tgt t ρ fun ρ₁ => WPs C n sc ρ₁ O body fun o => match o with
    | .next ρ' O' => ForP C n sc tgt body ts ρ' O' Ψ
    | .cont ρ' O' => ForP C n sc tgt body ts ρ' O' Ψ
    | .brk ρ' O' => Ψ (.next ρ' O')
    | .ret d O' => Ψ (.ret d O')

section
variable {C : Cx} {n : Nat} {sc : Kinds}

theorem letOwned_it {C : Cx} {A E H as O s I ts} {target : Expr} {v : Value} {Q : Unit → Shared → Prop} (hk : tgtOk sc target) (x : ItAt H as O s.heap I ts) (h : Q () s) :
    wpAny (model C.prog C.w) A (letOwnedTupleGo target (.ref I) v) Q E s := by
  have key : ∀ o : Obj, s.heap.get? I = some o → (o.cls = .type "list_iterator" ∨ o.cls = .type "range_iterator") → wpAny (model C.prog C.w) A (letOwnedTupleGo target (.ref I) v) Q E s := by
    intro o ho hc
    cases hk with
    | name => exact wpAny_pure h
    | pair => cases v <;> first
      | exact wpAny_pure h
      | (refine wpAny_bind (wpAny_load ho ?_)
         obtain ⟨c, d, dt, sl⟩ := o
         dsimp only at hc ⊢
         rcases hc with rfl | rfl
         · cases dt <;> exact wpAny_pure h
         · cases dt <;> exact wpAny_pure h)
  cases x with
  | list a b c => obtain ⟨o, ho, hc, _⟩ := a; exact key o ho (.inl hc)
  | own a b c => obtain ⟨o, ho, hc, _⟩ := a; exact key o ho (.inl hc)
  | range a => exact key _ a (.inr rfl)
end

end Mine
end

section
set_option Elab.async false
set_option maxRecDepth 100000
set_option linter.unusedVariables false
namespace Mine
open PySem PySem.W PyProof.Rows PySem.Calls

theorem Rel.off {X H as s H' as' s'} (r : Rel X H as s H' as' s') {a : Addr} (l : Live s.heap a) (h1 : a ∉ as) (h2 : H a = none) : a ∉ as' ∧ H' a = none := by
  obtain ⟨more, rfl, hm⟩ := r.ext
  refine ⟨fun h => ?_, ?_⟩
  · rcases List.mem_append.mp h with h | h
    · exact h1 h
    · exact l.not_none (hm a h)
  · cases q : H' a with
    | none => rfl
    | some o =>
      rcases r.fresh a o q with h | h | h
      · rw [h2] at h; cases h
      · exact absurd h l.not_none
      · exact absurd h h1

section
variable {prog : Program} {w : World} {A : Around} {R : Result → Shared → Prop} {s : Shared}
theorem forLoop_ {target it body orelse env} (I : Nat → Shared → Prop)
    (turn : ∀ n s E, I n s → wpAny (model prog w) A (pyNext it) (fun r s₁ => match r with
      | none => wpC (model prog w) A (execs orelse env) (fun f s₃ => R (.ok f) s₃) E s₁
      | some v => wpAny (model prog w) A (letOwnedTupleGo target it v) (fun _ s₁ => wpAny (model prog w) A (assign target env v) (fun _ s₂ => wpC (model prog w) A (execs body env) (fun f s₃ => match f with
          | .next | .cont => ∃ m, m < n ∧ I m s₃
          | .brk => R (.ok .next) s₃
          | .ret v => R (.ok (.ret v)) s₃) E s₂) E s₁) E s₁) E s)
    (n : Nat) (h : I n s) : codeC (model prog w) A (.forLoop target it body orelse env) R s := by
  refine codeC_loop rfl I (fun n s hI => ?_) n h
  show wpC _ _ ((forTurn target it body orelse env).onRaise (fun x => do noteFrame x env; theTreesLotGoes x)) _ _ s
  refine wpC_noted ?_
  simp only [forTurn]
  refine wpC_bind (wpC_standAt (wpC_bind (wpC_onRaise (wpC_mono (.of (turn n s (notedBy (model prog w) A env fun e s' => R (.error e) s') hI)) (fun r s₁ h₁ => ?_) fun _ _ h' => wpC_standAt h'))))
  cases r with
  | none => exact wpC_pure (.inr ⟨rfl, codeC_block h₁⟩)
  | some v =>
    refine wpC_bind (wpC_mono (.of h₁) (fun _ s₁ h₁ => ?_) fun _ _ h' => h')
    refine wpC_bind (wpC_mono (.of h₁) (fun _ s₂ h₂ => wpC_bind (wpC_mono h₂ (fun f s₃ h₃ => ?_) fun _ _ h' => h')) fun _ _ h' => h')
    cases f with
    | next => exact wpC_pure (.inl ⟨rfl, h₃⟩)
    | cont => exact wpC_pure (.inl ⟨rfl, h₃⟩)
    | brk => exact wpC_pure h₃
    | ret v => exact wpC_pure h₃

theorem compLoop_ {elt target iter : Expr} {ifs : List Expr} {scope : Scope} {pos : Pos} {it acc : Value} {env : Env} (I : Nat → Shared → Prop)
    (turn : ∀ n s E, I n s → wpAny (model prog w) A (pyNext it) (fun r s₁ => match r with
      | none => R (.ok .next) s₁
      | some v => wpAny (model prog w) A (letOwnedTupleGo target it v) (fun _ s₁ => wpAny (model prog w) A (assign target env v) (fun _ s₂ =>
          wpC (model prog w) A (forIn ifs true fun c r => if r = true then do let ok ← isTrue c env (eval c env); pure (ForInStep.yield ok) else pure (ForInStep.yield r)) (fun ok s₃ =>
            if ok = true then wpC (model prog w) A (eval elt env) (fun x s₄ =>
              wpAny (model prog w) A (call (.builtin "list.append") [acc, x]) (fun _ s₅ => ∃ m, m < n ∧ I m s₅) E s₄) E s₃
            else ∃ m, m < n ∧ I m s₃) E s₂) E s₁) E s₁) E s)
    (n : Nat) (h : I n s) :
    codeC (model prog w) A (.compLoop (.ListComp elt [⟨target, iter, ifs, 0⟩] scope pos) 0 it acc env) R s := by
  refine codeC_loop rfl I (fun n s hI => ?_) n h
  show wpC _ A ((compTurn (.ListComp elt [⟨target, iter, ifs, 0⟩] scope pos) 0 it acc env).onRaise (fun x => do noteFrame x env; theTreesLotGoes x)) _ _ s
  refine wpC_noted ?_
  rw [compTurn_list]
  refine wpC_bind (wpC_standAt (wpC_bind (wpC_mono (.of (turn n s (notedBy (model prog w) A env fun e s' => R (.error e) s') hI)) (fun r s₁ h₁ => ?_) fun _ _ h' => h')))
  cases r with
  | none => exact wpC_pure h₁
  | some v =>
    refine wpC_bind (wpC_mono (.of h₁) (fun _ s₁ h₁ => ?_) fun _ _ h' => h')
    refine wpC_bind (wpC_mono (.of h₁) (fun _ s₂ h₂ => wpC_bind (wpC_mono h₂ (fun ok s₃ h₃ => ?_) fun _ _ h' => h')) fun _ _ h' => h')
    cases ok with
    | false => exact wpC_pure (.inl ⟨rfl, h₃⟩)
    | true =>
      exact wpC_bind (wpC_bind (wpC_mono h₃ (fun x s₄ h₄ => wpC_bind (wpC_mono (.of h₄) (fun _ s₅ h₅ => wpC_pure (wpC_pure (.inl ⟨rfl, h₅⟩))) fun _ _ h' => h')) fun _ _ h' => h'))
end

section
variable {C : Cx} {n : Nat} {sc : Kinds} {ρ : Vars} {O : List Ob} {Ψ : Out → Prop}

inductive ForS (C : Cx) (A : Around) (n : Nat) (sc : Kinds) (tgt : Expr) (body : List Stmt) (Ψ : Out → Prop) (env : Env) (H : PHeap) (as : List Addr) (s : Shared) (I : Addr) (m : Nat) (s' : Shared) : Prop
  | intro (ts : List T) (ρ : Vars) (O : List Ob) (H' : PHeap) (as' : List Addr) (e : ts.length = m) (hF : ForP C n sc tgt body ts ρ O Ψ) (M : Mem C A H' as' O s') (l : Loc H' as' env ρ s') (hit : ItAt H' [] [] s'.heap I ts) (h1 : I ∉ as') (h2 : H' I = none) (R : Rel (slots env) H as s H' as' s')
theorem ItAt.live {H as h I ts O} (x : ItAt H as O h I ts) : Live h I := by
  cases x with
  | list a b c => obtain ⟨o, ho, _⟩ := a; exact ⟨o, ho⟩
  | own a b c => obtain ⟨o, ho, _⟩ := a; exact ⟨o, ho⟩
  | range a => exact ⟨_, a⟩
theorem Mem.bare {C A H as O s} (M : Mem C A H as O s) : Mem C A H [] [] s := ⟨M.base, M.sat, rfl, List.nodup_nil, fun i a ob h => (by rw [List.getElem?_nil] at h; cases h), fun a h => absurd h List.not_mem_nil, M.os, M.gens, M.stk.turn (fun _ _ _ => List.not_mem_nil) (fun _ _ h _ => h) (fun _ _ _ e => .inl e)⟩
theorem for_code {A env H as s tgt body ts I H₁ as₁ s₁} (rm : Room n A) (h0n : 0 < n) (eo : EnvS sc A env) (hk : tgtOk sc tgt) (hF : ForP C n sc tgt body ts ρ O Ψ)
    (M : Mem C A H₁ as₁ O s₁) (l : Loc H₁ as₁ env ρ s₁) (hit : ItAt H₁ [] [] s₁.heap I ts) (hI : s.heap.get? I = none) (h1 : I ∉ as₁) (h2 : H₁ I = none) (h3 : I ∉ slots env)
    (R : Rel (slots env) H as s H₁ as₁ s₁) :
    codeC (model C.prog C.w) A (.forLoop tgt (.ref I) body [] env) (fun r s' => match r with | .ok f => AfterS C A env H as s Ψ f s' | .error e => False) s₁ := by
  refine forLoop_ (ForS C A n sc tgt body Ψ env H as s I) (fun m s' E hq => ?_) ts.length ⟨ts, ρ, O, H₁, as₁, rfl, hF, M, l, hit, h1, h2, R⟩
  clear hF M l hit h1 h2 R
  obtain ⟨ts, ρ, O, H', as', em, hF, M, l, hit, h1, h2, R⟩ := hq
  cases ts with
  | nil =>
    exact ItAt.end rm h0n M.bare hit fun h' hs => .of (wpAny_execs_nil ⟨H', as', R.touch hI hs, ρ, O, hF, M.touch h2 h1 hs hit.nd, l.touch h3 hs⟩)
  | cons t ts =>
    have em : ts.length < m := em ▸ Nat.lt_succ_self _
    refine ItAt.next rm M.bare List.not_mem_nil h2 hit fun v h' tk hv hit' hs => letOwned_it (C := C) (s := { s' with heap := h', toks := tk }) hk hit' ?_
    have M1 := M.touch (tk := tk) h2 h1 hs.extBut hit.nd
    have l1 := l.touch (tk := tk) h3 hs.extBut
    have R1 := R.touch (tk := tk) hI hs.extBut
    have hit' : ItAt H' [] [] ({ s' with heap := h', toks := tk } : Shared).heap I ts := hit'
    clear M l R hs hit
    generalize ({ s' with heap := h', toks := tk } : Shared) = s₀ at M1 l1 R1 hit' ⊢
    refine hF.casesOn fun ρ₁ hb hw => assign_ rm h0n eo.toEnvOk M1 l1 hv hk hb fun s2 M2 l2 R2 => ?_
    have R2 := R2 _ (TgtIn.all hk)
    have hit2 : ItAt H' [] [] s2.heap I ts := hit'.relF (s := s₀) (H' := H') (as' := as') R2 h1 h3
    refine wpC_mono (hw A env H' as' s2 E rm eo M2 l2) (fun f s3 qq => qq.out fun H3 as3 R3 h3' => ?_) fun _ _ x => x
    have RR := (R1.trans R2).trans R3
    have hit3 : ItAt H3 [] [] s3.heap I ts := hit2.relF R3 h1 h3
    have off := R3.off hit2.live h1 h2
    clear R1 R2 R3 hit' hit2 M1 l1 M2 l2 hw hF hv
    cases f with
    | next => exact h3'.casesOn fun ρ' O' q M3 l3 => ⟨ts.length, em, ts, ρ', O', H3, as3, rfl, q, M3, l3, hit3, off.1, off.2, RR⟩
    | cont => exact h3'.casesOn fun ρ' O' q M3 l3 => ⟨ts.length, em, ts, ρ', O', H3, as3, rfl, q, M3, l3, hit3, off.1, off.2, RR⟩
    | brk => exact h3'.casesOn fun ρ' O' q M3 l3 => ⟨H3, as3, RR, ρ', O', q, M3, l3⟩
    | ret v => exact h3'.casesOn fun d O' q M3 l3 => ⟨H3, as3, RR, d, O', q, M3, l3⟩

noncomputable def itemsD (O : List Ob) : D → Option (List T)
  | .val (.list ts) => some ts
  | .val (.range a b c) => if Builtin.Range.small a b c = true ∧ 0 ≤ Builtin.Range.rangeSize a b c then some (rangeT a c (Builtin.Range.rangeSize a b c).toNat) else none
  | .ref i => match O[i]? with
    | some (.list ts) => some ts
    | _ => none
  | _ => none

theorem iter_ {A H as s d ts v E} {Q : Value → Shared → Prop} (rm : Room n A) (M : Mem C A H as O s) (hd : itemsD O d = some ts) (hv : DenD H as d v)
    (h : ∀ I s', s.heap.get? I = none → Mem C A H as O s' → Rel [] H as s H as s' → (∀ b o, s.heap.get? b = some o → s'.heap.get? b = some o) → I ∉ as → H I = none → Live s'.heap I → ItAt H as O s'.heap I ts → (∀ t, d = .val t → ItAt H [] [] s'.heap I ts) → Q (.ref I) s') :
    wpAny (model C.prog C.w) A (pyIter v) Q E s := by
  have hn := get?_size s.heap
  have h2 : H s.heap.objs.size = none := M.fresh_none hn
  have h1 : s.heap.objs.size ∉ as := fun hm => (M.live _ hm).not_none hn
  have push : ∀ o, o.isFreed = false → Mem C A H as O { s with heap := s.heap.push o } ∧ ∀ X, Rel X H as s H as { s with heap := s.heap.push o } := fun o ho =>
    M.same (fun b o' e => Heap.get?_push_of_some _ e) rfl rfl
  cases d with
  | ref i =>
    obtain ⟨a, ha, rfl⟩ := hv
    have hd : (match O[i]? with | some (.list ts) => some ts | _ => none) = some ts := hd
    split at hd
    · rename_i ts' hO
      cases hd
      obtain ⟨_, vs, k, g, dl⟩ := M.obs i a _ ha hO
      obtain ⟨M', R'⟩ := push { cls := .type "list_iterator", data := .fields #[.ref a, .int 0 0] } rfl
      refine wpAny_pyIter_list ⟨_, g, rfl, k, rfl⟩ (h _ _ hn M' (R' _) (fun b o e => Heap.get?_push_of_some _ e) h1 h2 ⟨_, Heap.get?_push_size _ rfl⟩ (.own (i := 0) ⟨_, Heap.get?_push_size _ rfl, rfl, rfl⟩ ha hO) (fun t e => by cases e))
    · cases hd
  | val t =>
    cases t with
    | list ts' =>
      cases hd
      unfold DenD Den at hv
      obtain ⟨a, vs, k, rfl, hH, dl⟩ := hv
      obtain ⟨M', R'⟩ := push { cls := .type "list_iterator", data := .fields #[.ref a, .int 0 0] } rfl
      refine wpAny_pyIter_list ⟨_, M.sat _ _ hH, rfl, k, rfl⟩ (h _ _ hn M' (R' _) (fun b o e => Heap.get?_push_of_some _ e) h1 h2 ⟨_, Heap.get?_push_size _ rfl⟩ (.list (i := 0) ⟨_, Heap.get?_push_size _ rfl, rfl, rfl⟩ hH dl) (fun t e => .list (i := 0) ⟨_, Heap.get?_push_size _ rfl, rfl, rfl⟩ hH dl))
    | range a b c =>
      have hd2 : (if Builtin.Range.small a b c = true ∧ 0 ≤ Builtin.Range.rangeSize a b c then some (rangeT a c (Builtin.Range.rangeSize a b c).toNat) else none) = some ts := hd
      by_cases hc : Builtin.Range.small a b c = true ∧ 0 ≤ Builtin.Range.rangeSize a b c
      · rw [if_pos hc] at hd2
        have hd3 := Option.some.inj hd2
        subst hd3
        clear hd hd2
        unfold DenD Den at hv
        obtain ⟨r, t, u, w, rfl, hH⟩ := hv
        have hsz : Builtin.Range.rangeSize a b c = ((Builtin.Range.rangeSize a b c).toNat : Nat) := (Int.toNat_of_nonneg hc.2).symm
        obtain ⟨M', R'⟩ := push { cls := .type "range_iterator", data := .fields #[rawInt a, rawInt (Builtin.Range.rangeSize a b c), rawInt c] } rfl
        have hi : IsRangeIter (s.heap.push { cls := .type "range_iterator", data := .fields #[rawInt a, rawInt (Builtin.Range.rangeSize a b c), rawInt c] }) s.heap.objs.size a (((Builtin.Range.rangeSize a b c).toNat : Nat) : Int) c := by
          rw [← hsz]; exact Heap.get?_push_size _ rfl
        refine wpAny_pyIter_range (M.sat _ _ hH) hc.1 (h _ _ hn M' (R' _) (fun b o e => Heap.get?_push_of_some _ e) h1 h2 ⟨_, Heap.get?_push_size _ rfl⟩ (.range hi) (fun t e => .range hi))
      · rw [if_neg hc] at hd2; cases hd2
    | _ => cases hd

inductive IterP (O : List Ob) (d : D) (P : List T → Prop) : Prop
  | intro (t : T) (ts : List T) (e : d = .val t) (h : itemsD O d = some ts) (k : P ts)
theorem WPx_For {tgt iter body pos} (hk : tgtOk sc tgt) (h : WPe C n sc ρ O iter fun d O' => IterP O' d fun ts => ForP C n sc tgt body ts ρ O' Ψ)
    (hs : ∀ (env : Env) x, foldedSetIterable iter env x = pure x) (h0n : 0 < n) :
    WPx C n sc ρ O (.For tgt iter body [] pos) Ψ := fun A env H as s E rm eo M l => by
  refine wpC_For (wpC_mono (h A env H as s E rm eo.toEnvOk M l) (fun v s₁ qq => qq.out fun d O₁ H₁ as₁ hq M₁ D₁ R₁ => ?_) fun _ _ x => x) (hs env)
  obtain ⟨t, ts, hd, hi, hF⟩ := hq
  have l₁ := l.rel R₁
  refine iter_ rm M₁ hi D₁ fun I s₂ hI M₂ R₂ hk₂ h1 h2 hl _ hF' => ?_
  have l₂ := l₁.rel R₂
  have h3 : I ∉ slots env := fun hm => by
    obtain ⟨_, _, o, e⟩ := l₁.off I hm
    rw [hI] at e; cases e
  have RR := (R₁.trans R₂)
  refine codeC_mono (for_code (s := s₁) (H := H₁) (as := as₁) rm h0n eo hk hF M₂ l₂ (hF' t hd) hI h1 h2 h3 R₂.up) fun r s' hr => ?_
  cases r with
  | ok f => exact hr.from R₁.up
  | error e => exact hr.elim

theorem WPx_Assign {x px e pos} (hk : nameOk sc x) (h : WPe C n sc ρ O e fun d O' => Ψ (.next ((x, d) :: ρ) O'))
    (hs : ∀ env : Env, EnvOk sc env → swapsWith e (some (.Name x px)) pos.line env = pure false) : WPx C n sc ρ O (.Assign [.Name x px] e pos) Ψ := fun A env H as s E rm eo M l =>
  wpC_Assign_Name (wpC_mono (h A env H as s E rm eo.toEnvOk M l) (fun v s₁ qq => qq.out fun d O₁ H₁ as₁ h₁ M₁ D₁ R₁ =>
    store_ eo.toEnvOk M₁ (l.rel R₁) D₁ hk fun s₂ M₂ l₂ R₂ => ⟨H₁, as₁, R₁.up.trans (R₂ _ SlotIn.all), _, _, h₁, M₂, l₂⟩) fun _ _ x => x) (hs env eo.toEnvOk)

theorem WPx_Expr {e pos} (h : WPe C n sc ρ O e fun d O' => d = .val .none ∧ Ψ (.next ρ O'))
    (hs : ∀ env : Env, EnvOk sc env → swapsWith e none pos.line env = pure false) : WPx C n sc ρ O (.Expr e pos) Ψ := fun A env H as s E rm eo M l =>
  wpC_Expr (wpC_mono (h A env H as s E rm eo.toEnvOk M l) (fun v s₁ qq => qq.out fun d O₁ H₁ as₁ ⟨hd, h₁⟩ M₁ D₁ R₁ => by
    subst hd
    unfold DenD Den at D₁
    subst D₁
    exact ⟨H₁, as₁, R₁.up, _, _, h₁, M₁, l.rel R₁⟩) fun _ _ x => x) (by unfold interactive; rw [eo.kind]; rfl) (hs env eo.toEnvOk)

inductive WhP (inv : Nat → Vars → List Ob → Prop) (k : Nat) (ρ' : Vars) (O' : List Ob) : Prop
  | intro (k' : Nat) (ρ'' : Vars) (h : k' < k) (s : Sub ρ'' ρ') (i : inv k' ρ'' O')
inductive WhS (C : Cx) (A : Around) (inv : Nat → Vars → List Ob → Prop) (env : Env) (H : PHeap) (as : List Addr) (s : Shared) (k : Nat) (s' : Shared) : Prop
  | intro (ρ : Vars) (O : List Ob) (H' : PHeap) (as' : List Addr) (hi : inv k ρ O) (M : Mem C A H' as' O s') (l : Loc H' as' env ρ s') (R : Rel (slots env) H as s H' as' s')
theorem WPx_While {test body pos} (inv : Nat → Vars → List Ob → Prop) {k : Nat} (h0 : ∃ ρ₀, Sub ρ₀ ρ ∧ inv k ρ₀ O)
    (hstep : ∀ k ρ O, inv k ρ O → WPb C n sc ρ O test fun b O' => if b then WPs C n sc ρ O' body (fun o => match o with
      | .next ρ' O' => WhP inv k ρ' O'
      | .cont ρ' O' => WhP inv k ρ' O'
      | .brk ρ' O' => Ψ (.next ρ' O')
      | .ret d O' => Ψ (.ret d O')) else Ψ (.next ρ O')) : WPx C n sc ρ O (.While test body [] pos) Ψ := fun A env H as s E rm eo M l => by
  obtain ⟨ρ₀, hs, h0⟩ := h0
  refine wpC_While ?_
  refine codeC_mono (R := fun r s' => match r with | .ok f => AfterS C A env H as s Ψ f s' | .error e => False) ?_ fun r s' hr => by
    cases r with
    | ok f => exact hr
    | error e => exact hr.elim
  refine codeC_whileLoop (WhS C A inv env H as s) (fun k s' E hq => ?_) k ⟨ρ₀, O, H, as, h0, M, l.sub hs, Rel.refl⟩
  clear M l h0 hs
  obtain ⟨ρ, O, H', as', hi, M, l, R⟩ := hq
  refine wpC_mono (hstep k ρ O hi A env H' as' s' _ rm eo.toEnvOk M l) (fun b s₁ qq => qq.out fun O₁ H₁ as₁ h₁ M₁ R₁ => ?_) fun _ _ x => x
  have l₁ := l.rel R₁
  have R₁ := R.trans R₁.up
  cases b with
  | false => exact .of (wpAny_execs_nil ⟨H₁, as₁, R₁, ρ, O₁, h₁, M₁, l₁⟩)
  | true =>
    refine wpC_mono (WPs.run h₁ rm eo M₁ l₁) (fun f s₂ qq => qq.out fun H₂ as₂ R₂ h₂ => ?_) fun _ _ x => x
    have RR := R₁.trans R₂
    cases f with
    | next => exact h₂.casesOn fun ρ' O' q M₂ l₂ => q.casesOn fun k' ρ'' hk hsub hi' => ⟨k', hk, ρ'', O', H₂, as₂, hi', M₂, l₂.sub hsub, RR⟩
    | cont => exact h₂.casesOn fun ρ' O' q M₂ l₂ => q.casesOn fun k' ρ'' hk hsub hi' => ⟨k', hk, ρ'', O', H₂, as₂, hi', M₂, l₂.sub hsub, RR⟩
    | brk => exact h₂.casesOn fun ρ' O' q M₂ l₂ => ⟨H₂, as₂, RR, ρ', O', q, M₂, l₂⟩
    | ret v => exact h₂.casesOn fun d O' q M₂ D₂ => ⟨H₂, as₂, RR, d, O', q, M₂, D₂⟩
end

inductive AfterL (C : Cx) (A : Around) (H : PHeap) (as : List Addr) (s : Shared) (Φ : List D → List Ob → Prop) (vs : List Value) (s' : Shared) : Prop
  | intro (ds : List D) (O' : List Ob) (H' : PHeap) (as' : List Addr) (h : Φ ds O') (M : Mem C A H' as' O' s') (D : DenDs H' as' ds vs) (R : Rel [] H as s H' as' s')
theorem AfterL.out {C A H as s Φ vs s'} {P : Prop} (h : AfterL C A H as s Φ vs s') (k : ∀ ds O' H' as', Φ ds O' → Mem C A H' as' O' s' → DenDs H' as' ds vs → Rel [] H as s H' as' s' → P) : P :=
  h.casesOn k
noncomputable def WPl (C : Cx) (n : Nat) (sc : Kinds) (ρ : Vars) (O : List Ob) (es : List Expr) (Φ : List D → List Ob → Prop) : Prop :=
  ∀ A env H as s E pos, Room n A → EnvOk sc env → Mem C A H as O s → Loc H as env ρ s → wpC (model C.prog C.w) A (spliced (backTo pos (starEach es env))) (AfterL C A H as s Φ) E s
noncomputable def notStar : Expr → Prop
  | .Starred .. => False
  | _ => True

section
variable {C : Cx} {n : Nat} {sc : Kinds} {ρ : Vars} {O : List Ob}
theorem WPl_nil {Φ : List D → List Ob → Prop} (h : Φ [] O) : WPl C n sc ρ O [] Φ := fun A env H as s E pos rm eo M l =>
  .of (spliced_nil ⟨[], O, H, as, h, M, trivial, Rel.refl⟩)
theorem starEach_cons {e : Expr} {es : List Expr} {env : Env} (h : notStar e) : starEach (e :: es) env = (false, eval e env) :: starEach es env := by
  cases e <;> first | rfl | exact h.elim
theorem WPl_cons {e es} {Φ : List D → List Ob → Prop} (h : WPe C n sc ρ O e fun d O' => WPl C n sc ρ O' es fun ds O'' => Φ (d :: ds) O'') (hn : notStar e) : WPl C n sc ρ O (e :: es) Φ := fun A env H as s E pos rm eo M l => by
  rw [starEach_cons hn]
  show wpC _ _ (spliced ((false, eval e env) :: backTo pos (starEach es env))) _ _ _
  refine splicedC_cons (wpC_mono (h A env H as s E rm eo M l) (fun v s₁ qq => qq.out fun d O₁ H₁ as₁ h₁ M₁ D₁ R₁ => ?_) fun _ _ x => x)
  refine wpC_mono (h₁ A env H₁ as₁ s₁ E pos rm eo M₁ (l.rel R₁)) (fun vs s₂ qq => qq.out fun ds O₂ H₂ as₂ h₂ M₂ D₂ R₂ => ?_) fun _ _ x => x
  exact ⟨d :: ds, O₂, H₂, as₂, h₂, M₂, ⟨D₁.rel R₂, D₂⟩, R₁.trans R₂⟩

noncomputable def vals : List D → Option (List T)
  | [] => some []
  | .val t :: r => (vals r).map (t :: ·)
  | .ref _ :: _ => none
theorem DenDs.vals {H as} : ∀ {ds : List D} {vs : List Value} {ts : List T}, DenDs H as ds vs → Mine.vals ds = some ts → DenL H ts vs
  | [], [], ts, _, e => by cases e; exact .nil
  | .val t :: r, v :: vs, ts, ⟨h, hr⟩, e => by
    unfold Mine.vals at e
    obtain ⟨ts', e', rfl⟩ := Option.map_eq_some_iff.mp e
    exact .cons h (DenDs.vals hr e')
  | .ref _ :: _, _ :: _, ts, _, e => by cases e
  | [], _ :: _, _, h, _ => h.elim
  | _ :: _, [], _, h, _ => h.elim
theorem DenDs.length {H as} : ∀ {ds : List D} {vs : List Value}, DenDs H as ds vs → vs.length = ds.length
  | [], [], _ => rfl
  | _ :: _, _ :: _, ⟨_, h⟩ => by simp [DenDs.length h]
  | [], _ :: _, h => h.elim
  | _ :: _, [], h => h.elim

noncomputable def shortB : Nat → List D → Bool
  | _, [] => true
  | 0, _ :: _ => false
  | k + 1, _ :: r => shortB k r
theorem shortB_le : ∀ {k : Nat} {ds : List D}, shortB k ds = true → ds.length ≤ k
  | _, [], _ => Nat.zero_le _
  | _ + 1, _ :: _, h => Nat.succ_le_succ (shortB_le (ds := _) h)
theorem short_line {ds : List D} (h : shortB 40 ds = true) : ds.length ≤ sizeLine := Nat.le_trans (shortB_le h) (by decide)
inductive ListP (ds : List D) (P : List T → Prop) : Prop
  | intro (h : shortB 40 ds = true) (ts : List T) (e : vals ds = some ts) (k : P ts)
theorem WPe_List {es pos} {Φ : D → List Ob → Prop} (h : WPl C n sc ρ O es fun ds O' => ListP ds fun ts => Φ (.val (.list ts)) O') : WPe C n sc ρ O (.List es pos) Φ := fun A env H as s E rm eo M l => by
  refine ListC_ (wpC_mono (h A env H as s E pos rm eo M l) (fun vs s₁ qq => qq.out fun ds O₁ H₁ as₁ hq M₁ D₁ R₁ => ?_) fun _ _ x => x)
  obtain ⟨hsz, ts, ht, hΦ⟩ := hq
  refine wpAny_newObj_type ?_ (by show vs.toArray.size ≤ sizeLine; rw [List.size_toArray, D₁.length]; exact short_line hsz)
  obtain ⟨M₂, R₂⟩ := M₁.put (o := listO vs.toArray 0) (s' := { s₁ with heap := s₁.heap.push (listO vs.toArray 0) }) (get?_size _) (Heap.get?_push_size _ rfl) (fun b o e => Heap.get?_push_of_some _ e) rfl rfl
  refine ⟨_, O₁, _, as₁, hΦ, M₂, ?_, R₁.trans (R₂ _)⟩
  unfold DenD Den
  exact ⟨_, _, 0, rfl, PHeap.put_self, by simpa using DenL.mono (R₂ []).mono _ _ (D₁.vals ht)⟩
theorem WPe_ListOwn {es pos} {Φ : D → List Ob → Prop} (h : WPl C n sc ρ O es fun ds O' => ListP ds fun ts => Φ (.ref O'.length) (O' ++ [.list ts])) : WPe C n sc ρ O (.List es pos) Φ := fun A env H as s E rm eo M l => by
  refine ListC_ (wpC_mono (h A env H as s E pos rm eo M l) (fun vs s₁ qq => qq.out fun ds O₁ H₁ as₁ hq M₁ D₁ R₁ => ?_) fun _ _ x => x)
  obtain ⟨hsz, ts, ht, hΦ⟩ := hq
  refine wpAny_newObj_type ?_ (by show vs.toArray.size ≤ sizeLine; rw [List.size_toArray, D₁.length]; exact short_line hsz)
  have hn := get?_size s₁.heap
  obtain ⟨M₂, R₂⟩ := M₁.own (ob := .list ts) (s' := { s₁ with heap := s₁.heap.push (listO vs.toArray 0) }) hn ⟨M₁.fresh_none hn, vs.toArray, 0, Heap.get?_push_size _ rfl, by simpa using D₁.vals ht⟩ ⟨_, Heap.get?_push_size _ rfl⟩
    (fun b o e => Heap.get?_push_of_some _ e) rfl rfl
  refine ⟨_, _, _, _, hΦ, M₂, ⟨_, ?_, rfl⟩, R₁.trans (R₂ _)⟩
  rw [← M₁.len, List.getElem?_append_right (Nat.le_refl _)]; simp
theorem WPe_Tuple {es k pos} {Φ : D → List Ob → Prop} (h : WPl C n sc ρ O es fun ds O' => ListP ds fun ts => Φ (.val (.tup ts)) O') : WPe C n sc ρ O (.Tuple es k pos) Φ := fun A env H as s E rm eo M l => by
  refine TupleC_ (wpC_mono (h A env H as s E pos rm eo M l) (fun vs s₁ qq => qq.out fun ds O₁ H₁ as₁ hq M₁ D₁ R₁ => ?_) fun _ _ x => x)
  obtain ⟨hsz, ts, ht, hΦ⟩ := hq
  refine wpAny_newObj_type ?_ (by show vs.toArray.size ≤ sizeLine; rw [List.size_toArray, D₁.length]; exact short_line hsz)
  obtain ⟨M₂, R₂⟩ := M₁.put (o := tupO vs.toArray 0) (s' := { s₁ with heap := s₁.heap.push (tupO vs.toArray 0) }) (get?_size _) (Heap.get?_push_size _ rfl) (fun b o e => Heap.get?_push_of_some _ e) rfl rfl
  refine ⟨_, O₁, _, as₁, hΦ, M₂, ?_, R₁.trans (R₂ _)⟩
  unfold DenD Den
  exact ⟨_, _, 0, rfl, PHeap.put_self, by simpa using DenL.mono (R₂ []).mono _ _ (D₁.vals ht)⟩

noncomputable def thaw (i : Nat) (t : T) : D → D
  | .ref j => if j = i then .val t else .ref j
  | d => d
theorem freeze_ {H as s i ob t} (M : Mem C A H as O s) (hi : O[i]? = some ob) (ht : (match ob with | .list ts => t = .list ts | .dict ks ts => t = .dict ks ts | .gone => False)) :
    ∃ H', Mem C A H' as (O.set i .gone) s ∧ (∀ X, Rel X H as s H' as s) ∧ ∀ d v, DenD H as d v → DenD H' as (thaw i t d) v := by
  have hlt : i < as.length := by rw [M.len]; exact (List.getElem?_eq_some_iff.mp hi).1
  obtain ⟨a, ha⟩ : ∃ a, as[i]? = some a := ⟨as[i], List.getElem?_eq_getElem hlt⟩
  have hob := M.obs i a ob ha hi
  obtain ⟨o, h0, g, hden⟩ : ∃ o, H a = none ∧ s.heap.get? a = some o ∧ ∀ H' : PHeap, H' a = some o → (∀ b o, H b = some o → H' b = some o) → Den H' t (.ref a) := by
    cases ob with
    | gone => exact ht.elim
    | list ts =>
      obtain ⟨h0, vs, k, g, dl⟩ := hob
      subst ht
      exact ⟨_, h0, g, fun H' hH hm => by unfold Den; exact ⟨a, vs, k, rfl, hH, DenL.mono hm _ _ dl⟩⟩
    | dict ks ts =>
      obtain ⟨h0, es, k, g, hk, dl⟩ := hob
      subst ht
      exact ⟨_, h0, g, fun H' hH hm => by unfold Den; exact ⟨a, es, k, rfl, hH, hk, DenL.mono hm _ _ dl⟩⟩
  have hm : ∀ b o', H b = some o' → H.put a o b = some o' := fun b o' e => by
    unfold PHeap.put
    split
    · rename_i q; subst q; rw [h0] at e; cases e
    · exact e
  refine ⟨H.put a o, ⟨fun b o' e => hm _ _ (M.base b o' e), fun b o' e => ?_, by simp [M.len], M.nodup, fun j b ob' hb ho => ?_, M.live, M.os, M.gens, M.stk.turn (fun _ h _ => h) (fun L h1 h2 _ => by
    have hne : L ≠ a := fun q => h1 (q ▸ List.mem_of_getElem? ha)
    unfold PHeap.put; rw [if_neg hne]; exact h2) (fun _ _ _ e => .inl e)⟩, fun X => ⟨hm, fun b o' e => ?_, fun b o' e _ _ => .inl e, fun b l => l, [], by simp, by simp⟩, fun d v hd => ?_⟩
  · unfold PHeap.put at e
    split at e
    · rename_i q; subst q; cases e; exact g
    · exact M.sat _ _ e
  · by_cases hj : j = i
    · subst hj
      rw [List.getElem?_set_self (by rw [← M.len]; exact hlt)] at ho
      cases ho; trivial
    · rw [List.getElem?_set_ne (by (first | exact fun ze => hj ze.symm | lia))] at ho
      have h := M.obs j b ob' hb ho
      have hne : b ≠ a := fun q => by
        subst q
        exact hj ((List.getElem?_inj (List.getElem?_eq_some_iff.mp hb).1 M.nodup).mp (hb.trans ha.symm))
      have hn : H b = none → H.put a o b = none := fun e => by unfold PHeap.put; rw [if_neg hne]; exact e
      cases ob' with
      | gone => trivial
      | list ts => obtain ⟨h0, vs, k, h1, h2⟩ := h; exact ⟨hn h0, vs, k, h1, DenL.mono hm _ _ h2⟩
      | dict ks ts => obtain ⟨h0, es, k, h1, hk, h2⟩ := h; exact ⟨hn h0, es, k, h1, hk, DenL.mono hm _ _ h2⟩
  · unfold PHeap.put at e
    split at e
    · rename_i q; subst q; exact .inr (.inr (List.mem_of_getElem? ha))
    · exact .inl e
  · cases d with
    | val t' => exact Den.mono hm _ _ hd
    | ref j =>
      obtain ⟨b, hb, rfl⟩ := hd
      show DenD _ as (if j = i then .val t else .ref j) _
      by_cases q : j = i
      · rw [if_pos q]
        subst q
        rw [ha] at hb; cases hb
        exact hden _ PHeap.put_self hm
      · rw [if_neg q]; exact ⟨b, hb, rfl⟩

noncomputable def thawV (i : Nat) (t : T) (ρ : Vars) : Vars := ρ.map fun p => (p.1, thaw i t p.2)
theorem thawV_lookup {i t x d} : ∀ {ρ : Vars}, (thawV i t ρ).lookup x = some d → ∃ d', ρ.lookup x = some d' ∧ d = thaw i t d'
  | [], h => by simp [thawV] at h
  | (y, d₀) :: r, h => by
    unfold thawV at h
    rw [List.map_cons, List.lookup_cons] at h
    rw [List.lookup_cons]
    cases hb : x == y with
    | true => rw [hb] at h; simp at h; exact ⟨d₀, rfl, h.symm⟩
    | false => rw [hb] at h; exact thawV_lookup (ρ := r) h
theorem Loc.thaw {H as env ρ s H' i t} (l : Loc H as env ρ s) (hf : ∀ X, Rel X H as s H' as s) (hd : ∀ d v, DenD H as d v → DenD H' as (Mine.thaw i t d) v) : Loc H' as env (thawV i t ρ) s := by
  have l' := l.rel (hf [])
  refine ⟨l'.off, l'.apart, l'.apartL, ?_, l'.cell, fun x d hx hk => ?_⟩
  · obtain ⟨m, hn, hm⟩ := l.ns
    refine ⟨m, hn, fun x d hx hk => ?_⟩
    obtain ⟨d', hx', rfl⟩ := thawV_lookup hx
    obtain ⟨v, hv, e⟩ := hm x d' hx' hk
    exact ⟨v, hd _ _ hv, e⟩
  · obtain ⟨d', hx', rfl⟩ := thawV_lookup hx
    obtain ⟨v, c, hv, e, ic⟩ := l.cells x d' hx' hk
    exact ⟨v, c, hd _ _ hv, e, ic⟩
theorem WPs_freeze {ss i ts} {Ψ : Out → Prop} (hi : O[i]? = some (.list ts)) (h : WPs C n sc (thawV i (.list ts) ρ) (O.set i .gone) ss Ψ) : WPs C n sc ρ O ss Ψ := fun A env H as s E rm eo M l => by
  obtain ⟨H', M', R', hd⟩ := freeze_ (t := .list ts) M hi rfl
  exact wpC_mono (h A env H' as s E rm eo M' (l.thaw R' hd)) (fun f s' h' => h'.from (R' _)) fun _ _ x => x
theorem WPs_freezeD {ss i ks ts} {Ψ : Out → Prop} (hi : O[i]? = some (.dict ks ts)) (h : WPs C n sc (thawV i (.dict ks ts) ρ) (O.set i .gone) ss Ψ) : WPs C n sc ρ O ss Ψ := fun A env H as s E rm eo M l => by
  obtain ⟨H', M', R', hd⟩ := freeze_ (t := .dict ks ts) M hi rfl
  exact wpC_mono (h A env H' as s E rm eo M' (l.thaw R' hd)) (fun f s' h' => h'.from (R' _)) fun _ _ x => x
end

end Mine
end

section
set_option Elab.async false
set_option maxRecDepth 100000
set_option linter.unusedVariables false
namespace Mine
open PySem PySem.W PyProof.Rows PySem.Calls

theorem cellsFrom_acc : ∀ (names : Kinds) (n : Nat) (acc : List (Str × Addr)), cellsFrom n names acc = cellsFrom n names [] ++ acc
  | [], _, _ => rfl
  | (x, k) :: r, n, acc => by
    unfold cellsFrom
    split
    · rw [cellsFrom_acc r (n + 1) ((x, n) :: acc), cellsFrom_acc r (n + 1) [(x, n)], List.append_assoc]; rfl
    · exact cellsFrom_acc r n acc
theorem cellsFrom_kind : ∀ (names : Kinds) (n : Nat) {x : Str} {c : Addr}, (x, c) ∈ cellsFrom n names [] → (x, NameKind.cell) ∈ names
  | [], _, _, _, h => by simp [cellsFrom] at h
  | (y, k) :: r, n, x, c, h => by
    unfold cellsFrom at h
    split at h
    · rename_i hk
      rw [cellsFrom_acc] at h
      rcases List.mem_append.mp h with h | h
      · exact List.mem_cons_of_mem _ (cellsFrom_kind r _ h)
      · have e : (x, c) = (y, n) := by simpa using h
        cases e
        rw [beq_iff_eq.mp hk]
        exact List.mem_cons_self ..
    · exact List.mem_cons_of_mem _ (cellsFrom_kind r _ h)
theorem cellsFrom_has : ∀ (names : Kinds) (n : Nat) {x : Str}, (x, NameKind.cell) ∈ names → ∃ c, (x, c) ∈ cellsFrom n names []
  | (y, k) :: r, n, x, h => by
    unfold cellsFrom
    rcases List.mem_cons.mp h with e | h
    · cases e
      rw [if_pos (by simp), cellsFrom_acc]
      exact ⟨n, List.mem_append_right _ (by simp)⟩
    · split
      · obtain ⟨c, hc⟩ := cellsFrom_has r (n + 1) h
        rw [cellsFrom_acc]
        exact ⟨c, List.mem_append_left _ hc⟩
      · exact cellsFrom_has r n h

noncomputable def closL (cells : List (Str × Addr)) : Kinds → List (Str × Addr) → List (Str × Addr)
  | [], acc => acc
  | (x, k) :: r, acc => closL cells r (if k = .free then (x, (cells.lookup x).getD 0) :: acc else acc)
theorem closL_mem {cells : List (Str × Addr)} : ∀ (names : Kinds) (acc : List (Str × Addr)) {x : Str} {c : Addr}, (x, c) ∈ closL cells names acc → (x, c) ∈ acc ∨ ((x, NameKind.free) ∈ names ∧ c = (cells.lookup x).getD 0)
  | [], _, _, _, h => .inl h
  | (y, k) :: r, acc, x, c, h => by
    unfold closL at h
    rcases closL_mem r _ h with h | h
    · split at h
      · rename_i hk
        rcases List.mem_cons.mp h with e | h
        · cases e; subst hk; exact .inr ⟨List.mem_cons_self .., rfl⟩
        · exact .inl h
      · exact .inl h
    · exact .inr ⟨List.mem_cons_of_mem _ h.1, h.2⟩
theorem closL_acc {cells : List (Str × Addr)} : ∀ (names : Kinds) (acc : List (Str × Addr)) {p : Str × Addr}, p ∈ acc → p ∈ closL cells names acc
  | [], _, _, h => h
  | (y, k) :: r, acc, p, h => by
    unfold closL
    refine closL_acc r _ ?_
    split
    · exact List.mem_cons_of_mem _ h
    · exact h
theorem closL_has {cells : List (Str × Addr)} : ∀ (names : Kinds) (acc : List (Str × Addr)) {x : Str}, (x, NameKind.free) ∈ names → ∃ c, (x, c) ∈ closL cells names acc
  | (y, k) :: r, acc, x, h => by
    unfold closL
    rcases List.mem_cons.mp h with e | h
    · cases e
      exact ⟨_, closL_acc r _ (by rw [if_pos rfl]; exact List.mem_cons_self ..)⟩
    · exact closL_has r _ h
theorem closL_nodup {cells : List (Str × Addr)} : ∀ (names : Kinds) (acc : List (Str × Addr)), (acc.map (·.1) ++ names.map (·.1)).Nodup → ((closL cells names acc).map (·.1)).Nodup
  | [], acc, h => by unfold closL; simpa using h
  | (y, k) :: r, acc, h => by
    unfold closL
    refine closL_nodup r _ ?_
    split
    · rw [List.map_cons]
      refine List.Perm.nodup (List.Perm.symm ?_) h
      exact List.perm_middle.symm
    · refine List.Nodup.sublist ?_ h
      rw [List.map_cons]
      exact List.Sublist.append_left (List.sublist_cons_self ..) _

section
variable {M : Model} {A : Around} {E : Value → Shared → Prop} {s : Shared} {env : Env}
theorem closureFor_eq {scope : Scope} (h : ∀ x, (x, NameKind.free) ∈ scope.names → (env.cells.lookup x).isSome = true) : closureFor scope env = pure (closL env.cells scope.names []) := by
  have key : ∀ (names : Kinds) (acc : List (Str × Addr)), (∀ x, (x, NameKind.free) ∈ names → (env.cells.lookup x).isSome = true) →
      (forIn names acc fun (x : Str × NameKind) (cs : List (Str × Addr)) => do
        if x.2 == .free then
          let a ← cellOf env x.1
          pure (ForInStep.yield ((x.1, a) :: cs))
        else pure (ForInStep.yield cs) : Sem (List (Str × Addr))) = pure (closL env.cells names acc) := by
    intro names
    induction names with
    | nil => intro acc _; rfl
    | cons p r ih =>
      intro acc h
      obtain ⟨x, k⟩ := p
      rw [List.forIn_cons]
      unfold closL
      by_cases hk : k = .free
      · subst hk
        obtain ⟨c, hc⟩ := Option.isSome_iff_exists.mp (h x (List.mem_cons_self ..))
        simp only [beq_self_eq_true, if_true, cellOf, hc, Option.getD_some]
        exact ih _ fun y hy => h y (List.mem_cons_of_mem _ hy)
      · have hb : (k == NameKind.free) = false := by simpa using hk
        simp only [hb, Bool.false_eq_true, if_false, hk]
        exact ih _ fun y hy => h y (List.mem_cons_of_mem _ hy)
  have e := key scope.names [] h
  unfold closureFor
  simp only [bind_pure]
  refine Eq.trans ?_ e
  congr 1

noncomputable def compEnv' (scope : Scope) (cells : List (Str × Addr)) (L : Addr) (env : Env) : Env :=
  { scope := scope, locals := L, globals := env.globals, cells := cells, qual := env.qual, func := none, code := env.code, frame := env.frame, builtins := env.builtins }

theorem newCompEnv {scope : Scope} {cl : List (Str × Addr)} {Q : Env → Shared → Prop}
    (h : Q (compEnv' scope (cellsFrom (s.heap.objs.size + 1) scope.names cl) s.heap.objs.size env) { s with heap := pushCells (s.heap.push { cls := .type "dict", data := .dict #[] }) scope.names }) :
    wpAny M A (newFunctionEnv scope env.globals cl [] env.qual none .none (some env)) Q E s := by
  simp only [newFunctionEnv, Option.isSome_some, if_true]
  refine wpAny_bind (wpAny_alloc ?_)
  refine wpAny_bind (wpAny_layCells _ (fun name kind cells => by cases hkc : kind == NameKind.cell <;> simp [hkc]) _ _ _ _ ?_)
  rw [show ({ s with heap := s.heap.push { cls := .type "dict", data := .dict #[] } } : Shared).heap.objs.size = s.heap.objs.size + 1 from Heap.size_push ..]
  simp only [List.forIn_nil]
  exact wpAny_bind (wpAny_pure (wpAny_pure h))
end

noncomputable def relab (sc names : Kinds) : Kinds := names.map fun p => if (p.2 == .free && sc.lookup p.1 == some .cell) = true then (p.1, .cell) else p
noncomputable def capt (names : Kinds) (ρ : Vars) : Vars := ρ.filter fun p => names.lookup p.1 == some .free

structure CompOk (sc : Kinds) (scope : Scope) (tgt : Expr) : Prop where
  kind : scope.kind = .function
  nodup : (scope.names.map (·.1)).Nodup
  free : ∀ p ∈ scope.names, p.2 = .free → sc.lookup p.1 = some .cell
  tgt : tgtOk scope.names tgt

theorem lookup_nodup {α : Type} : ∀ {l : List (Str × α)} {x : Str} {k : α}, (l.map (·.1)).Nodup → (x, k) ∈ l → l.lookup x = some k
  | (y, j) :: r, x, k, hn, h => by
    rw [List.map_cons, List.nodup_cons] at hn
    rw [List.lookup_cons]
    rcases List.mem_cons.mp h with e | h
    · cases e; rw [beq_self_eq_true]
    · have : (x == y) = false := by
        cases hb : x == y with
        | false => rfl
        | true => rw [beq_iff_eq.mp hb] at h; exact absurd (List.mem_map_of_mem (f := (·.1)) h) hn.1
      rw [this]; exact lookup_nodup hn.2 h
theorem lookup_none_of {α : Type} : ∀ {l : List (Str × α)} {x : Str}, (∀ k, (x, k) ∉ l) → l.lookup x = none
  | [], _, _ => rfl
  | (y, j) :: r, x, h => by
    rw [List.lookup_cons]
    have : (x == y) = false := by
      cases hb : x == y with
      | false => rfl
      | true => rw [beq_iff_eq.mp hb] at h; exact absurd (List.mem_cons_self ..) (h j)
    rw [this]; exact lookup_none_of fun k hk => h k (List.mem_cons_of_mem _ hk)
theorem lookup_append {α : Type} : ∀ {l l' : List (Str × α)} {x : Str}, (l ++ l').lookup x = (l.lookup x).or (l'.lookup x)
  | [], l', x => by simp
  | (y, j) :: r, l', x => by
    rw [List.cons_append, List.lookup_cons, List.lookup_cons]
    cases x == y
    · exact lookup_append
    · rfl
theorem relab_lookup {sc : Kinds} : ∀ {names : Kinds} {x : Str}, (relab sc names).lookup x = (names.lookup x).map fun k => if (k == .free && sc.lookup x == some .cell) = true then .cell else k
  | [], x => rfl
  | (y, k) :: r, x => by
    unfold relab
    rw [List.map_cons, List.lookup_cons]
    cases hb : x == y with
    | true =>
      have e := beq_iff_eq.mp hb
      subst e
      by_cases hc : (k == NameKind.free && sc.lookup x == some NameKind.cell) = true
      · simp only [hc, if_true]
        rw [List.lookup_cons, beq_self_eq_true]; simp only [Option.map_some, hc, if_true]
      · simp only [Bool.eq_false_iff.mpr hc, Bool.false_eq_true, if_false]
        rw [List.lookup_cons, beq_self_eq_true]; simp only [Option.map_some, Bool.eq_false_iff.mpr hc, Bool.false_eq_true, if_false]
    | false =>
      have ih := @relab_lookup sc r x
      unfold relab at ih
      by_cases hc : (k == NameKind.free && sc.lookup y == some NameKind.cell) = true
      · simp only [hc, if_true]
        rw [List.lookup_cons, hb]; exact ih
      · simp only [Bool.eq_false_iff.mpr hc, Bool.false_eq_true, if_false]
        rw [List.lookup_cons, hb]; exact ih
theorem capt_lookup {names : Kinds} : ∀ {ρ : Vars} {x : Str} {d : D}, (capt names ρ).lookup x = some d → names.lookup x = some .free ∧ ρ.lookup x = some d
  | [], x, d, h => by simp [capt] at h
  | (y, d₀) :: r, x, d, h => by
    have ih := @capt_lookup names r x d
    unfold capt at h ih
    rw [List.filter_cons] at h
    rw [List.lookup_cons]
    by_cases hy : (names.lookup y == some NameKind.free) = true
    · rw [if_pos hy, List.lookup_cons] at h
      cases hb : x == y with
      | true =>
        rw [hb] at h
        have e := beq_iff_eq.mp hb
        subst e
        exact ⟨beq_iff_eq.mp hy, h⟩
      | false => rw [hb] at h; exact ih h
    · rw [if_neg hy] at h
      cases hb : x == y with
      | true =>
        have e := beq_iff_eq.mp hb
        subst e
        exact absurd (beq_iff_eq.mpr (ih h).1) hy
      | false => exact ih h

-- the block of a comprehension: its own names, and those that it has of the frame around it
inductive CompE (sc : Kinds) (scope : Scope) (tgt : Expr) (env : Env) (ρ : Vars) (H : PHeap) (as : List Addr) (s : Shared) (cenv : Env) (s' : Shared) : Prop
  | intro (Y : List Addr) (eo : EnvOk (relab sc scope.names) cenv) (tok : tgtOk (relab sc scope.names) tgt) (l : Loc H as cenv (capt scope.names ρ) s') (keep : ∀ b o, s.heap.get? b = some o → s'.heap.get? b = some o)
      (hY : ∀ a ∈ Y, s.heap.get? a = none) (hYt : TgtIn cenv Y tgt) (hslot : ∀ a ∈ slots cenv, a ∈ Y ∨ a ∈ slots env) (hLY : cenv.locals ∈ Y)
theorem comp_clos {sc : Kinds} {env : Env} {scope : Scope} {tgt : Expr} (ok : CompOk sc scope tgt) (eo : EnvOk sc env) : closureFor scope env = pure (closL env.cells scope.names []) :=
  closureFor_eq fun x hx => by obtain ⟨c, hc⟩ := eo.cellsOk x (ok.free _ hx rfl); rw [hc]; rfl
theorem comp_env {C : Cx} {sc : Kinds} {ρ : Vars} {O : List Ob} {H as s env} {scope : Scope} {tgt : Expr} (ok : CompOk sc scope tgt) (eo : EnvOk sc env) (M : Mem C A H as O s) (l : Loc H as env ρ s) :
    CompE sc scope tgt env ρ H as s (compEnv' (relabel scope env) (cellsFrom (s.heap.objs.size + 1) scope.names (closL env.cells scope.names [])) s.heap.objs.size env) { s with heap := pushCells (s.heap.push { cls := .type "dict", data := .dict #[] }) scope.names } := by
  have hfree : ∀ x, (x, NameKind.free) ∈ scope.names → ∃ c, env.cells.lookup x = some c := fun x hx => eo.cellsOk x (ok.free _ hx rfl)
  let L := s.heap.objs.size
  let cells := cellsFrom (L + 1) scope.names (closL env.cells scope.names [])
  let cenv := compEnv' (relabel scope env) cells L env
  let s' : Shared := { s with heap := pushCells (s.heap.push { cls := .type "dict", data := .dict #[] }) scope.names }
  have hkeep : ∀ b o, s.heap.get? b = some o → s'.heap.get? b = some o := fun b o e => pushCells_keeps _ _ b o (Heap.get?_push_of_some _ e)
  have hok := cellsFrom_ok scope.names (s.heap.push { cls := .type "dict", data := .dict #[] }) (L + 1) [] ⟨fun _ _ hm => (nomatch hm), List.Pairwise.nil⟩ (by rw [Heap.size_push]; exact Nat.le_refl _)
  rw [Heap.size_push] at hok
  have hcells : cells = cellsFrom (L + 1) scope.names [] ++ closL env.cells scope.names [] := cellsFrom_acc _ _ _
  have hcl : ∀ x c, (x, c) ∈ closL env.cells scope.names [] → (x, NameKind.free) ∈ scope.names ∧ env.cells.lookup x = some c := fun x c h => by
    rcases closL_mem _ _ h with h | ⟨h, e⟩
    · cases h
    · obtain ⟨c', hc'⟩ := hfree x h
      rw [hc'] at e
      exact ⟨h, by rw [hc', e]; rfl⟩
  have hown : ∀ x c, (x, c) ∈ cellsFrom (L + 1) scope.names [] → s'.heap.IsCell c none ∧ L + 1 ≤ c := fun x c h => hok.empty x c h
  have hfreshGe : ∀ a, L ≤ a → s.heap.get? a = none := fun a ha => by
    cases q : s.heap.get? a with
    | none => rfl
    | some o => exact absurd (Heap.lt_size q) (Nat.not_lt.mpr ha)
  have hLns : s'.heap.Ns L fun _ => none := (Heap.Ns.new s.heap (.type "dict")).keeps (pushCells_keeps _ _)
  have hLL : Live s'.heap L := let ⟨o, _, _, e, _⟩ := hLns; ⟨o, e⟩
  have asFresh : ∀ a, L ≤ a → a ∉ as ∧ H a = none := fun a ha => ⟨fun hm => (M.live a hm).not_none (hfreshGe a ha), M.fresh_none (hfreshGe a ha)⟩
  have names2 : cenv.scope.names = relab sc scope.names := by
    show (relabel scope env).names = _
    unfold relabel relab
    refine List.map_congr_left fun p hp => ?_
    obtain ⟨x, k⟩ := p
    show (if (k == NameKind.free && env.scope.kind == ScopeKind.function && env.kindOf x == some NameKind.cell) = true then _ else _) = _
    have : env.kindOf x = sc.lookup x := by unfold Env.kindOf; rw [eo.names]
    rw [this, eo.kind]
    simp
  have lk : ∀ x, cenv.kindOf x = (relab sc scope.names).lookup x := fun x => by unfold Env.kindOf; rw [names2]
  have l' := l.ext (h' := s'.heap) (tk := s.toks) hkeep
  have slotsMem : ∀ a ∈ slots cenv, a = L ∨ (∃ x, (x, a) ∈ cellsFrom (L + 1) scope.names []) ∨ (∃ x, (x, a) ∈ closL env.cells scope.names []) := fun a ha => by
    rcases List.mem_cons.mp ha with h | h
    · exact .inl h
    · obtain ⟨p, hp, rfl⟩ := List.mem_map.mp h
      have hp : p ∈ cells := hp
      rw [hcells] at hp
      rcases List.mem_append.mp hp with hp | hp
      · exact .inr (.inl ⟨p.1, hp⟩)
      · exact .inr (.inr ⟨p.1, hp⟩)
  have clSlot : ∀ x c, (x, c) ∈ closL env.cells scope.names [] → c ∈ slots env := fun x c h => List.mem_cons_of_mem _ (List.mem_map_of_mem (f := (·.2)) (mem_of_lookup (hcl x c h).2))
  have clCell : ∀ x c, (x, c) ∈ closL env.cells scope.names [] → ∃ v, s'.heap.IsCell c v := fun x c h => l'.cell x c (mem_of_lookup (hcl x c h).2)
  have clLt : ∀ x c, (x, c) ∈ closL env.cells scope.names [] → c < L := fun x c h => by
    obtain ⟨_, _, o, e⟩ := l.off c (clSlot x c h)
    exact Heap.lt_size e
  -- where a captured name's cell lies
  have lkFree : ∀ x, (x, NameKind.free) ∈ scope.names → cells.lookup x = env.cells.lookup x := fun x hx => by
    rw [hcells, lookup_append, lookup_none_of (l := cellsFrom (L + 1) scope.names []) fun c hc => by
      have h1 := lookup_nodup ok.nodup (cellsFrom_kind _ _ hc)
      rw [lookup_nodup ok.nodup hx] at h1; cases h1]
    obtain ⟨c, hc⟩ := closL_has (cells := env.cells) scope.names [] hx
    have hnd : ((closL env.cells scope.names []).map (·.1)).Nodup := closL_nodup _ _ (by simpa using ok.nodup)
    rw [lookup_nodup hnd hc, (hcl x c hc).2]; rfl
  have lkOwn : ∀ x, (x, NameKind.cell) ∈ scope.names → ∃ c, cells.lookup x = some c ∧ (x, c) ∈ cellsFrom (L + 1) scope.names [] := fun x hx => by
    obtain ⟨c, hc⟩ := cellsFrom_has scope.names (L + 1) hx
    rw [hcells, lookup_append]
    cases q : (cellsFrom (L + 1) scope.names []).lookup x with
    | some c' => exact ⟨c', rfl, mem_of_lookup q⟩
    | none =>
      exfalso
      have : ∀ {l : List (Str × Addr)}, (x, c) ∈ l → l.lookup x ≠ none := fun {l} h => by
        induction l with
        | nil => cases h
        | cons p r ih =>
          obtain ⟨y, j⟩ := p
          rw [List.lookup_cons]
          rcases List.mem_cons.mp h with e | h
          · cases e; rw [beq_self_eq_true]; simp
          · cases hb : x == y with
            | true => simp
            | false => exact ih h
      exact this hc q
  have hEnv : EnvOk (relab sc scope.names) cenv := ⟨names2, ok.kind, eo.globals, eo.builtins, fun x hx => by
    rw [relab_lookup] at hx
    obtain ⟨k, hk, e⟩ := Option.map_eq_some_iff.mp hx
    have hm := mem_of_lookup hk
    by_cases q : k = .free
    · subst q
      obtain ⟨c, hc⟩ := hfree x hm
      exact ⟨c, by show cells.lookup x = _; rw [lkFree x hm]; exact hc⟩
    · have q' : (k == NameKind.free) = false := by simpa using q
      rw [q', Bool.false_and] at e
      simp at e
      subst e
      obtain ⟨c, hc, _⟩ := lkOwn x hm
      exact ⟨c, hc⟩⟩
  have nameUp : ∀ x, nameOk scope.names x → nameOk (relab sc scope.names) x := fun x h => by
    unfold nameOk
    rw [relab_lookup]
    rcases h with h | h
    · rw [h]; exact .inl rfl
    · rw [h]; exact .inr rfl
  let Y : List Addr := L :: (cellsFrom (L + 1) scope.names []).map (·.2)
  have hY : ∀ a ∈ Y, L ≤ a := fun a ha => by
    rcases List.mem_cons.mp ha with h | h
    · exact Nat.le_of_eq h.symm
    · obtain ⟨p, hp, rfl⟩ := List.mem_map.mp h
      exact Nat.le_of_succ_le (hown p.1 p.2 hp).2
  have slotY : ∀ x, nameOk scope.names x → SlotIn cenv x Y := fun x h => by
    refine ⟨fun _ => List.mem_cons_self .., fun c hk hc => ?_⟩
    rw [lk, relab_lookup] at hk
    rcases h with h | h
    · rw [h] at hk; cases hk
    · obtain ⟨c', hc', hm⟩ := lkOwn x (mem_of_lookup h)
      have : cells.lookup x = some c := hc
      rw [hc'] at this; cases this
      exact List.mem_cons_of_mem _ (List.mem_map_of_mem (f := (·.2)) hm)
  refine ⟨Y, hEnv, ?_, ⟨fun a ha => ?_, ?_, fun x c hc => ?_, ⟨_, hLns, fun x d hx hk => ?_⟩, fun x c hc => ?_, fun x d hx hk => ?_⟩, hkeep, fun a ha => hfreshGe a (hY a ha), ?_, fun a ha => ?_, List.mem_cons_self ..⟩
  · cases ok.tgt with
    | name h => exact .name (nameUp _ h)
    | pair h1 h2 => exact .pair (nameUp _ h1) (nameUp _ h2)
  · rcases slotsMem a ha with rfl | ⟨x, h⟩ | ⟨x, h⟩
    · exact ⟨(asFresh _ (Nat.le_refl _)).1, (asFresh _ (Nat.le_refl _)).2, hLL⟩
    · obtain ⟨⟨o, e, _⟩, hle⟩ := hown x a h
      exact ⟨(asFresh _ (Nat.le_of_succ_le hle)).1, (asFresh _ (Nat.le_of_succ_le hle)).2, o, e⟩
    · exact l'.off a (clSlot x a h)
  · show cells.Pairwise _
    rw [hcells]
    refine List.pairwise_append.mpr ⟨hok.apart, ?_, fun p hp q hq => ?_⟩
    · have hnd : ((closL env.cells scope.names []).map (·.1)).Nodup := closL_nodup _ _ (by simpa using ok.nodup)
      rw [List.nodup_iff_pairwise_ne, List.pairwise_map] at hnd
      refine List.Pairwise.imp_of_mem (fun {p q} hp hq hne => ?_) hnd
      intro e
      exact hne (name_of_addr l.apart (mem_of_lookup (hcl p.1 p.2 hp).2) (e ▸ mem_of_lookup (hcl q.1 q.2 hq).2))
    · have h1 := (hown p.1 p.2 hp).2
      have h2 := clLt q.1 q.2 hq
      exact Nat.ne_of_gt (Nat.lt_trans h2 h1)
  · have hc : (x, c) ∈ cells := hc
    rw [hcells] at hc
    show c ≠ L
    rcases List.mem_append.mp hc with h | h
    · exact Nat.ne_of_gt (hown x c h).2
    · exact Nat.ne_of_lt (clLt x c h)
  · obtain ⟨h1, _⟩ := capt_lookup hx
    rw [lk, relab_lookup, h1] at hk
    have := ok.free _ (mem_of_lookup h1) rfl
    simp [this] at hk
  · have hc : (x, c) ∈ cells := hc
    rw [hcells] at hc
    rcases List.mem_append.mp hc with h | h
    · exact ⟨_, (hown x c h).1⟩
    · exact clCell x c h
  · obtain ⟨h1, h2⟩ := capt_lookup hx
    have hm := mem_of_lookup h1
    have hkc : env.kindOf x = some .cell := by unfold Env.kindOf; rw [eo.names]; exact ok.free _ hm rfl
    obtain ⟨v, c, hv, e, ic⟩ := l'.cells x d h2 hkc
    exact ⟨v, c, hv, (lkFree x hm).trans e, ic⟩
  · cases ok.tgt with
    | name h => exact .name (slotY _ h)
    | pair h1 h2 => exact .pair (slotY _ h1) (slotY _ h2)
  · rcases slotsMem a ha with rfl | ⟨x, h⟩ | ⟨x, h⟩
    · exact .inl (List.mem_cons_self ..)
    · exact .inl (List.mem_cons_of_mem _ (List.mem_map_of_mem (f := (·.2)) h))
    · exact .inr (clSlot x a h)

end Mine
end

section
set_option Elab.async false
set_option maxRecDepth 100000
set_option linter.unusedVariables false
namespace Mine
open PySem PySem.W PyProof.Rows PySem.Calls

noncomputable def TestsP (C : Cx) (n : Nat) (sc : Kinds) (ρ : Vars) (O : List Ob) : List Expr → (Bool → Prop) → Prop
  | [], K => K true
  | [c], K => WPb C n sc ρ O c fun b O' => O' = O ∧ K b
  | _, _ => False

inductive EltP (O O' : List Ob) (d : D) (P : T → Prop) : Prop
  | intro (e : O' = O) (t' : T) (e2 : d = .val t') (h : P t')
inductive CompI (O : List Ob) (d : D) (P : List T → Prop) : Prop
  | intro (ts : List T) (h : itemsD O d = some ts) (l : ts.length ≤ sizeLine) (k : P ts)
noncomputable def CompP (C : Cx) (n : Nat) (sc : Kinds) (tgt : Expr) (ifs : List Expr) (elt : Expr) (ρ : Vars) (O : List Ob) (Φ : D → List Ob → Prop) : List T → List T → Prop
  | [], acc => Φ (.val (.list acc)) O
  | t :: ts, acc => BindP tgt t ρ fun ρ₁ => TestsP C n sc ρ₁ O ifs fun b =>
      if b = true then WPe C n sc ρ₁ O elt fun d O' => EltP O O' d fun t' => CompP C n sc tgt ifs elt ρ O Φ ts (acc ++ [t'])
      else CompP C n sc tgt ifs elt ρ O Φ ts acc

section
variable {C : Cx} {n : Nat} {sc : Kinds} {ρ : Vars} {O : List Ob}

theorem tests_ {A env H as s E ifs K} {Q : Bool → Shared → Prop} (rm : Room n A) (eo : EnvOk sc env) (M : Mem C A H as O s) (l : Loc H as env ρ s) (h : TestsP C n sc ρ O ifs K)
    (hq : ∀ b H' s', K b → Mem C A H' as O s' → Rel [] H as s H' as s' → Q b s') :
    wpC (model C.prog C.w) A (forIn ifs true fun c r => if r = true then do let ok ← isTrue c env (eval c env); pure (ForInStep.yield ok) else pure (ForInStep.yield r)) Q E s := by
  unfold TestsP at h
  split at h
  · rw [List.forIn_nil]
    exact wpC_pure (hq true H s h M Rel.refl)
  · rw [List.forIn_cons]
    simp only [if_true]
    refine wpC_bind (wpC_bind (wpC_mono (h A env H as s E rm eo M l) (fun b s' qq => qq.out fun O' H' as' ⟨hO, hK⟩ M' R' => ?_) fun _ _ x => x))
    refine wpC_pure ?_
    simp only [List.forIn_nil]
    subst hO
    have hlen : as' = as := by
      obtain ⟨more, rfl, _⟩ := R'.ext
      have h1 := M.len
      have h2 := M'.len
      have : more.length = 0 := by rw [List.length_append] at h2; (first | exact Nat.add_left_cancel (k := 0) (h2.trans h1.symm) | lia)
      rw [List.length_eq_zero_iff.mp this, List.append_nil]
    subst hlen
    exact wpC_pure (hq b H' s' hK M' R')
  · exact h.elim

theorem same_as {H as s H' as' s' X} (M : Mem C A H as O s) (M' : Mem C A H' as' O s') (R : Rel X H as s H' as' s') : as' = as := by
  obtain ⟨more, rfl, _⟩ := R.ext
  have h1 := M.len
  have h2 := M'.len
  have : more.length = 0 := by rw [List.length_append] at h2; (first | exact Nat.add_left_cancel (k := 0) (h2.trans h1.symm) | lia)
  rw [List.length_eq_zero_iff.mp this, List.append_nil]

inductive CompS (C : Cx) (A : Around) (n : Nat) (sc : Kinds) (tgt : Expr) (ifs : List Expr) (elt : Expr) (ρ : Vars) (O : List Ob) (Φ : D → List Ob → Prop) (env : Env) (H : PHeap) (as : List Addr) (s : Shared) (as₁ : List Addr) (I Da : Addr) (m : Nat) (s' : Shared) : Prop
  | intro (ts acc : List T) (H' : PHeap) (vs : Array Value) (k : Nat) (e : ts.length = m) (hF : CompP C n sc tgt ifs elt ρ O Φ ts acc) (M : Mem C A H' as₁ O s') (l : Loc H' as₁ env ρ s') (hit : ItAt H' as₁ O s'.heap I ts) (I2 : H' I = none) (D2 : H' Da = none)
      (a : s'.heap.get? Da = some (listO vs k)) (den : DenL H' acc vs.toList) (hsz : acc.length + ts.length ≤ sizeLine) (R : Rel [] H as s H' as₁ s')
inductive CompD (C : Cx) (A : Around) (ρ : Vars) (O : List Ob) (Φ : D → List Ob → Prop) (env : Env) (H : PHeap) (as : List Addr) (s : Shared) (as₁ : List Addr) (Da : Addr) (s' : Shared) : Prop
  | intro (acc' : List T) (H' : PHeap) (vs' : Array Value) (k' : Nat) (h : Φ (.val (.list acc')) O) (M : Mem C A H' as₁ O s') (l : Loc H' as₁ env ρ s') (R : Rel [] H as s H' as₁ s') (a : s'.heap.get? Da = some (listO vs' k')) (den : DenL H' acc' vs'.toList) (D2 : H' Da = none) (D1 : Da ∉ as₁)
theorem Rel.own {Y H as s H' as' s' X} (R : Rel [] H as s H' as' s') (hX : ∀ a ∈ X, s.heap.get? a = none) {H₂ as₂ s₂} (R₂ : Rel X H' as' s' H₂ as₂ s₂) : Rel Y H as s H₂ as₂ s₂ := by
  have q := (R.weaken (Y := X) (by simp)).trans R₂
  exact ⟨q.mono, q.fresh, fun a o e _ ha => q.keep a o e (fun hy => by rw [hX a hy] at e; cases e) ha, q.alive, q.ext⟩
theorem EltP.out {H as s H' as' s' d v K X O'} {P : Prop} (h : EltP O O' d K) (M : Mem C A H as O s) (M' : Mem C A H' as' O' s') (D' : DenD H' as' d v) (R : Rel X H as s H' as' s')
    (k : ∀ t', K t' → Mem C A H' as O s' → Den H' t' v → Rel X H as s H' as s' → P) : P := by
  obtain ⟨rfl, t', rfl, hP⟩ := h
  obtain rfl := same_as M M' R
  exact k t' hP M' D' R
theorem Kept.list {h : Heap} {a : Addr} {vs k} (x : Kept h a (listO vs k)) : h.get? a = some (listO vs k) := x.exact fun _ _ q => by cases q
theorem comp_code {A env H as as₁ s tgt ifs elt iter scope pos I Da Y H₁ s₁ ts acc vs k} {Φ : D → List Ob → Prop} (rm : Room n A) (h0n : 0 < n) (eo : EnvOk sc env) (hk : tgtOk sc tgt) (hF : CompP C n sc tgt ifs elt ρ O Φ ts acc)
    (M : Mem C A H₁ as₁ O s₁) (l : Loc H₁ as₁ env ρ s₁) (hit : ItAt H₁ as₁ O s₁.heap I ts) (hI : s.heap.get? I = none) (hD : s.heap.get? Da = none) (hY : ∀ a ∈ Y, s.heap.get? a = none) (hYt : TgtIn env Y tgt)
    (hne : I ≠ Da) (I1 : I ∉ as₁) (I2 : H₁ I = none) (I3 : I ∉ slots env) (D1 : Da ∉ as₁) (D2 : H₁ Da = none) (D3 : Da ∉ slots env)
    (hacc : s₁.heap.get? Da = some (listO vs k)) (hden : DenL H₁ acc vs.toList) (hsz : acc.length + ts.length ≤ sizeLine)
    (R : Rel [] H as s H₁ as₁ s₁) (hIY : I ∉ Y) (hDY : Da ∉ Y) (hρ : ∀ t ρ₁, BindR tgt t ρ ρ₁ → Sub ρ ρ₁) :
    codeC (model C.prog C.w) A (.compLoop (.ListComp elt [⟨tgt, iter, ifs, 0⟩] scope pos) 0 (.ref I) (.ref Da) env)
      (fun r s' => match r with | .ok f => CompD C A ρ O Φ env H as s as₁ Da s' | .error e => False) s₁ := by
  refine compLoop_ (CompS C A n sc tgt ifs elt ρ O Φ env H as s as₁ I Da) (fun m s' E hq => ?_) ts.length ⟨ts, acc, H₁, vs, k, rfl, hF, M, l, hit, I2, D2, hacc, hden, hsz, R⟩
  clear hF M l hit I2 D2 hacc hden hsz R
  obtain ⟨ts, acc, H', vs, k, em, hF, M, l, hit, I2, D2, hacc, hden, hsz, R⟩ := hq
  cases ts with
  | nil =>
    exact ItAt.end rm h0n M hit fun h' hs => ⟨acc, H', vs, k, hF, M.touch I2 I1 hs hit.nd, l.touch I3 hs, R.touch hI hs, hs Da _ (Ne.symm hne) hacc, hden, D2, D1⟩
  | cons t ts =>
    have em : ts.length < m := em ▸ Nat.lt_succ_self _
    refine ItAt.next rm M I1 I2 hit fun v h' tk hv hit' hs => letOwned_it (C := C) (s := { s' with heap := h', toks := tk }) hk hit' ?_
    have M1 := M.touch (tk := tk) I2 I1 hs.extBut hit.nd
    have l1 := l.touch (tk := tk) I3 hs.extBut
    have R1 := R.touch (tk := tk) hI hs.extBut
    have a1 : ({ s' with heap := h', toks := tk } : Shared).heap.get? Da = some (listO vs k) := hs.extBut Da _ (Ne.symm hne) hacc
    have hit' : ItAt H' as₁ O ({ s' with heap := h', toks := tk } : Shared).heap I ts := hit'
    clear M l R hacc hs hit
    generalize ({ s' with heap := h', toks := tk } : Shared) = s₀ at M1 l1 R1 a1 hit' ⊢
    refine hF.casesOn fun ρ₁ hb hw => assign_ rm h0n eo M1 l1 hv hk hb fun s2 M2 l2 R2 => ?_
    have R2 := R2 _ hYt
    have hit2 : ItAt H' as₁ O s2.heap I ts := hit'.rel (s := s₀) R2 I1 hIY
    have a2 := (R2.keep _ _ a1 hDY D1).list
    refine tests_ rm eo M2 l2 hw fun b H3 s3 hK M3 R3 => ?_
    have l3 := l2.rel R3
    have hit3 := hit2.rel R3 I1 List.not_mem_nil
    have a3 := (R3.keep _ _ a2 List.not_mem_nil D1).list
    have offI := R3.off hit2.live I1 I2
    have offD := R3.off ⟨_, a2⟩ D1 D2
    have RR3 : Rel [] H as s H3 as₁ s3 := (R1.own hY R2).trans R3
    have den3 := DenL.mono R3.mono _ _ hden
    clear R1 R2 R3 M1 l1 a1 M2 l2 a2 hit' hit2 hw hden hv hF
    cases b with
    | false => exact ⟨ts.length, em, ts, acc, H3, vs, k, rfl, hK, M3, l3.sub (hρ _ _ hb), hit3, offI.2, offD.2, a3, den3, by simp at hsz; (exact Nat.le_of_succ_le hsz), RR3⟩
    | true =>
      refine wpC_mono (WPe.run hK rm eo M3 l3) (fun v4 s4 qq => qq.out fun d O' H4 as4 hq M4 D4 R4 => hq.out M3 M4 D4 R4 fun t' hP M4 D4 R4 => ?_) fun _ _ x => x
      have a4 := (R4.keep _ _ a3 List.not_mem_nil D1).list
      have offI4 := R4.off hit3.live I1 offI.2
      have offD4 := R4.off ⟨_, a3⟩ D1 offD.2
      have den4 := DenL.mono R4.mono _ _ den3
      refine wpAny_list_append_plain (items := vs) ⟨k, a4⟩ (fun h5 ⟨k5, g5⟩ hs5 => ⟨ts.length, em, ts, acc ++ [t'], H4, vs.push v4, k5, rfl, hP, M4.touch (tk := s4.toks) offD4.2 D1 hs5.extBut (fun o es n e q => by rw [a4] at e; cases e; cases q),
        (l3.rel R4).touch (tk := s4.toks) D3 hs5.extBut |>.sub (hρ _ _ hb), (hit3.rel R4 I1 List.not_mem_nil).keep (fun o e => hs5.extBut I o hne e), offI4.2, offD4.2, g5, by rw [Array.toList_push]; exact den4.append (.cons D4 .nil), by simp at hsz ⊢; (first | exact z18 hsz | lia), (RR3.trans R4).touch (tk := s4.toks) hD hs5.extBut⟩)
        (by rw [← Array.length_toList, den4.length]; simp at hsz; (first | exact Nat.le_of_add_right_le hsz | lia))

theorem capt_tgt {sc : Kinds} {scope : Scope} {tgt : Expr} (ok : CompOk sc scope tgt) {ρ : Vars} : ∀ t ρ₁, BindR tgt t (capt scope.names ρ) ρ₁ → Sub (capt scope.names ρ) ρ₁ := fun t ρ₁ hb x d hx => by
  obtain ⟨h1, _⟩ := capt_lookup hx
  have hne : ∀ y, nameOk scope.names y → x ≠ y := fun y hy e => by
    subst e
    rcases hy with h | h <;> rw [h1] at h <;> cases h
  have hk := ok.tgt
  cases hb with
  | @name y p =>
    cases hk with | name hk =>
    rw [lookup_cons_ne (hne y hk)]; exact hx
  | @pair a pa b pb k p t1 t2 =>
    cases hk with | pair h1 h2 =>
    rw [lookup_cons_ne (hne b h2), lookup_cons_ne (hne a h1)]; exact hx

theorem itself_ {A H as s E I ts} {Q : Value → Shared → Prop} (M : Mem C A H as O s) (x : ItAt H as O s.heap I ts) (h : Q (.ref I) s) : wpAny (model C.prog C.w) A (pyIter (.ref I)) Q E s := by
  cases x with
  | list a b c => exact wpAny_pyIter_listiter a h
  | own a b c => exact wpAny_pyIter_listiter a h
  | range a => exact wpAny_pyIter_rangeiter a h

theorem put_mono' {H : PHeap} {a : Addr} {o : Obj} (h : H a = none) : ∀ b o', H b = some o' → H.put a o b = some o' := fun b o' e => by
  unfold PHeap.put
  split
  · rename_i q; subst q; rw [h] at e; cases e
  · exact e
theorem Mem.lay {H as s a o} (M : Mem C A H as O s) (h1 : H a = none) (h2 : a ∉ as) (h3 : s.heap.get? a = some o) (hd : ∀ es n, o.data ≠ .dict es n) : Mem C A (H.put a o) as O s := by
  have hm := put_mono' (o := o) h1
  refine ⟨fun b o' e => hm _ _ (M.base b o' e), fun b o' e => ?_, M.len, M.nodup, fun j b ob' hb ho => ?_, M.live, M.os, M.gens, ?_⟩
  rotate_right
  · obtain ⟨l, e, f⟩ := M.stk
    refine ⟨l, e, fun env he => ?_⟩
    obtain ⟨k, L, q1, q2, q3, o', es, n, q4, q5⟩ := f env he
    have hne : L ≠ a := fun q => by subst q; rw [h3] at q4; cases q4; exact hd _ _ q5
    exact ⟨k, L, q1, q2, by unfold PHeap.put; rw [if_neg hne]; exact q3, o', es, n, q4, q5⟩
  · unfold PHeap.put at e
    split at e
    · rename_i q; subst q; cases e; exact h3
    · exact M.sat _ _ e
  · have h := M.obs j b ob' hb ho
    have hne : b ≠ a := fun q => h2 (q ▸ List.mem_of_getElem? hb)
    have hn : H b = none → H.put a o b = none := fun e => by unfold PHeap.put; rw [if_neg hne]; exact e
    cases ob' with
    | gone => trivial
    | list ts => obtain ⟨h0, vs, k, h1, h2⟩ := h; exact ⟨hn h0, vs, k, h1, DenL.mono hm _ _ h2⟩
    | dict ks ts => obtain ⟨h0, es, k, h1, hk, h2⟩ := h; exact ⟨hn h0, es, k, h1, hk, DenL.mono hm _ _ h2⟩
theorem Rel.lay {X H as s H' as' s' a o} (r : Rel X H as s H' as' s') (h1 : H' a = none) (h2 : s.heap.get? a = none) : Rel X H as s (H'.put a o) as' s' :=
  ⟨fun b o' e => put_mono' h1 _ _ (r.mono b o' e), fun b o' e => by
    unfold PHeap.put at e
    split at e
    · rename_i q; subst q; exact .inr (.inl h2)
    · exact r.fresh _ _ e, r.keep, r.alive, r.ext⟩

theorem comp_all {A env H as s E tgt iter ifs elt scope pos use Q} {Φ : D → List Ob → Prop} (ok : CompOk sc scope tgt) (rm : Room n A) (h0n : 0 < n) (eo : EnvOk sc env) (M : Mem C A H as O s) (l : Loc H as env ρ s)
    (h : WPe C n sc ρ O iter fun d O' => CompI O' d fun ts => CompP C n (relab sc scope.names) tgt ifs elt (capt scope.names ρ) O' Φ ts [])
    (hs : ∀ x, foldedSetIterable iter env x = pure x)
    (hQ : ∀ acc O' H' as' s' Da Lc f, Φ (.val (.list acc)) O' → Mem C A H' as' O' s' → Den H' (.list acc) (.ref Da) → Rel [] H as s H' as' s' → (∃ m, s'.heap.Ns Lc m) → s.heap.get? Lc = none → H' Lc = none → Lc ∉ as' → Lc ∉ slots env → Loc H' as' env ρ s' →
      compPost (model C.prog C.w) A E use Q (.ref Da) Lc (.ok f) s') :
    wpC (model C.prog C.w) A (comprehension (.ListComp elt [⟨tgt, iter, ifs, 0⟩] scope pos) scope env iter.pos (newList []) false (eval iter env) use) Q E s := by
  have hnames : ∀ x ∈ scope.names, x.2 = .local → scope.names.lookup x.1 = some .local := fun x hx e => by
    obtain ⟨y, k⟩ := x
    dsimp only at e; subst e
    exact lookup_nodup ok.nodup hx
  refine wpC_comprehension (g := ⟨tgt, iter, ifs, 0⟩) (gs := []) rfl hs (comp_clos ok eo) ok.kind hnames (wpC_mono (h A env H as s E rm eo M l) (fun v s₁ qq => qq.out fun d O₁ H₁ as₁ hq M₁ D₁ R₁ => ?_) fun _ _ x => x)
  obtain ⟨ts, hi, hsz, hF⟩ := hq
  have l₁ := l.rel R₁
  refine iter_ rm M₁ hi D₁ fun I s₂ hI M₂ R₂ hk₂ h1 h2 hl hit _ => ?_
  have l₂ := l₁.rel R₂
  refine wpAny_newObj_type ?_ (by show ([] : List Value).toArray.size ≤ sizeLine; simp)
  have hDn := get?_size s₂.heap
  obtain ⟨M₃, R₃⟩ := M₂.same (s' := { s₂ with heap := s₂.heap.push (listO #[] 0) }) (fun b o e => Heap.get?_push_of_some _ e) rfl rfl
  have R₃ := R₃ []
  have l₃ := l₂.rel R₃
  have hit₃ := hit.rel R₃ h1 (by simp)
  obtain ⟨Y, eo', tok', loc', hkeep, hY, hYt, hslot, hLY⟩ := comp_env ok eo M₃ l₃
  refine newCompEnv (env := env) ?_
  have RR₃ := (R₁.trans R₂).trans R₃
  obtain ⟨M₄, R₄⟩ := M₃.same (s' := { s₂ with heap := pushCells ((s₂.heap.push (listO #[] 0)).push { cls := .type "dict", data := .dict #[] }) scope.names }) hkeep rfl rfl
  have R₄ := R₄ []
  have hsI : s.heap.get? I = none := R₁.back hI
  have hsD : s.heap.get? s₂.heap.objs.size = none := R₁.back (R₂.back hDn)
  have hsY : ∀ a ∈ Y, s.heap.get? a = none := fun a ha => RR₃.back (hY a ha)
  have hID : I ≠ s₂.heap.objs.size := by obtain ⟨o, e⟩ := hl; exact Nat.ne_of_lt (Heap.lt_size e)
  have live3 : ∀ a, Live s₂.heap a → ∀ b ∈ Y, a ≠ b := fun a ⟨o, e⟩ b hb q => by
    subst q
    have := hY a hb
    rw [Heap.get?_push_of_some _ e] at this; cases this
  have D3live : ({ s₂ with heap := s₂.heap.push (listO #[] 0) } : Shared).heap.get? s₂.heap.objs.size = some (listO #[] 0) := Heap.get?_push_size _ rfl
  have hDY : s₂.heap.objs.size ∉ Y := fun hm => by have := hY _ hm; rw [D3live] at this; cases this
  have hIY : I ∉ Y := fun hm => live3 I hl I hm rfl
  have notSlot : ∀ a, a ∉ Y → s.heap.get? a = none → ∀ q : a ∈ slots (compEnv' (relabel scope env) (cellsFrom ((s₂.heap.push (listO #[] 0)).objs.size + 1) scope.names (closL env.cells scope.names [])) (s₂.heap.push (listO #[] 0)).objs.size env), False := fun a hnY hn q => by
    rcases hslot a q with h | h
    · exact hnY h
    · obtain ⟨_, _, o, e⟩ := l.off a h
      rw [hn] at e; cases e
  have D1 : s₂.heap.objs.size ∉ as₁ := fun hm => (M₂.live _ hm).not_none hDn
  have D2 : H₁ s₂.heap.objs.size = none := M₂.fresh_none hDn
  have hLc : s.heap.get? (s₂.heap.push (listO #[] 0)).objs.size = none := RR₃.back (get?_size _)
  have loop := comp_code (C := C) (s := s) (H := H) (as := as) (tgt := tgt) (ifs := ifs) (elt := elt) (iter := iter) (scope := scope) (pos := pos) (I := I) (Da := s₂.heap.objs.size) (Y := Y) (ts := ts) (acc := []) (vs := #[]) (k := 0) (Φ := Φ)
    rm h0n eo' tok' hF M₄ loc' (hit₃.rel R₄ h1 (by simp)) hsI hsD hsY hYt hID h1 h2 (notSlot I hIY hsI) D1 D2 (notSlot _ hDY hsD) (hkeep _ _ D3live) .nil (by simpa using hsz) (RR₃.trans R₄) hIY hDY (capt_tgt ok)
  have done := codeC_mono (R' := fun r s' => compPostC (model C.prog C.w) A E use Q (.ref s₂.heap.objs.size) (s₂.heap.push (listO #[] 0)).objs.size r s') loop fun r s' hr => by
    cases r with
    | error e => exact hr.elim
    | ok f =>
      obtain ⟨acc', H', vs', k', hΦ, M', L', R', g', den', hn', hna'⟩ := hr
      have M'' := M'.lay hn' hna' g' (by intro _ _ q; cases q)
      have R'' := R'.lay (o := listO vs' k') hn' hsD
      have hLoff := L'.off _ (List.mem_cons_self ..)
      have hLne : (s₂.heap.push (listO #[] 0)).objs.size ≠ s₂.heap.objs.size := by rw [Heap.size_push]; exact Nat.ne_of_gt (Nat.lt_succ_self _)
      refine hQ acc' O₁ _ as₁ s' _ _ f hΦ M'' ?_ R'' ⟨_, L'.ns.choose_spec.1⟩ hLc ?_ hLoff.1 (fun hm => ?_) (l.rel R'')
      · unfold Den
        exact ⟨_, vs', k', rfl, PHeap.put_self, DenL.mono (put_mono' hn') _ _ den'⟩
      · unfold PHeap.put
        rw [if_neg hLne]; exact hLoff.2.1
      · obtain ⟨_, _, o, e⟩ := l.off _ hm
        rw [hLc] at e; cases e
  exact codeC_compStart_list done (itself_ M₄ (hit₃.rel R₄ h1 (by simp)) done)

theorem WPe_ListComp {tgt iter ifs elt scope pos} {Φ : D → List Ob → Prop} (ok : CompOk sc scope tgt)
    (h : WPe C n sc ρ O iter fun d O' => CompI O' d fun ts => CompP C n (relab sc scope.names) tgt ifs elt (capt scope.names ρ) O' Φ ts [])
    (hs : ∀ (env : Env) x, foldedSetIterable iter env x = pure x) (h0n : 0 < n) :
    WPe C n sc ρ O (.ListComp elt [⟨tgt, iter, ifs, 0⟩] scope pos) Φ := fun A env H as s E rm eo M l => by
  rw [eval_ListComp]
  refine comp_all (Φ := Φ) ok rm h0n eo M l h (hs env) fun acc O' H' as' s' Da Lc f hΦ M' D' R' ⟨m, hn⟩ hL1 hL2 hL3 hL4 _ => ⟨m, hn, fun h'' hs'' => ?_⟩
  exact ⟨_, O', H', as', hΦ, M'.touchA hL2 hL3 hs''.extBut (M.apart_new hL1), D', R'.touch hL1 hs''.extBut⟩

theorem exec_Assign_used {x : Str} {px : Pos} {value : Expr} {pos : Pos} {env : Env} (hs : swapsWith value (some (.Name x px)) pos.line env = pure true) : exec (.Assign [.Name x px] value pos) env = (do
    standAt pos
    evalThenUse value env (assign (.Name x px) env)
    return .next) := exec_Assign_Name_used _ _ _ _ hs

theorem WPx_AssignComp {x px tgt iter ifs elt scope cpos pos} {Ψ : Out → Prop} (ok : CompOk sc scope tgt) (hx : sc.lookup x = some .local)
    (h : WPe C n sc ρ O iter fun d O' => CompI O' d fun ts => CompP C n (relab sc scope.names) tgt ifs elt (capt scope.names ρ) O' (fun d O'' => Ψ (.next ((x, d) :: ρ) O'')) ts [])
    (hsw : ∀ env : Env, EnvOk sc env → swapsWith (.ListComp elt [⟨tgt, iter, ifs, 0⟩] scope cpos) (some (.Name x px)) pos.line env = pure true)
    (hs : ∀ (env : Env) x, foldedSetIterable iter env x = pure x) (h0n : 0 < n) :
    WPx C n sc ρ O (.Assign [.Name x px] (.ListComp elt [⟨tgt, iter, ifs, 0⟩] scope cpos) pos) Ψ := fun A env H as s E rm eo M l => by
  rw [exec_Assign_used (hsw env eo.toEnvOk)]
  refine wpC_bind (wpC_standAt (wpC_bind ?_))
  unfold evalThenUse
  refine wpC_bind ?_
  refine comp_all (Φ := fun d O'' => Ψ (.next ((x, d) :: ρ) O'')) (Q := fun _ s' => wpC (model C.prog C.w) A (pure ()) (fun _ s'' => wpC (model C.prog C.w) A (pure Flow.next) (AfterS C A env H as s Ψ) E s'') E s')
    ok rm h0n eo.toEnvOk M l h (hs env) fun acc O' H' as' s' Da Lc f hΦ M' D' R' ⟨m, hn⟩ hL1 hL2 hL3 hL4 L' => ?_
  show wpAny _ A (assign (.Name x px) env (.ref Da)) _ E s'
  refine wpAny_assign_Name (store_ (d := .val (.list acc)) eo.toEnvOk M' L' D' (.inl hx) fun s2 M2 L2 R2 => ?_)
  have R2 := R2 _ SlotIn.all
  have hne : Lc ≠ env.locals := fun q => hL4 (q ▸ List.mem_cons_self ..)
  have hLc2 : ∃ m, s2.heap.Ns Lc m := by
    exact ⟨m, Kept.ns hn fun o ho => R2.keep _ _ ho hL4 hL3⟩
  obtain ⟨m2, hn2⟩ := hLc2
  refine ⟨m2, hn2, fun h'' hs'' => ?_⟩
  refine wpC_pure (wpC_pure ⟨H', as', ?_, _, O', hΦ, M2.touchA hL2 hL3 hs''.extBut (M.apart_new hL1), L2.touch hL4 hs''.extBut⟩)
  exact (R'.up.trans R2).touch hL1 hs''.extBut
end
end Mine
end

section
set_option Elab.async false
set_option maxRecDepth 100000
set_option linter.unusedVariables false
namespace Mine
open PySem PySem.W PyProof.Rows PySem.Calls

noncomputable def Con (C : Cx) (n : Nat) (fv : Value) (O : List Ob) (ds : List D) (kws : List (Str × D)) (Φ : D → List Ob → Prop) : Prop :=
  ∀ A H as s vs kvs E, Room n A → Mem C A H as O s → DenDs H as ds vs → kvs.map (·.1) = kws.map (·.1) → DenDs H as (kws.map (·.2)) (kvs.map (·.2)) →
    wpC (model C.prog C.w) A (call fv vs kvs) (After C A [] H as s Φ) E s
noncomputable def ConB (C : Cx) (n : Nat) (fv : Value) (O : List Ob) (ds : List D) (kws : List (Str × D)) (Φ : D → List Ob → Prop) : Prop :=
  ∀ A H as s vs kvs E, Room n A → Mem C A H as O s → DenDs H as ds vs → kvs.map (·.1) = kws.map (·.1) → DenDs H as (kws.map (·.2)) (kvs.map (·.2)) →
    wpAny (model C.prog C.w) A (call fv vs kvs) (After C A [] H as s Φ) E s
theorem ConB.con {C n fv O ds kws Φ} (h : ConB C n fv O ds kws Φ) : Con C n fv O ds kws Φ := fun A H as s vs kvs E a b c d e => .of (h A H as s vs kvs E a b c d e)

section
variable {C : Cx} {n : Nat} {O : List Ob} {fv : Value}

theorem Con.mono {ds kws} {Φ Φ' : D → List Ob → Prop} (h : Con C n fv O ds kws Φ) (hi : ∀ d O', Φ d O' → Φ' d O') : Con C n fv O ds kws Φ' := fun A H as s vs kvs E rm M h1 h2 h3 =>
  wpC_mono (h A H as s vs kvs E rm M h1 h2 h3) (fun v s' qq => qq.out fun d O' H' as' h M D R => ⟨d, O', H', as', hi _ _ h, M, D, R⟩) fun _ _ x => x
theorem Con.le {m ds kws} {Φ : D → List Ob → Prop} (h : Con C m fv O ds kws Φ) (hm : m ≤ n) : Con C n fv O ds kws Φ := fun A H as s vs kvs E rm M h1 h2 h3 => h A H as s vs kvs E (rm.le hm) M h1 h2 h3

inductive RetD (O O' : List Ob) (d : D) (P : T → Prop) : Prop
  | intro (t : T) (e : d = .val t) (h : P t) (e2 : O' = O)
theorem Con.ret {ds kws O₁} {P : T → Prop} {Φ : D → List Ob → Prop} (h : Con C n fv O ds kws fun d O' => RetD O₁ O' d P) (k : ∀ t, P t → Φ (.val t) O₁) : Con C n fv O ds kws Φ :=
  h.mono fun d O' ⟨t, e, h, e2⟩ => by rw [e, e2]; exact k t h
theorem Con.retE {ds kws O₁ t₀} {Φ : D → List Ob → Prop} (h : Con C n fv O ds kws fun d O' => RetD O₁ O' d fun t => t = t₀) (k : Φ (.val t₀) O₁) : Con C n fv O ds kws Φ := h.ret fun t e => by rw [e]; exact k
theorem Con.eqE {ds kws O₁ d₁} {Φ : D → List Ob → Prop} (h : Con C n fv O ds kws fun d O' => d = d₁ ∧ O' = O₁) (k : Φ d₁ O₁) : Con C n fv O ds kws Φ := h.mono fun d O' q => by rw [q.1, q.2]; exact k
theorem lek {a b n : Nat} (h : Nat.ble a b = true) : a ≤ n + b := Nat.le_trans (Nat.le_of_ble_eq_true h) (Nat.le_add_left b n)
theorem Mem.part0 {H as s} (M : Mem C A H as O s) : Mem C A H [] [] s := ⟨M.base, M.sat, rfl, List.nodup_nil, fun i a ob h => by simp at h, fun a h => by simp at h, M.os, M.gens, M.stk.turn (fun _ _ _ => by simp) (fun _ _ h _ => h) (fun _ _ _ e => .inl e)⟩
theorem Mem.part1 {H as s a ob} {i : Nat} (M : Mem C A H as O s) (ha : as[i]? = some a) (ho : O[i]? = some ob) : Mem C A H [a] [ob] s :=
  ⟨M.base, M.sat, rfl, by simp, fun j b ob' hb hob => by
    cases j with
    | zero => simp at hb hob; subst hb; subst hob; exact M.obs i _ _ ha ho
    | succ j => simp at hb, fun b hb => by
    have : b = a := by simpa using hb
    subst this; exact M.live _ (List.mem_of_getElem? ha), M.os, M.gens, M.stk.turn (fun L h _ => by
      intro hm
      have : L = a := by simpa using hm
      subst this; exact h (List.mem_of_getElem? ha)) (fun _ _ h _ => h) (fun _ _ _ e => .inl e)⟩
theorem Mem.stk2 {C A H as O s H' as' O' s' more} (M : Mem C A H as O s) (M' : Mem C A H' (as' ++ more) O' s') : Stk A H' (as ++ more) s'.heap := by
  obtain ⟨l, e, f⟩ := M.stk
  obtain ⟨l', e', f'⟩ := M'.stk
  rw [e] at e'; cases e'
  refine ⟨l, e, fun env he => ?_⟩
  obtain ⟨k, L, h1, h2, _⟩ := f env he
  obtain ⟨_, L', h1', h2', h3', r⟩ := f' env he
  rw [h1] at h1'; cases h1'
  exact ⟨k, L, h1, fun hm => by
    rcases List.mem_append.mp hm with h | h
    · exact h2 h
    · exact h2' (List.mem_append_right _ h), h3', r⟩
noncomputable def noDict : Ob → Prop
  | .dict _ _ => False
  | _ => True
noncomputable def noDicts : List Ob → Prop
  | [] => True
  | ob :: r => noDict ob ∧ noDicts r
theorem noDicts.get : ∀ {O : List Ob}, noDicts O → ∀ {i : Nat} {ob : Ob}, O[i]? = some ob → noDict ob
  | [], _, _, _, e => by simp at e
  | _ :: _, h, 0, _, e => by simp at e; subst e; exact h.1
  | _ :: _, h, i + 1, _, e => noDicts.get h.2 (i := i) (by simpa using e)

theorem ObAt.keep {H H' : PHeap} {h h' : Heap} {a : Addr} {ob : Ob} (x : ObAt H h a ob) (nd : noDict ob) (hm : ∀ b o, H b = some o → H' b = some o) (hn : H a = none → H' a = none) (hk : ∀ o, h.get? a = some o → Kept h' a o) : ObAt H' h' a ob := by
  cases ob with
  | gone => trivial
  | list ts => obtain ⟨h0, vs, k, h1, h2⟩ := x; exact ⟨hn h0, vs, k, (hk _ h1).exact (fun _ _ q => by cases q), DenL.mono hm _ _ h2⟩
  | dict ks ts => exact nd.elim

noncomputable def up0 (k : Nat) : D → D
  | .val t => .val t
  | .ref j => .ref (k + j)
theorem DenD.up0 {H} {as more : List Addr} {d : D} {v : Value} (h : DenD H more d v) : DenD H (as ++ more) (up0 as.length d) v := by
  cases d with
  | val t => exact h
  | ref j => obtain ⟨a, ha, rfl⟩ := h; exact ⟨a, by rw [List.getElem?_append_right (Nat.le_add_right ..), Nat.add_sub_cancel_left]; exact ha, rfl⟩
theorem DenDs.vals0 {H as as'} : ∀ {ds : List D} {vs : List Value}, (∀ d ∈ ds, ∃ t, d = .val t) → DenDs H as ds vs → DenDs H as' ds vs
  | [], [], _, _ => trivial
  | d :: ds, v :: vs, hv, ⟨h, t⟩ => by
    obtain ⟨t', rfl⟩ := hv d (List.mem_cons_self ..)
    exact ⟨h, DenDs.vals0 (fun d hd => hv d (List.mem_cons_of_mem _ hd)) t⟩
  | [], _ :: _, _, h => h.elim
  | _ :: _, [], _, h => h.elim

theorem Con.frame0 {ds kws} {Φ : D → List Ob → Prop} (nd : noDicts O) (hv : ∀ d ∈ ds, ∃ t, d = .val t) (hkv : ∀ d ∈ kws.map (·.2), ∃ t, d = .val t)
    (h : Con C n fv [] ds kws fun d O' => Φ (up0 O.length d) (O ++ O')) : Con C n fv O ds kws Φ := fun A H as s vs kvs E rm M h1 h2 h3 => by
  refine wpC_mono (h A H [] s vs kvs E rm M.part0 (h1.vals0 hv) h2 (h3.vals0 hkv)) (fun v s' qq => qq.out fun d O' H' more q M' D' R' => ?_) fun _ _ x => x
  obtain ⟨more', e, hf⟩ := R'.ext
  simp only [List.nil_append] at e; subst e
  have keepAs : ∀ a ∈ as, ∀ o, s.heap.get? a = some o → Kept s'.heap a o := fun a ha o e => R'.keep a o e (by simp) (by simp)
  have offAs : ∀ a ∈ as, H a = none → H' a = none := fun a ha e => (R'.off (M.live a ha) (by simp) e).2
  refine ⟨_, _, H', as ++ more, q, ⟨M'.base, M'.sat, by simp [M.len, M'.len], ?_, fun i a ob ha ho => ?_, fun a ha => ?_, M'.os, M'.gens, M.stk2 (as' := []) M'⟩, by rw [← M.len]; exact D'.up0, ⟨R'.mono, fun a o e => (R'.fresh a o e).imp id fun e => .inl (e.elim id fun h => by simp at h), fun a o e _ ha => R'.keep a o e (by simp) (by simp), R'.alive, more, rfl, hf⟩⟩
  · refine List.nodup_append.mpr ⟨M.nodup, M'.nodup, fun x hx y hy e => ?_⟩
    subst e
    exact (M.live x hx).not_none (hf x hy)
  · by_cases hi : i < as.length
    · rw [List.getElem?_append_left hi] at ha
      rw [List.getElem?_append_left (by rw [← M.len]; exact hi)] at ho
      have hm := List.mem_of_getElem? ha
      exact (M.obs i a ob ha ho).keep (nd.get ho) R'.mono (offAs a hm) (keepAs a hm)
    · have hi := Nat.le_of_not_lt hi
      rw [List.getElem?_append_right hi] at ha
      rw [List.getElem?_append_right (by rw [← M.len]; exact hi), ← M.len] at ho
      exact M'.obs _ a ob ha ho
  · rcases List.mem_append.mp ha with ha | ha
    · obtain ⟨o, e⟩ := M.live a ha; exact (keepAs a ha o e).live
    · exact M'.live a ha

noncomputable def up1 (k i : Nat) : D → D
  | .val t => .val t
  | .ref 0 => .ref i
  | .ref (j + 1) => .ref (k + j)
theorem DenDs.down1 {H : PHeap} {as : List Addr} {a : Addr} {i : Nat} (hi : as[i]? = some a) : ∀ {ds : List D} {vs : List Value}, (∀ d ∈ ds, (∃ t, d = .val t) ∨ d = .ref 0) → DenDs H as (ds.map (up1 0 i)) vs → DenDs H [a] ds vs
  | [], [], _, _ => trivial
  | d :: ds, v :: vs, hv, ⟨h, t⟩ => by
    refine ⟨?_, DenDs.down1 hi (fun d hd => hv d (List.mem_cons_of_mem _ hd)) t⟩
    rcases hv d (List.mem_cons_self ..) with ⟨t', rfl⟩ | rfl
    · exact h
    · obtain ⟨b, hb, rfl⟩ := h
      rw [hi] at hb; cases hb
      exact ⟨a, rfl, rfl⟩
  | [], _ :: _, _, h => h.elim
  | _ :: _, [], _, h => h.elim

theorem Con.frame1 {ds kws ob} {i : Nat} {Φ : D → List Ob → Prop} (nd : noDicts O) (ho : O[i]? = some ob) (hv : ∀ d ∈ ds, (∃ t, d = .val t) ∨ d = .ref 0) (hkv : ∀ d ∈ kws.map (·.2), ∃ t, d = .val t)
    (h : Con C n fv [ob] ds kws fun d O' => ∃ ob' rest, O' = ob' :: rest ∧ Φ (up1 O.length i d) (O.set i ob' ++ rest)) : Con C n fv O (ds.map (up1 0 i)) kws Φ := fun A H as s vs kvs E rm M h1 h2 h3 => by
  have hlt : i < as.length := by rw [M.len]; exact (List.getElem?_eq_some_iff.mp ho).1
  obtain ⟨a, ha⟩ : ∃ a, as[i]? = some a := ⟨as[i], List.getElem?_eq_getElem hlt⟩
  refine wpC_mono (h A H [a] s vs kvs E rm (M.part1 ha ho) (h1.down1 ha hv) h2 (h3.vals0 hkv)) (fun v s' qq => qq.out fun d O' H' as' ⟨ob', rest, hO', q⟩ M' D' R' => ?_) fun _ _ x => x
  obtain ⟨more, e, hf⟩ := R'.ext
  subst e; subst hO'
  have ham := List.mem_of_getElem? ha
  have neA : ∀ j b, j ≠ i → as[j]? = some b → b ≠ a := fun j b hj hb q => by
    subst q
    exact hj ((List.getElem?_inj (List.getElem?_eq_some_iff.mp hb).1 M.nodup).mp (hb.trans ha.symm))
  have hlen : rest.length = more.length := by
    have := M'.len
    simp at this; (exact this.symm)
  have alive : ∀ b ∈ as, Live s'.heap b := fun b hb => R'.alive b (M.live b hb)
  refine ⟨_, _, H', as ++ more, q, ⟨M'.base, M'.sat, by simp [M.len, hlen], ?_, fun j b ob₂ hb ho₂ => ?_, fun b hb => ?_, M'.os, M'.gens, M.stk2 (as' := [a]) M'⟩, ?_, ⟨R'.mono, fun b o e => (R'.fresh b o e).imp id fun e => e.imp id fun h => by
      have : b = a := by simpa using h
      subst this; exact ham, fun b o e _ hb => R'.keep b o e (by simp) (fun h => hb (by
      have : b = a := by simpa using h
      subst this; exact ham)), R'.alive, more, rfl, hf⟩⟩
  · refine List.nodup_append.mpr ⟨M.nodup, (List.nodup_append.mp M'.nodup).2.1, fun x hx y hy e => ?_⟩
    subst e
    exact (M.live x hx).not_none (hf x hy)
  · by_cases hj : j < as.length
    · rw [List.getElem?_append_left hj] at hb
      rw [List.getElem?_append_left (by simp [← M.len]; exact hj)] at ho₂
      by_cases q : j = i
      · subst q
        rw [ha] at hb; cases hb
        rw [List.getElem?_set_self (by rw [← M.len]; exact hj)] at ho₂
        cases ho₂
        exact M'.obs 0 _ _ (by simp) (by simp)
      · rw [List.getElem?_set_ne (by (first | exact fun ze => q ze.symm | lia))] at ho₂
        have hbn := neA j b q hb
        have hbm := List.mem_of_getElem? hb
        have hoff : b ∉ [a] := by simpa using hbn
        refine (M.obs j b ob₂ hb ho₂).keep (nd.get ho₂) R'.mono (fun e => (R'.off (M.live b hbm) hoff e).2) fun o e => R'.keep b o e (by simp) hoff
    · have hj := Nat.le_of_not_lt hj
      rw [List.getElem?_append_right hj] at hb
      rw [List.getElem?_append_right (by simp [← M.len]; exact hj)] at ho₂
      simp only [List.length_set, ← M.len] at ho₂
      have hb' : ([a] ++ more)[j - as.length + 1]? = some b := by simpa using hb
      have ho' : (ob' :: rest)[j - as.length + 1]? = some ob₂ := by simpa using ho₂
      exact M'.obs _ b ob₂ hb' ho'
  · rcases List.mem_append.mp hb with hb | hb
    · exact alive b hb
    · exact M'.live b (List.mem_append_right _ hb)
  · cases d with
    | val t => exact D'
    | ref j =>
      obtain ⟨b, hb, rfl⟩ := D'
      cases j with
      | zero =>
        simp at hb; subst hb
        exact ⟨_, by rw [List.getElem?_append_left hlt]; exact ha, rfl⟩
      | succ j =>
        refine ⟨b, ?_, rfl⟩
        rw [← M.len, List.getElem?_append_right (Nat.le_add_right ..), Nat.add_sub_cancel_left]
        simpa using hb

noncomputable def BindsDen (H : PHeap) (as : List Addr) (binds : List (Str × Value)) (ρ : Vars) : Prop := binds.map (·.1) = ρ.map (·.1) ∧ DenDs H as (ρ.map (·.2)) (binds.map (·.2))

theorem BindsDen.lookup {H as} : ∀ {binds : List (Str × Value)} {ρ : Vars} {x : Str} {d : D}, BindsDen H as binds ρ → ρ.lookup x = some d → ∃ v, binds.lookup x = some v ∧ DenD H as d v
  | [], [], x, d, _, h => by simp at h
  | (y, v) :: bs, (z, d₀) :: ρ, x, d, ⟨h1, h2⟩, h => by
    simp only [List.map_cons, List.cons.injEq] at h1
    obtain ⟨rfl, h1⟩ := h1
    rw [List.lookup_cons] at h ⊢
    cases hb : x == y with
    | true => rw [hb] at h; cases h; exact ⟨v, rfl, h2.1⟩
    | false => rw [hb] at h; exact BindsDen.lookup ⟨h1, h2.2⟩ h
  | [], _ :: _, _, _, ⟨h1, _⟩, _ => by simp at h1
  | _ :: _, [], _, _, ⟨h1, _⟩, _ => by simp at h1

theorem bindL_get {k : Str → Option NameKind} : ∀ {binds : List (Str × Value)} {m : Str → Option Value} {x : Str} {v : Value}, (binds.map (·.1)).Nodup → k x = some .local → (binds.lookup x = some v ∨ (binds.lookup x = none ∧ m x = some v)) → bindL k binds m x = some v
  | [], m, x, v, _, _, h => by
    rcases h with h | ⟨_, h⟩
    · simp at h
    · exact h
  | (y, u) :: r, m, x, v, hn, hk, h => by
    rw [List.map_cons, List.nodup_cons] at hn
    unfold bindL
    refine bindL_get hn.2 hk ?_
    rw [List.lookup_cons] at h
    cases hb : x == y with
    | true =>
      have e := beq_iff_eq.mp hb
      subst e
      rw [hb] at h
      refine .inr ⟨lookup_none_of fun c hc => hn.1 (List.mem_map_of_mem (f := (·.1)) hc), ?_⟩
      rcases h with h | ⟨h, _⟩
      · cases h; simp [hk]
      · cases h
    | false =>
      rw [hb] at h
      have e : x ≠ y := fun q => by subst q; simp at hb
      rcases h with h | ⟨h1, h2⟩
      · exact .inl h
      · refine .inr ⟨h1, ?_⟩
        split
        · simp [e, h2]
        · exact h2
theorem bindC_get {k : Str → Option NameKind} : ∀ {binds : List (Str × Value)} {m : Str → Option Value} {x : Str} {v : Value}, (binds.map (·.1)).Nodup → k x = some .cell → (binds.lookup x = some v ∨ (binds.lookup x = none ∧ m x = some v)) → bindC k binds m x = some v
  | [], m, x, v, _, _, h => by
    rcases h with h | ⟨_, h⟩
    · simp at h
    · exact h
  | (y, u) :: r, m, x, v, hn, hk, h => by
    rw [List.map_cons, List.nodup_cons] at hn
    unfold bindC
    refine bindC_get hn.2 hk ?_
    rw [List.lookup_cons] at h
    cases hb : x == y with
    | true =>
      have e := beq_iff_eq.mp hb
      subst e
      rw [hb] at h
      refine .inr ⟨lookup_none_of fun c hc => hn.1 (List.mem_map_of_mem (f := (·.1)) hc), ?_⟩
      rcases h with h | ⟨h, _⟩
      · cases h; simp [hk]
      · cases h
    | false =>
      rw [hb] at h
      have e : x ≠ y := fun q => by subst q; simp at hb
      rcases h with h | ⟨h1, h2⟩
      · exact .inl h
      · refine .inr ⟨h1, ?_⟩
        split
        · exact h2
        · simp [e, h2]

structure FnOk (C : Cx) (a : Addr) (fd : FuncData) (body : List Stmt) : Prop where
  here : ∃ o, C.B.get? a = some o ∧ o.data = .func fd
  code : C.B.CodeRec fd.code fd.qualname
  body : fd.body = .stmts body
  clo : fd.closure = []
  glob : fd.globals = mainGlobals
  bi : fd.builtins = builtinsNs
  kind : fd.scope.kind = .function
  co : fd.scope.isCoroutine = false
  gen : fd.scope.isGenerator = false
  nodup : (fd.scope.names.map (·.1)).Nodup

theorem cellsFrom_nodup : ∀ (names : Kinds) (k : Nat) (acc : List (Str × Addr)), (acc.map (·.1) ++ names.map (·.1)).Nodup → ((cellsFrom k names acc).map (·.1)).Nodup
  | [], _, _, h => by unfold cellsFrom; simpa using h
  | (y, kd) :: r, k, acc, h => by
    unfold cellsFrom
    split
    · refine cellsFrom_nodup r _ _ ?_
      rw [List.map_cons]
      exact List.Perm.nodup (List.perm_middle (l₁ := acc.map (·.1)) (a := y) (l₂ := r.map (·.1))) h
    · refine cellsFrom_nodup r _ _ (List.Nodup.sublist ?_ h)
      rw [List.map_cons]
      exact List.Sublist.append_left (List.sublist_cons_self ..) _
theorem Con_def {a fd body ds kws} {ρ₀ : Vars} {Φ : D → List Ob → Prop} (F : FnOk C a fd body)
    (hbind : ∀ A H as s vs kvs, Mem C A H as O s → DenDs H as ds vs → kvs.map (·.1) = kws.map (·.1) → DenDs H as (kws.map (·.2)) (kvs.map (·.2)) → ∃ binds, BindsTo s fd ⟨vs, kvs⟩ binds ∧ BindsDen H as binds ρ₀)
    (hn : (ρ₀.map (·.1)).Nodup) (hk : ∀ x ∈ ρ₀.map (·.1), nameOk fd.scope.names x)
    (h : WPs C n fd.scope.names ρ₀ O body fun o => match o with
      | .next _ O' => Φ (.val .none) O'
      | .ret d O' => Φ d O'
      | _ => False) : Con C (n + 1) (.ref a) O ds kws Φ := fun A H as s vs kvs E rm M h1 h2 h3 => by
  obtain ⟨binds, hbt, hbd⟩ := hbind A H as s vs kvs M h1 h2 h3
  obtain ⟨o, ho, hdata⟩ := F.here
  have hbnames := hbd.1
  refine wpC_call (codeC_call_function (by have := rm.depth; show A.depth < 1000; (first | exact zLt (Nat.le_of_add_right_le this) rfl | lia)) (M.keepB _ _ ho) hdata F.co F.gen F.body (F.code.keeps M.keepB) (hbt _ _ _ _ ?_))
  rw [F.clo]
  have hkb : ∀ x ∈ binds, fd.scope.names.lookup x.1 = some .local ∨ (fd.scope.names.lookup x.1 = some .cell ∧ ((cellsFrom (s.heap.objs.size + 1) fd.scope.names []).lookup x.1).isSome = true) := fun x hx => by
    have hm : x.1 ∈ ρ₀.map (·.1) := by rw [← hbnames]; exact List.mem_map_of_mem (f := (·.1)) hx
    rcases hk x.1 hm with h | h
    · exact .inl h
    · refine .inr ⟨h, ?_⟩
      obtain ⟨c, hc⟩ := cellsFrom_has fd.scope.names (s.heap.objs.size + 1) (mem_of_lookup h)
      have hnd : ((cellsFrom (s.heap.objs.size + 1) fd.scope.names []).map (·.1)).Nodup := by
        exact cellsFrom_nodup _ _ _ (by simpa using F.nodup)
      rw [lookup_nodup hnd hc]; rfl
  refine wpAny_newFunctionEnv_cells F.kind hkb fun env he s₁ x => ?_
  have hkeep : ∀ b o, s.heap.get? b = some o → s₁.heap.get? b = some o := x.toInCall.keep
  obtain ⟨h', tk, hs₁, _⟩ := x.toInCall.done
  have hlim : s₁.heap.NoLimit := C.nolimit.keeps fun b o e => hkeep _ _ (M.keepB b o e)
  have hnames : env.scope.names = fd.scope.names := by rw [he]; rfl
  have hkind : ∀ y, env.kindOf y = fd.scope.names.lookup y := fun y => by unfold Env.kindOf; rw [hnames]
  have hcells : env.cells = cellsFrom (s.heap.objs.size + 1) fd.scope.names [] := by rw [he]; rfl
  have hloc : env.locals = s.heap.objs.size := by rw [he]; rfl
  have hfreshGe : ∀ b, s.heap.objs.size ≤ b → s.heap.get? b = none := fun b hb => by
    cases q : s.heap.get? b with
    | none => rfl
    | some o => exact absurd (Heap.lt_size q) (Nat.not_lt.mpr hb)
  have M₁ : Mem C A H as O s₁ ∧ ∀ X, Rel X H as s H as s₁ := by
    subst hs₁
    exact M.same hkeep rfl rfl
  obtain ⟨M₁, R₁⟩ := M₁
  have slotsGe : ∀ b ∈ slots env, s.heap.objs.size ≤ b := fun b hb => by
    rcases List.mem_cons.mp hb with e | hb
    · rw [e, hloc]; exact Nat.le_refl _
    · obtain ⟨p, hp, rfl⟩ := List.mem_map.mp hb
      have := x.above p.1 p.2 hp
      rw [hloc] at this; exact Nat.le_of_lt this
  have hcellsNodup : (env.cells.map (·.1)).Nodup := by
    rw [hcells]
    exact cellsFrom_nodup _ _ _ (by simpa using F.nodup)
  have cellAt : ∀ y c, (y, c) ∈ env.cells → ∃ v, s₁.heap.IsCell c v := fun y c hc => ⟨_, x.cell y c (lookup_nodup hcellsNodup hc)⟩
  have eo : EnvOk fd.scope.names env := ⟨hnames, by rw [he]; exact F.kind, by rw [he]; exact F.glob, by rw [he]; exact F.bi, fun y hy => by
    obtain ⟨c, hc⟩ := cellsFrom_has fd.scope.names (s.heap.objs.size + 1) (mem_of_lookup hy)
    exact ⟨c, by rw [hcells] at hcellsNodup ⊢; exact lookup_nodup hcellsNodup hc⟩⟩
  have hbn : (binds.map (·.1)).Nodup := by rw [hbnames]; exact hn
  have l₁ : Loc H as env ρ₀ s₁ := by
    refine ⟨fun b hb => ?_, x.apart, fun y c hc => Nat.ne_of_gt (x.above y c hc), ⟨_, x.toInCall.ns, fun y d hy hky => ?_⟩, cellAt, fun y d hy hky => ?_⟩
    · have hf := hfreshGe b (slotsGe b hb)
      refine ⟨fun hm => (M.live b hm).not_none hf, M.fresh_none hf, ?_⟩
      rcases List.mem_cons.mp hb with e | hb
      · rw [e]; obtain ⟨o, _, _, e, _⟩ := x.toInCall.ns; exact ⟨o, e⟩
      · obtain ⟨p, hp, rfl⟩ := List.mem_map.mp hb
        obtain ⟨v, o, e, _⟩ := cellAt p.1 p.2 hp
        exact ⟨o, e⟩
    · obtain ⟨v, hv, hd⟩ := hbd.lookup hy
      exact ⟨v, hd, bindL_get hbn hky (.inl hv)⟩
    · obtain ⟨v, hv, hd⟩ := hbd.lookup hy
      obtain ⟨c, hc⟩ := eo.cellsOk y (by rw [← hkind]; exact hky)
      refine ⟨v, c, hd, hc, ?_⟩
      have := x.cell y c hc
      rw [bindC_get hbn hky (.inl hv)] at this
      exact this
  refine ⟨hlim, codeC_func ?_⟩
  have rm' : Room n (A.deeper env) := ⟨fun h' => rm.handled (Nat.succ_pos _), by have := rm.depth; show A.depth + 1 + n ≤ 900; (first | exact z18 this | lia), by have := rm.units; show A.units + 3 + 60 * n ≤ 9000; (first | exact zEq (Nat.add_right_comm _ 3 _) (Nat.le_trans (Nat.add_le_add_left (Nat.le_of_ble_eq_true rfl) _) (zEq (Nat.add_assoc _ _ 60) this)) | lia)⟩
  have hap : Apart A s.heap.objs.size := M.apart_new (get?_size _)
  have M₁' : Mem C (A.deeper env) H as O s₁ := by
    refine ⟨M₁.base, M₁.sat, M₁.len, M₁.nodup, M₁.obs, M₁.live, M₁.os, M₁.gens, ?_⟩
    obtain ⟨l, e, f⟩ := M₁.stk
    refine ⟨env :: l, Around.frames_deeper e, fun env' he' => ?_⟩
    rcases List.mem_cons.mp he' with q | he'
    · rw [q]
      obtain ⟨q1, q2, _⟩ := l₁.off env.locals (List.mem_cons_self ..)
      obtain ⟨o, es, n, q3, q4, _⟩ := x.toInCall.ns
      exact ⟨by rw [eo.kind]; exact (by decide), env.locals, by rw [he]; rfl, q1, q2, o, es, n, q3, q4⟩
    · exact f env' he'
  have back : ∀ {H' as' O' s'}, Mem C (A.deeper env) H' as' O' s' → Mem C A H' as' O' s' := fun M' => by
    refine ⟨M'.base, M'.sat, M'.len, M'.nodup, M'.obs, M'.live, M'.os, M'.gens, ?_⟩
    obtain ⟨l, e, f⟩ := M₁.stk
    obtain ⟨l', e', f'⟩ := M'.stk
    rw [Around.frames_deeper e] at e'
    cases e'
    exact ⟨l, e, fun env' he' => f' env' (List.mem_cons_of_mem _ he')⟩
  refine wpC_mono (h (A.deeper env) env H as s₁ _ rm' ⟨eo, let ⟨l, e, _⟩ := M₁.stk; ⟨l, Around.frames_deeper e⟩⟩ M₁' l₁) (fun f s' qq => qq.out fun H' as' R' hf => ?_) fun _ _ x => x
  have RR : Rel [] H as s H' as' s' := by
    have q := (R₁ (slots env)).trans R'
    exact ⟨q.mono, q.fresh, fun b o e _ hb => q.keep b o e (fun hs => by rw [hfreshGe b (slotsGe b hs)] at e; cases e) hb, q.alive, q.ext⟩
  cases f with
  | next => exact hf.casesOn fun ρ' O' hΦ M' _ => ⟨_, O', H', as', hΦ, back M', by unfold DenD Den; rfl, RR⟩
  | ret v => exact hf.casesOn fun d O' hΦ M' D' => ⟨d, O', H', as', hΦ, back M', D', RR⟩
  | brk => exact hf.casesOn fun ρ' O' hΦ _ _ => hΦ.elim
  | cont => exact hf.casesOn fun ρ' O' hΦ _ _ => hΦ.elim
end

end Mine
end

section
set_option Elab.async false
set_option maxRecDepth 100000
set_option linter.unusedVariables false
namespace Mine
open PySem PySem.W PyProof.Rows PySem.Calls

noncomputable def WPk (C : Cx) (n : Nat) (sc : Kinds) (ρ : Vars) (O : List Ob) (kws : List Keyword) (Φ : List D → List Ob → Prop) : Prop :=
  ∀ A env H as s E pos, Room n A → EnvOk sc env → Mem C A H as O s → Loc H as env ρ s → wpC (model C.prog C.w) A (evalAll ((backToKw pos (keywordEach kws env)).map (·.2))) (AfterL C A H as s Φ) E s

section
variable {C : Cx} {n : Nat} {sc : Kinds} {ρ : Vars} {O : List Ob}

theorem WPk_nil {Φ : List D → List Ob → Prop} (h : Φ [] O) : WPk C n sc ρ O [] Φ := fun A env H as s E pos rm eo M l =>
  wpC_evalAll_nil ⟨[], O, H, as, h, M, trivial, Rel.refl⟩
theorem WPk_cons {x e p kws} {Φ : List D → List Ob → Prop} (h : WPe C n sc ρ O e fun d O' => WPk C n sc ρ O' kws fun ds O'' => Φ (d :: ds) O'') : WPk C n sc ρ O (⟨x, e, p⟩ :: kws) Φ := fun A env H as s E pos rm eo M l => by
  show wpC _ _ (evalAll ((do let v ← eval e env; standAt pos; pure v) :: (backToKw pos (keywordEach kws env)).map (·.2))) _ _ _
  refine wpC_evalAll_cons (wpC_bind (wpC_mono (h A env H as s E rm eo M l) (fun v s₁ qq => qq.out fun d O₁ H₁ as₁ h₁ M₁ D₁ R₁ => ?_) fun _ _ x => x))
  refine wpC_bind (wpC_standAt (wpC_pure ?_))
  refine wpC_mono (h₁ A env H₁ as₁ s₁ E pos rm eo M₁ (l.rel R₁)) (fun vs s₂ qq => qq.out fun ds O₂ H₂ as₂ h₂ M₂ D₂ R₂ => ?_) fun _ _ x => x
  exact ⟨d :: ds, O₂, H₂, as₂, h₂, M₂, ⟨D₁.rel R₂, D₂⟩, R₁.trans R₂⟩

noncomputable def kwNames (kws : List Keyword) : List Str := kws.filterMap fun k => k.arg

theorem backToKw_names (pos : Pos) (env : Env) : ∀ (kws : List Keyword), (backToKw pos (keywordEach kws env)).filterMap (·.1) = kwNames kws
  | [] => rfl
  | ⟨x, e, p⟩ :: r => by
    have ih := backToKw_names pos env r
    unfold kwNames at ih ⊢
    show ((x, _) :: backToKw pos (keywordEach r env)).filterMap (·.1) = _
    cases x with
    | none => simpa using ih
    | some x => simpa using ih
theorem backToKw_all (pos : Pos) (env : Env) : ∀ {kws : List Keyword}, kws.all (fun k => k.arg.isSome) = true → (backToKw pos (keywordEach kws env)).all (·.1.isSome) = true
  | [], _ => rfl
  | ⟨x, e, p⟩ :: r, h => by
    rw [List.all_cons, Bool.and_eq_true] at h
    show ((x, _) :: backToKw pos (keywordEach r env)).all (·.1.isSome) = true
    rw [List.all_cons, Bool.and_eq_true]
    exact ⟨h.1, backToKw_all pos env h.2⟩
theorem kwNames_length : ∀ {kws : List Keyword}, kws.all (fun k => k.arg.isSome) = true → (kwNames kws).length = kws.length
  | [], _ => rfl
  | ⟨x, e, p⟩ :: r, h => by
    rw [List.all_cons, Bool.and_eq_true] at h
    have ih := kwNames_length h.2
    obtain ⟨y, hy⟩ := Option.isSome_iff_exists.mp h.1
    dsimp only at hy; subst hy
    unfold kwNames at ih ⊢
    simp only [List.filterMap_cons, List.length_cons, ih]

noncomputable def noStars : List Expr → Prop
  | [] => True
  | e :: r => notStar e ∧ noStars r
noncomputable def starB : Expr → Bool
  | .Starred .. => true
  | _ => false
theorem notStar_of {e : Expr} (h : starB e = false) : notStar e := by
  cases e <;> first | trivial | cases h
noncomputable def noStarsB : List Expr → Bool
  | [] => true
  | e :: r => !starB e && noStarsB r
theorem ns_of : ∀ {es : List Expr}, noStarsB es = true → noStars es
  | [], _ => trivial
  | e :: r, h => by
    unfold noStarsB at h
    rw [Bool.and_eq_true, Bool.not_eq_true'] at h
    exact ⟨notStar_of h.1, ns_of h.2⟩

theorem args_ {A env H as s E pos args kws f} {K : List D → List D → List Ob → Prop} {Q : Args → Shared → Prop} (rm : Room n A) (eo : EnvOk sc env) (M : Mem C A H as O s) (l : Loc H as env ρ s) (hns : noStars args) (hall : kws.all (fun k => k.arg.isSome) = true)
    (h : WPl C n sc ρ O args fun ds O' => WPk C n sc ρ O' kws fun kds O'' => kds.length = kws.length ∧ K ds kds O'')
    (hQ : ∀ x ds kds O' H' as' s', K ds kds O' → Mem C A H' as' O' s' → DenDs H' as' ds x.pos → x.kw.map (·.1) = kwNames kws → DenDs H' as' kds (x.kw.map (·.2)) → Rel [] H as s H' as' s' → Q x s') :
    wpC (model C.prog C.w) A (evalArgs f true (backTo pos (starEach args env)) (backToKw pos (keywordEach kws env))) Q E s := by
  have fin : ∀ vs s₁ (hl : AfterL C A H as s (fun ds O' => WPk C n sc ρ O' kws fun kds O'' => kds.length = kws.length ∧ K ds kds O'') vs s₁),
      wpC (model C.prog C.w) A (evalAll ((backToKw pos (keywordEach kws env)).map (·.2))) (fun ks s₂ => Q ⟨vs, ((backToKw pos (keywordEach kws env)).filterMap (·.1)).zip ks⟩ s₂) E s₁ := by
    rintro vs s₁ ⟨ds, O₁, H₁, as₁, h₁, M₁, D₁, R₁⟩
    refine wpC_mono (h₁ A env H₁ as₁ s₁ E pos rm eo M₁ (l.rel R₁)) (fun ks s₂ qq => qq.out fun kds O₂ H₂ as₂ ⟨hlen, hK⟩ M₂ D₂ R₂ => ?_) fun _ _ x => x
    rw [backToKw_names]
    have hkl : ks.length = (kwNames kws).length := by rw [kwNames_length hall, ← hlen, D₂.length]
    refine hQ _ ds kds O₂ H₂ as₂ s₂ hK M₂ (D₁.rel R₂) ?_ ?_ (R₁.trans R₂)
    · exact List.map_fst_zip (Nat.le_of_eq hkl.symm)
    · show DenDs H₂ as₂ kds (((kwNames kws).zip ks).map (·.2))
      rw [show ((kwNames kws).zip ks).map (·.2) = ks from List.map_snd_zip (Nat.le_of_eq hkl)]
      exact D₂
  cases args with
  | nil =>
    have hsp := h A env H as s E pos rm eo M l
    have ha := backToKw_all pos env hall
    show wpC _ _ (evalArgs f true [] _) _ _ _
    unfold evalArgs
    show wpC _ A (spliced [] >>= _) Q E s
    refine wpC_bind (wpC_mono hsp (fun vs s₁ hl => ?_) fun _ _ x => x)
    refine wpC_bind (wpC_pure ?_)
    refine wpC_holding ?_
    simp only [ha, if_true]
    refine wpC_bind (wpC_mono (fin vs s₁ hl) (fun ks s₂ h₁ => ?_) fun _ _ x => x)
    exact wpC_bind (wpC_pure (wpC_pure h₁))
  | cons e es =>
    have hsp := h A env H as s E pos rm eo M l
    rw [starEach_cons hns.1] at hsp ⊢
    exact evalArgsC_kw (backToKw_all pos env hall) (wpC_mono hsp (fun vs s₁ hl => fin vs s₁ hl) fun _ _ x => x)

theorem WPe_Call {id p args kws pos a fd body} {Φ : D → List Ob → Prop} (F : FnOk C a fd body) (hns : noStars args) (hall : kws.all (fun k => k.arg.isSome) = true)
    (h : WPe C n sc ρ O (.Name id p) fun d O₁ => d = .val (.static (.ref a)) ∧ WPl C n sc ρ O₁ args fun ds O₂ => WPk C n sc ρ O₂ kws fun kds O₃ => kds.length = kws.length ∧ Con C n (.ref a) O₃ ds ((kwNames kws).zip kds) Φ) :
    WPe C n sc ρ O (.Call (.Name id p) args kws pos) Φ := fun A env H as s E rm eo M l => by
  refine wpC_Call_Name_kw (wpC_mono (h A env H as s E rm eo M l) (fun fv s₁ qq => qq.out fun d O₁ H₁ as₁ ⟨hd, h₁⟩ M₁ D₁ R₁ => ?_) fun _ _ x => x)
  subst hd
  unfold DenD Den at D₁
  subst D₁
  obtain ⟨o, ho, hdata⟩ := F.here
  refine callWithC_function_kw (o := o) (fd := fd) (args_ rm eo M₁ (l.rel R₁) hns hall (K := fun ds kds O₃ => kds.length = kws.length ∧ Con C n (.ref a) O₃ ds ((kwNames kws).zip kds) Φ) ?_ fun x ds kds O₂ H₂ as₂ s₂ ⟨hlen, hc⟩ M₂ D₂ N₂ K₂ R₂ => ⟨⟨M₂.keepB _ _ ho, hdata⟩, ?_⟩)
  · exact fun A env H as s E pos rm eo M l => wpC_mono (h₁ A env H as s E pos rm eo M l) (fun vs s' qq => qq.out fun ds O' H' as' q M' D' R' => ⟨ds, O', H', as', fun A env H as s E pos rm eo M l =>
      wpC_mono (q A env H as s E pos rm eo M l) (fun vs s' qq => qq.out fun ds O' H' as' q M D R => ⟨ds, O', H', as', ⟨q.1, q⟩, M, D, R⟩) fun _ _ x => x, M', D', R'⟩) fun _ _ x => x
  · have hkl : (kwNames kws).length = kds.length := by rw [kwNames_length hall, hlen]
    have e1 : ((kwNames kws).zip kds).map (·.1) = kwNames kws := List.map_fst_zip (Nat.le_of_eq hkl)
    have e2 : ((kwNames kws).zip kds).map (·.2) = kds := List.map_snd_zip (Nat.le_of_eq hkl.symm)
    exact wpC_mono (hc A H₂ as₂ s₂ x.pos x.kw E rm M₂ D₂ (by rw [N₂, e1]) (by rw [e2]; exact K₂)) (fun v s' h' => h'.from (R₁.trans R₂)) fun _ _ x => x

theorem noStar_any (pos : Pos) (env : Env) : ∀ {es : List Expr}, noStars es → (backTo pos (starEach es env)).any (·.1) = false
  | [], _ => rfl
  | e :: r, h => by
    rw [starEach_cons h.1]
    show (false || (backTo pos (starEach r env)).any (·.1)) = false
    rw [noStar_any pos env h.2]; rfl
theorem WPe_CallB {id p args pos fv} {Φ : D → List Ob → Prop} (hf : (∃ x, fv = .builtin x) ∨ ∃ x, fv = .type x) (hns : noStars args)
    (h : WPe C n sc ρ O (.Name id p) fun d O₁ => d = .val (.static fv) ∧ WPl C n sc ρ O₁ args fun ds O₂ => Con C n fv O₂ ds [] Φ) :
    WPe C n sc ρ O (.Call (.Name id p) args [] pos) Φ := fun A env H as s E rm eo M l => by
  refine wpC_Call_Name_kw (wpC_mono (h A env H as s E rm eo M l) (fun fv' s₁ qq => qq.out fun d O₁ H₁ as₁ ⟨hd, h₁⟩ M₁ D₁ R₁ => ?_) fun _ _ x => x)
  subst hd
  unfold DenD Den at D₁
  subst D₁
  have hns' := noStar_any pos env hns
  have goal : wpC (model C.prog C.w) A (evalArgs fv' true (backTo pos (starEach args env)) (backToKw pos (keywordEach [] env))) (fun x s₂ => wpC (model C.prog C.w) A (call fv' ([] ++ x.pos) x.kw) (After C A [] H as s Φ) E s₂) E s₁ :=
    args_ rm eo M₁ (l.rel R₁) hns rfl (K := fun ds kds O₃ => kds = [] ∧ Con C n fv' O₃ ds [] Φ)
      (fun A env H as s E pos rm eo M l => wpC_mono (h₁ A env H as s E pos rm eo M l) (fun vs s' qq => qq.out fun ds O' H' as' q M D R => ⟨ds, O', H', as', WPk_nil ⟨rfl, rfl, q⟩, M, D, R⟩) fun _ _ x => x)
      fun x ds kds O₂ H₂ as₂ s₂ ⟨hk, hc⟩ M₂ D₂ N₂ K₂ R₂ => by
        subst hk
        have hx : x.kw = [] := by
          have : x.kw.map (·.1) = [] := N₂
          simpa using this
        rw [hx]
        exact wpC_mono (hc A H₂ as₂ s₂ x.pos [] E rm M₂ D₂ rfl trivial) (fun v s' h' => h'.from (R₁.trans R₂)) fun _ _ x => x
  rcases hf with ⟨x, rfl⟩ | ⟨x, rfl⟩
  · exact callWithC_builtin hns' goal
  · exact callWithC_type hns' goal

theorem WPe_CallM {o name apos args pos T id} {Φ : D → List Ob → Prop}
    (hbase : ∀ env : Env, EnvOk sc env → attributeBase o name env (eval o env) = eval o env) (hns : noStars args) (hlen : args.length < 29) (hline : (apos.endLine == pos.line) = true)
    (pa : PlainAttrs T) (slot : Slot T name id) (hty : typeOf (.builtin id) = pure (.type "method_descriptor"))
    (h : WPe C n sc ρ O o fun d O₁ => (∀ A H as s v, Mem C A H as O₁ s → DenD H as d v → s.TypeIs v T ∧ ∀ a, v = .ref a → ∃ ob, s.heap.get? a = some ob ∧ ob.dict = none) ∧
      WPl C n sc ρ O₁ args fun ds O₂ => Con C n (.builtin id) O₂ (d :: ds) [] Φ) :
    WPe C n sc ρ O (.Call (.Attribute o name apos) args [] pos) Φ := fun A env H as s E rm eo M l => by
  have hns' := noStar_any pos env hns
  have hfew : ((backTo pos (starEach args env)).all (fun x => !x.1) && (backToKw pos (keywordEach [] env)).all (fun x => x.1.isSome)
      && decide (args.length + ([] : List Keyword).length + (if ([] : List Keyword).isEmpty then 0 else 1) < 30)) = true := by
    have h1 : (backTo pos (starEach args env)).all (fun x => !x.1) = true := by
      rw [List.all_eq_true]
      rw [List.any_eq_false] at hns'
      intro x hx
      have := hns' x hx
      simpa using this
    rw [h1]
    simp [backToKw, keywordEach]
    (exact Nat.lt_succ_of_lt hlen)
  refine wpC_Call_method (hbase env eo) hfew hline pa slot hty (wpC_mono (h A env H as s E rm eo M l) (fun ov s₁ qq => qq.out fun d O₁ H₁ as₁ ⟨hty, h₁⟩ M₁ D₁ R₁ => ?_) fun _ _ x => x)
  obtain ⟨t1, t2⟩ := hty A H₁ as₁ s₁ ov M₁ D₁
  refine ⟨t1, t2, callWithC_builtin hns' ?_⟩
  refine args_ rm eo M₁ (l.rel R₁) hns (kws := []) rfl (K := fun ds kds O₃ => kds = [] ∧ Con C n (.builtin id) O₃ (d :: ds) [] Φ)
      (fun A env H as s E pos rm eo M l => wpC_mono (h₁ A env H as s E pos rm eo M l) (fun vs s' qq => qq.out fun ds O' H' as' q M D R => ⟨ds, O', H', as', WPk_nil ⟨rfl, rfl, q⟩, M, D, R⟩) fun _ _ x => x)
      fun x ds kds O₂ H₂ as₂ s₂ ⟨hk, hc⟩ M₂ D₂ N₂ K₂ R₂ => by
        subst hk
        have hx : x.kw = [] := by
          have : x.kw.map (·.1) = [] := N₂
          simpa using this
        rw [hx]
        exact wpC_mono (hc A H₂ as₂ s₂ (ov :: x.pos) [] E rm M₂ ⟨D₁.rel R₂, D₂⟩ rfl trivial) (fun v s' h' => h'.from (R₁.trans R₂)) fun _ _ x => x
end
end Mine
end

section
set_option Elab.async false
set_option maxRecDepth 100000
set_option linter.unusedVariables false
namespace Mine
open PySem PySem.W PyProof.Rows PySem.Calls

noncomputable def notSlice : Expr → Prop
  | .Slice .. => False
  | _ => True
theorem subscripted_plain {e : Expr} {o i : Value} (h : notSlice e) : subscripted e false o i = operate [o, i] (getItem o i) := by
  cases e <;> first | exact h.elim | rfl

noncomputable def listD (O : List Ob) : D → Option (List T)
  | .val (.list ts) => some ts
  | .ref i => match O[i]? with
    | some (.list ts) => some ts
    | _ => none
  | _ => none

section
variable {C : Cx} {n : Nat} {sc : Kinds} {ρ : Vars} {O : List Ob}

theorem listD_at {H as s d v ts} (M : Mem C A H as O s) (hd : listD O d = some ts) (hv : DenD H as d v) : ∃ a vs k, v = .ref a ∧ s.heap.get? a = some (listO vs k) ∧ DenL H ts vs.toList := by
  cases d with
  | ref i =>
    obtain ⟨a, ha, rfl⟩ := hv
    have hO : O[i]? = some (.list ts) := by
      have hd : (match O[i]? with | some (.list ts) => some ts | _ => none) = some ts := hd
      cases q : O[i]? with
      | none => rw [q] at hd; cases hd
      | some ob => cases ob <;> rw [q] at hd <;> cases hd; rfl
    obtain ⟨_, vs, n, g, dl⟩ := M.obs i a _ ha hO
    exact ⟨a, vs, n, rfl, g, dl⟩
  | val t =>
    cases t with
    | list ts' =>
      cases hd
      unfold DenD Den at hv
      obtain ⟨a, vs, n, rfl, hH, dl⟩ := hv
      exact ⟨a, vs, n, rfl, M.sat _ _ hH, dl⟩
    | _ => cases hd
theorem isList_of {s : Shared} {a vs k} (g : s.heap.get? a = some (listO vs k)) : s.heap.IsList a vs := ⟨_, g, rfl, k, rfl⟩

inductive ItemP (O : List Ob) (d i : D) (P : T → Prop) : Prop
  | intro (ts : List T) (k : Int) (t : T) (h1 : listD O d = some ts) (h2 : i = .val (.int k)) (h3 : 0 ≤ k) (h4 : k < 2 ^ 63) (h5 : ts[k.toNat]? = some t) (h6 : P t)
inductive SignP (d i : D) (P : Nat → Prop) : Prop
  | intro (x : Str) (k : Int) (c : Nat) (h1 : d = .val (.str x)) (h2 : i = .val (.int k)) (h3 : 0 ≤ k) (h4 : k < 2 ^ 62) (h5 : x.cps[k.toNat]? = some c) (h6 : P c)
theorem WPe_item {value slice pos} {Φ : D → List Ob → Prop} (hs : notSlice slice)
    (h : WPe C n sc ρ O value fun d O₁ => WPe C n sc ρ O₁ slice fun i O₂ => ItemP O₂ d i fun t => Φ (.val t) O₂) :
    WPe C n sc ρ O (.Subscript value slice pos) Φ := fun A env H as s E rm eo M l => by
  refine SubscriptC_ (wpC_mono (h A env H as s E rm eo M l) (fun v₁ s₁ qq => qq.out fun d₁ O₁ H₁ as₁ h₁ M₁ D₁ R₁ =>
    wpC_mono (h₁ A env H₁ as₁ s₁ E rm eo M₁ (l.rel R₁)) (fun v₂ s₂ qq => qq.out fun d₂ O₂ H₂ as₂ hq M₂ D₂ R₂ => ?_) fun _ _ x => x) fun _ _ x => x)
  obtain ⟨ts, k, t, hl, hi, h0, h1, ht, hΦ⟩ := hq
  subst hi
  unfold DenD Den at D₂
  obtain ⟨tk, rfl⟩ := D₂
  obtain ⟨a, vs, kk, rfl, g, dl⟩ := listD_at M₂ hl (D₁.rel R₂)
  obtain ⟨v, hv, hd⟩ := dl.get ht
  have hL := isList_of g
  exact tail_any hL.typeIs slot_list_getitem.lookup (wpAny_getItem_list hL h0 h1 (by simpa using hv) ⟨.val t, O₂, H₂, as₂, hΦ, M₂, hd, R₁.trans R₂⟩) (subscripted_plain hs)

theorem WPe_sign {value slice pos} {Φ : D → List Ob → Prop} (hs : notSlice slice)
    (h : WPe C n sc ρ O value fun d O₁ => WPe C n sc ρ O₁ slice fun i O₂ => SignP d i fun c => Φ (.val (.str ⟨#[c]⟩)) O₂) :
    WPe C n sc ρ O (.Subscript value slice pos) Φ := fun A env H as s E rm eo M l => by
  refine SubscriptC_ (wpC_mono (h A env H as s E rm eo M l) (fun v₁ s₁ qq => qq.out fun d₁ O₁ H₁ as₁ h₁ M₁ D₁ R₁ =>
    wpC_mono (h₁ A env H₁ as₁ s₁ E rm eo M₁ (l.rel R₁)) (fun v₂ s₂ qq => qq.out fun d₂ O₂ H₂ as₂ hq M₂ D₂ R₂ => ?_) fun _ _ x => x) fun _ _ x => x)
  obtain ⟨x, k, c, hl, hi, h0, h1, ht, hΦ⟩ := hq
  subst hi; subst hl
  unfold DenD Den at D₁ D₂
  obtain ⟨tk, rfl⟩ := D₂
  obtain ⟨tk', rfl⟩ := D₁
  have hlt : k.toNat < x.cps.size := (Array.getElem?_eq_some_iff.mp ht).1
  have hT : s₂.TypeIs (.str x tk') "str" := typeIs_str _ _ _
  refine tail_any hT slot_str_getitem.lookup (PyProof.Rows.getItem_str (c := c) (by simp; (first | exact ⟨zLo h0, Int.lt_trans h1 (by decide)⟩ | lia)) ?_ ⟨_, O₂, H₂, as₂, hΦ, M₂.tok _, by unfold DenD Den; exact ⟨_, rfl⟩, (R₁.trans R₂).trans (Rel.tok _)⟩) (subscripted_plain hs)
  have : seqIndex? k x.length = some k.toNat := by
    unfold seqIndex?
    have hx : (k.toNat : Int) < (x.cps.size : Int) := by (first | exact Int.ofNat_lt.mpr hlt | lia)
    have hlen : x.length = x.cps.size := rfl
    rw [hlen]
    simp only [show ¬ k < 0 by (first | exact Int.not_lt_of_ge h0 | lia), if_false]
    first
      | (rw [if_pos (by lia)])
      | (simp; lia)
  rw [this]; exact ht

noncomputable def sliceT {α : Type} (xs : List α) (lo hi st : Option Int) : List α :=
  let b := sliceBounds lo hi st xs.length
  (sliceRange b.1 b.2.1 b.2.2).filterMap (xs[·]?)
theorem DenL.pick {H : PHeap} {ts : List T} {vs : List Value} (h : DenL H ts vs) : ∀ (is : List Nat), DenL H (is.filterMap (ts[·]?)) (is.filterMap (vs[·]?))
  | [] => .nil
  | i :: is => by
    rw [List.filterMap_cons, List.filterMap_cons]
    cases q : ts[i]? with
    | none => rw [h.getNone q]; exact DenL.pick h is
    | some t =>
      obtain ⟨v, hv, hd⟩ := h.get q
      rw [hv]; exact .cons hd (DenL.pick h is)
theorem slicePick_den {H : PHeap} {ts : List T} {vs : Array Value} (h : DenL H ts vs.toList) (lo hi st : Option Int) : DenL H (sliceT ts lo hi st) (slicePick vs lo hi st).toList := by
  unfold slicePick sliceT
  have e : ts.length = vs.size := by rw [← h.length, Array.length_toList]
  rw [e]
  have := h.pick (sliceRange (sliceBounds lo hi st vs.size).1 (sliceBounds lo hi st vs.size).2.1 (sliceBounds lo hi st vs.size).2.2)
  simpa using this

noncomputable def partD : D → Option (Option Int)
  | .val .none => some none
  | .val (.int i) => some (some i)
  | _ => none
theorem part_is {H as d v k} (h : partD d = some k) (hv : DenD H as d v) : IsPart v k := by
  cases d with
  | ref i => cases h
  | val t =>
    cases t with
    | none => cases h; unfold DenD Den at hv; subst hv; exact .none
    | int i => cases h; unfold DenD Den at hv; obtain ⟨t, rfl⟩ := hv; exact .int i t
    | _ => cases h

noncomputable def WPo (C : Cx) (n : Nat) (sc : Kinds) (ρ : Vars) (O : List Ob) (e : Option Expr) (Φ : D → List Ob → Prop) : Prop := match e with
  | none => Φ (.val .none) O
  | some e => WPe C n sc ρ O e Φ
theorem part_ {A env H as s E} {e : Option Expr} {Φ : D → List Ob → Prop} (rm : Room n A) (eo : EnvOk sc env) (M : Mem C A H as O s) (l : Loc H as env ρ s) (h : WPo C n sc ρ O e Φ) :
    wpC (model C.prog C.w) A (evalPart e env) (After C A [] H as s Φ) E s := by
  cases e with
  | none => exact wpC_pure ⟨_, O, H, as, h, M, by unfold DenD Den; rfl, Rel.refl⟩
  | some e => rw [evalPart_some]; exact h A env H as s E rm eo M l

inductive SliceP (O : List Ob) (d a b c : D) (P : List T → Prop) : Prop
  | intro (ts : List T) (x y z : Option Int) (h1 : listD O d = some ts) (h2 : partD a = some x) (h3 : partD b = some y) (h4 : partD c = some z) (h5 : z ≠ some 0) (h6 : ts.length ≤ sizeLine) (h7 : P (sliceT ts x y z))
theorem WPe_slice {value lo hi st p pos} {Φ : D → List Ob → Prop}
    (h : WPe C n sc ρ O value fun d O₁ => WPo C n sc ρ O₁ lo fun a O₂ => WPo C n sc ρ O₂ hi fun b O₃ => WPo C n sc ρ O₃ st fun c O₄ => SliceP O₄ d a b c fun us => Φ (.val (.list us)) O₄) :
    WPe C n sc ρ O (.Subscript value (.Slice lo hi st p) pos) Φ := fun A env H as s E rm eo M l => by
  refine SubscriptC_ (wpC_mono (h A env H as s E rm eo M l) (fun v₁ s₁ qq => qq.out fun d₁ O₁ H₁ as₁ h₁ M₁ D₁ R₁ => ?_) fun _ _ x => x)
  have l₁ := l.rel R₁
  refine wpC_Slice (wpC_mono (part_ rm eo M₁ l₁ h₁) (fun v₂ s₂ qq => qq.out fun d₂ O₂ H₂ as₂ h₂ M₂ D₂ R₂ => ?_) fun _ _ x => x)
  have l₂ := l₁.rel R₂
  refine wpC_mono (part_ rm eo M₂ l₂ h₂) (fun v₃ s₃ qq => qq.out fun d₃ O₃ H₃ as₃ h₃ M₃ D₃ R₃ => ?_) fun _ _ x => x
  have l₃ := l₂.rel R₃
  refine wpC_mono (part_ rm eo M₃ l₃ h₃) (fun v₄ s₄ qq => qq.out fun d₄ O₄ H₄ as₄ hq M₄ D₄ R₄ => ?_) fun _ _ x => x
  obtain ⟨ts, x, y, z, hl, hx, hy, hz, hz0, hsz, hΦ⟩ := hq
  obtain ⟨a, vs, kk, e, g, dl⟩ := listD_at M₄ hl (((D₁.rel R₂).rel R₃).rel R₄)
  subst e
  have px := part_is hx ((D₂.rel R₃).rel R₄)
  have py := part_is hy (D₃.rel R₄)
  have pz := part_is hz D₄
  have RR := ((R₁.trans R₂).trans R₃).trans R₄
  have hsn := get?_size s₄.heap
  obtain ⟨M₅, R₅⟩ := M₄.same (s' := { s₄ with heap := s₄.heap.push { cls := .type "slice", data := .fields #[v₂, v₃, v₄] } }) (fun b o e => Heap.get?_push_of_some _ e) rfl rfl
  have g5 : (s₄.heap.push { cls := .type "slice", data := .fields #[v₂, v₃, v₄] }).get? a = some (listO vs kk) := Heap.get?_push_of_some _ g
  have hL := isList_of (s := { s₄ with heap := s₄.heap.push { cls := .type "slice", data := .fields #[v₂, v₃, v₄] } }) g5
  obtain ⟨M₆, R₆⟩ := M₅.put (o := listO (slicePick vs x y z) 0) (s' := { s₄ with heap := (s₄.heap.push { cls := .type "slice", data := .fields #[v₂, v₃, v₄] }).push (listO (slicePick vs x y z) 0) }) (get?_size _) (Heap.get?_push_size _ rfl) (fun b o e => Heap.get?_push_of_some _ e) rfl rfl
  have goal : wpAny (model C.prog C.w) A (getItem (.ref a) (.ref s₄.heap.objs.size)) (After C A [] H as s Φ) E { s₄ with heap := s₄.heap.push { cls := .type "slice", data := .fields #[v₂, v₃, v₄] } } := by
    refine wpAny_getItem_list_slice hL (Heap.IsSliceOf.new _ _ _ _) px py pz hz0 ⟨_, O₄, _, as₄, hΦ, M₆, ?_, (RR.trans (R₅ _)).trans (R₆ _)⟩ (by rw [← Array.length_toList, dl.length]; exact hsz)
    unfold DenD Den
    exact ⟨_, _, 0, rfl, PHeap.put_self, DenL.mono (R₆ []).mono _ _ (slicePick_den dl x y z)⟩
  cases st with
  | none => exact tail_any hL.typeIs slot_list_getitem.lookup goal (ops := [.ref s₄.heap.objs.size, .ref a]) rfl
  | some e => exact tail_any hL.typeIs slot_list_getitem.lookup goal (ops := [.ref a, .ref s₄.heap.objs.size]) rfl
end
end Mine
end

section
set_option Elab.async false
set_option maxRecDepth 100000
set_option linter.unusedVariables false
namespace Mine
open PySem PySem.W PyProof.Rows PySem.Calls

noncomputable abbrev opB (op : Operator) : List Value → Sem Value := fun vs => binaryOp op (vs.getD 0 .none) (vs.getD 1 .none)
noncomputable abbrev opC (op : CmpOp) : List Value → Sem Value := fun vs => compareOp op (vs.getD 0 .none) (vs.getD 1 .none)
noncomputable abbrev opU (op : UnaryOp) : List Value → Sem Value := fun vs => unaryOp op (vs.getD 0 .none)

theorem densC {H as d ds vs} (h : DenDs H as (d :: ds) vs) : ∃ v r, vs = v :: r ∧ DenD H as d v ∧ DenDs H as ds r := by
  cases vs with
  | nil => exact h.elim
  | cons v r => exact ⟨v, r, rfl, h⟩
theorem densN {H as vs} (h : DenDs H as [] vs) : vs = [] := by
  cases vs with
  | nil => rfl
  | cons v r => exact h.elim
theorem dens1 {H as d vs} (h : DenDs H as [d] vs) : ∃ v, vs = [v] ∧ DenD H as d v := by
  obtain ⟨v, r, e, h1, h2⟩ := densC h
  exact ⟨v, by rw [e, densN h2], h1⟩
theorem dens2 {H as d e vs} (h : DenDs H as [d, e] vs) : ∃ v u, vs = [v, u] ∧ DenD H as d v ∧ DenD H as e u := by
  obtain ⟨v, r, q, h1, h2⟩ := densC h
  obtain ⟨u, q', h2⟩ := dens1 h2
  exact ⟨v, u, by rw [q, q'], h1, h2⟩
theorem dens3 {H as d e f vs} (h : DenDs H as [d, e, f] vs) : ∃ v u w, vs = [v, u, w] ∧ DenD H as d v ∧ DenD H as e u ∧ DenD H as f w := by
  obtain ⟨v, r, q, h1, h2⟩ := densC h
  obtain ⟨u, w, q', h2, h3⟩ := dens2 h2
  exact ⟨v, u, w, by rw [q, q'], h1, h2, h3⟩

section
variable {C : Cx} {n : Nat} {O : List Ob} {Φ : D → List Ob → Prop} {a b : Int} {x y : Str}

theorem denInt {H as i v} (h : DenD H as (.val (.int i)) v) : ∃ t, v = .int i t := by unfold DenD Den at h; exact h
theorem denStr {H as} {x : Str} {v} (h : DenD H as (.val (.str x)) v) : ∃ t, v = .str x t := by unfold DenD Den at h; exact h
theorem denBool {H as b v} (h : DenD H as (.val (.bool b)) v) : v = .bool b := by unfold DenD Den at h; exact h
theorem denNone {H as v} (h : DenD H as (.val .none) v) : v = .none := by unfold DenD Den at h; exact h
theorem denStatic {H as u v} (h : DenD H as (.val (.static u)) v) : v = u := by unfold DenD Den at h; exact h
theorem isInt {H as} {i : Int} {t : Tok} : DenD H as (.val (.int i)) (.int i t) := by unfold DenD Den; exact ⟨_, rfl⟩
theorem isStr {H as} {x : Str} {t : Tok} : DenD H as (.val (.str x)) (.str x t) := by unfold DenD Den; exact ⟨_, rfl⟩
theorem isBool {H as} {b : Bool} : DenD H as (.val (.bool b)) (.bool b) := by unfold DenD Den; rfl
theorem isNone {H as} : DenD H as (.val .none) .none := by unfold DenD Den; rfl

theorem WPt_1 {d f} (h : ∀ A H as s E v, Room n A → Mem C A H as O s → DenD H as d v → wpAny (model C.prog C.w) A (f [v]) (After C A [] H as s Φ) E s) : WPt C n O [d] f Φ := fun A H as s vs E rm M hv => by
  obtain ⟨v, rfl, h1⟩ := dens1 hv
  exact h A H as s E v rm M h1
theorem WPt_2 {d e f} (h : ∀ A H as s E v u, Room n A → Mem C A H as O s → DenD H as d v → DenD H as e u → wpAny (model C.prog C.w) A (f [v, u]) (After C A [] H as s Φ) E s) : WPt C n O [d, e] f Φ := fun A H as s vs E rm M hv => by
  obtain ⟨v, u, rfl, h1, h2⟩ := dens2 hv
  exact h A H as s E v u rm M h1 h2
theorem WPt_ii {f} (h : ∀ A H as s E t t', Mem C A H as O s → wpAny (model C.prog C.w) A (f [.int a t, .int b t']) (After C A [] H as s Φ) E s) : WPt C n O [.val (.int a), .val (.int b)] f Φ := WPt_2 fun A H as s E v u rm M h1 h2 => by
  obtain ⟨t, rfl⟩ := denInt h1
  obtain ⟨t', rfl⟩ := denInt h2
  exact h A H as s E t t' M
theorem WPt_ss {f} (h : ∀ A H as s E t t', Mem C A H as O s → wpAny (model C.prog C.w) A (f [.str x t, .str y t']) (After C A [] H as s Φ) E s) : WPt C n O [.val (.str x), .val (.str y)] f Φ := WPt_2 fun A H as s E v u rm M h1 h2 => by
  obtain ⟨t, rfl⟩ := denStr h1
  obtain ⟨t', rfl⟩ := denStr h2
  exact h A H as s E t t' M

theorem after_int {X H as s i t} (M : Mem C A H as O s) (h : Φ (.val (.int i)) O) {k : Nat} : After C A X H as s Φ (.int i t) { s with toks := k } := ⟨_, O, H, as, h, M.tok _, isInt, Rel.tok _⟩
theorem after_str {X H as s x t} (M : Mem C A H as O s) (h : Φ (.val (.str x)) O) {k : Nat} : After C A X H as s Φ (.str x t) { s with toks := k } := ⟨_, O, H, as, h, M.tok _, isStr, Rel.tok _⟩
theorem after_bool {X H as s b} (M : Mem C A H as O s) (h : Φ (.val (.bool b)) O) : After C A X H as s Φ (.bool b) s := ⟨_, O, H, as, h, M, isBool, Rel.refl⟩

theorem B_add (h : Φ (.val (.int (a + b))) O) : WPt C n O [.val (.int a), .val (.int b)] (opB .Add) Φ := WPt_ii fun A H as s E t t' M => wpAny_add_int (after_int M h)
theorem B_sub (h : Φ (.val (.int (a - b))) O) : WPt C n O [.val (.int a), .val (.int b)] (opB .Sub) Φ := WPt_ii fun A H as s E t t' M => sub_int' (after_int M h)
theorem B_floordiv (hb : b ≠ 0) (hs : b.natAbs < 1073741824) (h : Φ (.val (.int (a.fdiv b))) O) : WPt C n O [.val (.int a), .val (.int b)] (opB .FloorDiv) Φ := WPt_ii fun A H as s E t t' M => floordiv_int hb (after_int M h) (.inl (PyProof.noPylong_small hs))
theorem B_mod (hb : b ≠ 0) (h : Φ (.val (.int (a.fmod b))) O) : WPt C n O [.val (.int a), .val (.int b)] (opB .Mod) Φ := WPt_ii fun A H as s E t t' M => mod_int' hb (after_int M h)
theorem B_rshift (hb : 0 ≤ b) (h : Φ (.val (.int (a.fdiv (2 ^ b.toNat)))) O) : WPt C n O [.val (.int a), .val (.int b)] (opB .RShift) Φ := WPt_ii fun A H as s E t t' M => rshift_int hb (after_int M h)
theorem B_and (h : Φ (.val (.int (Builtin.bitAnd a b))) O) : WPt C n O [.val (.int a), .val (.int b)] (opB .BitAnd) Φ := WPt_ii fun A H as s E t t' M => and_int (after_int M h)
theorem B_pow (hb : 0 ≤ b) (hs : (Builtin.Int.intBits a : Int) * b ≤ 2 ^ 27) (h : Φ (.val (.int (a ^ b.toNat))) O) : WPt C n O [.val (.int a), .val (.int b)] (opB .Pow) Φ := WPt_ii fun A H as s E t t' M => pow_int hb hs (after_int M h)
theorem U_neg (h : Φ (.val (.int (-a))) O) : WPt C n O [.val (.int a)] (opU .USub) Φ := WPt_1 fun A H as s E v rm M h1 => by
  obtain ⟨t, rfl⟩ := denInt h1
  exact P.neg_int (after_int M h)

theorem B_addS (hs : x.length + y.length ≤ sizeLine) (h : Φ (.val (.str (x ++ y))) O) : WPt C n O [.val (.str x), .val (.str y)] (opB .Add) Φ := WPt_ss fun A H as s E t t' M => SBL.add (fun t' k _ => after_str M h) hs

noncomputable def repStr (x : Str) (k : Nat) : Str := ⟨(List.replicate k x.cps.toList).flatten.toArray⟩
theorem foldl_append_flatten {α : Type} : ∀ (l : List (Array α)) (acc : Array α), List.foldl (fun x y => x ++ y) acc l = acc ++ (l.map Array.toList).flatten.toArray
  | [], acc => by simp
  | x :: r, acc => by
    rw [List.foldl_cons, foldl_append_flatten r]
    apply Array.toList_inj.mp
    simp
theorem B_mulS (h0 : 0 ≤ b) (h1 : b < 2 ^ 20) (hx : x.length < 2 ^ 20) (hs : x.length * b.toNat ≤ sizeLine) (h : Φ (.val (.str (repStr x b.toNat))) O) : WPt C n O [.val (.str x), .val (.int b)] (opB .Mult) Φ := WPt_2 fun A H as s E v u rm M h1' h2 => by
  obtain ⟨t, rfl⟩ := denStr h1'
  obtain ⟨t', rfl⟩ := denInt h2
  have key : (if b < 1 then Made.str Str.empty else if (b == 1 || x.length == 0) = true then Made.val (Value.str x t) else Made.str { cps := List.foldl (fun x1 x2 => x1 ++ x2) #[] (List.replicate b.toNat x.cps) }).post
      (After C A [] H as s Φ) s := by
    have e2 : ∀ k, ({ cps := List.foldl (fun x1 x2 => x1 ++ x2) #[] (List.replicate k x.cps) } : Str) = repStr x k := fun k => by
      unfold repStr
      rw [foldl_append_flatten]; simp
    have rl : (repStr x b.toNat).length ≤ sizeLine := by
      have : (repStr x b.toNat).length = b.toNat * x.length := by
        unfold repStr Str.length; simp
      rw [this, Nat.mul_comm]; exact hs
    split
    · have e : b = 0 := by (first | exact Int.le_antisymm (Int.le_of_lt_add_one (by assumption)) h0 | lia)
      subst e
      have e1 : repStr x (0 : Int).toNat = Str.empty := by unfold repStr; rfl
      rw [e1] at h
      exact ⟨by decide, after_str M h⟩
    · split
      · rename_i hb hc
        rw [Bool.or_eq_true] at hc
        have e1 : repStr x b.toNat = x := by
          rcases hc with hc | hc
          · have e : b = 1 := by simpa using hc
            subst e
            unfold repStr; simp
          · have e : x.cps.size = 0 := by
              have : x.length = 0 := by simpa using hc
              exact this
            have e' : x.cps = #[] := Array.eq_empty_of_size_eq_zero e
            unfold repStr; rw [e']
            obtain ⟨c⟩ := x
            dsimp only at e' ⊢
            subst e'
            simp
        rw [e1] at h
        exact ⟨_, O, H, as, h, M, isStr, Rel.refl⟩
      · rw [e2]
        exact ⟨rl, after_str M h⟩
  refine P.mul_str (by simp; (first | exact ⟨zLo h0, Int.lt_trans h1 (by decide)⟩ | lia)) (fun _ _ => ?_) (fun _ _ => ?_) key
  · have hb : 1 ≤ b := by (first | exact Int.not_lt.mp (by assumption) | lia)
    have : (2 ^ 43 : Int) ≤ (2 ^ 63 - 1) / b := Int.le_ediv_of_mul_le (by (first | exact Int.lt_of_lt_of_le Int.zero_lt_one (Int.not_lt.mp (by assumption)) | omega)) (by lia)
    have hx' : (x.length : Int) < 2 ^ 20 := by (first | exact Int.ofNat_lt.mpr hx | lia)
    lia
  · unfold Builtin.Str.tooLong
    simp only [decide_eq_false_iff_not]
    (first | exact Nat.not_lt.mpr hs | lia)

theorem B_addL {ts us : List T} (hs : ts.length + us.length ≤ sizeLine) {d e : D} (hd : listD O d = some ts) (he : listD O e = some us) (h : Φ (.val (.list (ts ++ us))) O) : WPt C n O [d, e] (opB .Add) Φ := WPt_2 fun A H as s E v u rm M h1 h2 => by
  obtain ⟨a, vs, k, rfl, g, dl⟩ := listD_at M hd h1
  obtain ⟨b, us, j, rfl, g', dl'⟩ := listD_at M he h2
  have hsz : vs.size + us.size ≤ sizeLine := by rw [← Array.length_toList, ← Array.length_toList, dl.length, dl'.length]; exact hs
  refine concat_meets ⟨_, g, rfl⟩ ⟨_, g', rfl⟩ noFill_list_add seq_list_add PySem.F.slot_list_add PySem.F.entry_list_add (PySem.F.args_list_add_2 _ _) (list_addW a b vs us k j none none #[] #[] hsz) ⟨g, g', ?_⟩
  obtain ⟨M₂, R₂⟩ := M.put (o := listO (vs ++ us) 0) (s' := { s with heap := s.heap.push (listO (vs ++ us) 0) }) (get?_size _) (Heap.get?_push_size _ rfl) (fun b o e => Heap.get?_push_of_some _ e) rfl rfl
  refine ⟨_, O, _, as, h, M₂, ?_, R₂ _⟩
  unfold DenD Den
  refine ⟨_, _, 0, rfl, PHeap.put_self, ?_⟩
  rw [Array.toList_append]
  exact (DenL.mono (R₂ []).mono _ _ dl).append (DenL.mono (R₂ []).mono _ _ dl')

noncomputable def repL {α : Type} (k : Nat) (ts : List α) : List α := (List.replicate k ts).flatten
-- comparisons of ints and texts
theorem C_eqI (h : Φ (.val (.bool (a == b))) O) : WPt C n O [.val (.int a), .val (.int b)] (opC .Eq) Φ := WPt_ii fun A H as s E t t' M => eq_int (after_bool M h)
theorem C_ltI (h : Φ (.val (.bool (decide (a < b)))) O) : WPt C n O [.val (.int a), .val (.int b)] (opC .Lt) Φ := WPt_ii fun A H as s E t t' M => lt_int (after_bool M h)
theorem C_gtI (h : Φ (.val (.bool (decide (b < a)))) O) : WPt C n O [.val (.int a), .val (.int b)] (opC .Gt) Φ := WPt_ii fun A H as s E t t' M => gt_int (after_bool M h)
theorem C_eqS (h : Φ (.val (.bool (x == y))) O) : WPt C n O [.val (.str x), .val (.str y)] (opC .Eq) Φ := WPt_ss fun A H as s E t t' M => eq_str (after_bool M h)
noncomputable def isNoneD : D → Bool
  | .val .none => true
  | _ => false
theorem none_eq {H as d v} (hv : DenD H as d v) (hd : ∀ u, d = .val (.static u) → u ≠ .none) : (v == Value.none) = isNoneD d := by
  have beqNone : ∀ v : Value, v ≠ .none → (v == Value.none) = false := fun v h => by simpa using h
  cases d with
  | ref i => obtain ⟨a, _, rfl⟩ := hv; exact beqNone _ (by simp)
  | val t =>
    cases t with
    | none => have := denNone hv; subst this; simp [isNoneD]
    | bool b => have := denBool hv; subst this; exact beqNone _ (by simp)
    | int i => obtain ⟨t, rfl⟩ := denInt hv; exact beqNone _ (by simp)
    | str x => obtain ⟨t, rfl⟩ := denStr hv; exact beqNone _ (by simp)
    | static u => have := denStatic hv; subst this; exact beqNone _ (hd _ rfl)
    | list ts => unfold DenD Den at hv; obtain ⟨a, vs, k, rfl, _⟩ := hv; exact beqNone _ (by simp)
    | tup ts => unfold DenD Den at hv; obtain ⟨a, vs, k, rfl, _⟩ := hv; exact beqNone _ (by simp)
    | dict ks ts => unfold DenD Den at hv; obtain ⟨a, vs, k, rfl, _⟩ := hv; exact beqNone _ (by simp)
    | range a b c => unfold DenD Den at hv; obtain ⟨r, t, u, w, rfl, _⟩ := hv; exact beqNone _ (by simp)
theorem C_isNone {d : D} (hd : ∀ u, d = .val (.static u) → u ≠ .none) (h : Φ (.val (.bool (isNoneD d))) O) : WPt C n O [d, .val .none] (opC .Is) Φ := WPt_2 fun A H as s E v u rm M h1 h2 => by
  have e := denNone h2
  subst e
  refine PySem.is_none ?_
  show After C A [] H as s Φ (Value.bool (v == Value.none)) s
  rw [none_eq h1 hd]
  exact after_bool M h
theorem C_isNotNone {d : D} (hd : ∀ u, d = .val (.static u) → u ≠ .none) (h : Φ (.val (.bool (!isNoneD d))) O) : WPt C n O [d, .val .none] (opC .IsNot) Φ := WPt_2 fun A H as s E v u rm M h1 h2 => by
  have e := denNone h2
  subst e
  refine PySem.isNot_none ?_
  show After C A [] H as s Φ (Value.bool (!(v == Value.none))) s
  rw [none_eq h1 hd]
  exact after_bool M h
end
end Mine
end

section
set_option Elab.async false
set_option maxRecDepth 100000
set_option linter.unusedVariables false
namespace Mine
open PySem PySem.W PyProof.Rows PySem.Calls PySem.SeqAt
open AutoSeq1 (wpAny_loadPart')
open MeetsSeq MeetsSeq2 MeetsSeq3 SeqRoads2

mutual
noncomputable def eqT : T → T → Bool
  | .int a, .int b => a == b
  | .str x, .str y => x == y
  | .list ts, .list us => eqTs ts us
  | _, _ => false
noncomputable def eqTs : List T → List T → Bool
  | [], [] => true
  | t :: ts, u :: us => eqT t u && eqTs ts us
  | _, _ => false
end
mutual
noncomputable def datT : T → Bool
  | .int _ => true
  | .str _ => true
  | .list ts => datTs ts
  | _ => false
noncomputable def datTs : List T → Bool
  | [] => true
  | t :: ts => datT t && datTs ts
end
mutual
noncomputable def depT : T → Nat
  | .list ts => depTs ts + 1
  | _ => 0
noncomputable def depTs : List T → Nat
  | [] => 0
  | t :: ts => max (depT t) (depTs ts)
end

mutual
theorem Den.inj {H : PHeap} : ∀ (t u : T) (v : Value), datT t = true → datT u = true → Den H t v → Den H u v → t = u
  | .int i, u, v, _, hu, h1, h2 => by
    unfold Den at h1
    obtain ⟨t, rfl⟩ := h1
    cases u with
    | int j => unfold Den at h2; obtain ⟨t', e⟩ := h2; cases e; rfl
    | str y => unfold Den at h2; obtain ⟨t', e⟩ := h2; cases e
    | list us => unfold Den at h2; obtain ⟨a, vs, k, e, _⟩ := h2; cases e
    | _ => cases hu
  | .str x, u, v, _, hu, h1, h2 => by
    unfold Den at h1
    obtain ⟨t, rfl⟩ := h1
    cases u with
    | int j => unfold Den at h2; obtain ⟨t', e⟩ := h2; cases e
    | str y => unfold Den at h2; obtain ⟨t', e⟩ := h2; cases e; rfl
    | list us => unfold Den at h2; obtain ⟨a, vs, k, e, _⟩ := h2; cases e
    | _ => cases hu
  | .list ts, u, v, ht, hu, h1, h2 => by
    unfold Den at h1
    obtain ⟨a, vs, k, rfl, hH, dl⟩ := h1
    cases u with
    | int j => unfold Den at h2; obtain ⟨t', e⟩ := h2; cases e
    | str y => unfold Den at h2; obtain ⟨t', e⟩ := h2; cases e
    | list us =>
      unfold Den at h2
      obtain ⟨a', vs', k', e, hH', dl'⟩ := h2
      cases e
      rw [hH] at hH'
      cases hH'
      unfold datT at ht hu
      rw [DenL.inj ts us _ ht hu dl dl']
    | _ => cases hu
  | .none, _, _, h, _, _, _ => by cases h
  | .bool _, _, _, h, _, _, _ => by cases h
  | .static _, _, _, h, _, _, _ => by cases h
  | .tup _, _, _, h, _, _, _ => by cases h
  | .dict _ _, _, _, h, _, _, _ => by cases h
  | .range _ _ _, _, _, h, _, _, _ => by cases h
theorem DenL.inj {H : PHeap} : ∀ (ts us : List T) (vs : List Value), datTs ts = true → datTs us = true → DenL H ts vs → DenL H us vs → ts = us
  | [], [], _, _, _, _, _ => rfl
  | [], u :: us, vs, _, _, h1, h2 => by
    rw [DenL.nil_iff] at h1; subst h1
    rw [DenL.cons_iff] at h2; obtain ⟨v, r, e, _⟩ := h2; cases e
  | t :: ts, [], vs, _, _, h1, h2 => by
    rw [DenL.nil_iff] at h2; subst h2
    rw [DenL.cons_iff] at h1; obtain ⟨v, r, e, _⟩ := h1; cases e
  | t :: ts, u :: us, vs, ht, hu, h1, h2 => by
    unfold datTs at ht hu
    rw [Bool.and_eq_true] at ht hu
    rw [DenL.cons_iff] at h1 h2
    obtain ⟨v, r, rfl, d1, l1⟩ := h1
    obtain ⟨v', r', e, d2, l2⟩ := h2
    cases e
    rw [Den.inj t u v ht.1 hu.1 d1 d2, DenL.inj ts us r ht.2 hu.2 l1 l2]
end
mutual
theorem eqT_refl : ∀ t : T, datT t = true → eqT t t = true
  | .int i, _ => by unfold eqT; simp
  | .str x, _ => by unfold eqT; simp
  | .list ts, h => by unfold eqT; exact eqTs_refl ts h
  | .none, h => by cases h
  | .bool _, h => by cases h
  | .static _, h => by cases h
  | .tup _, h => by cases h
  | .dict _ _, h => by cases h
  | .range _ _ _, h => by cases h
theorem eqTs_refl : ∀ ts : List T, datTs ts = true → eqTs ts ts = true
  | [], _ => rfl
  | t :: ts, h => by
    unfold datTs at h
    rw [Bool.and_eq_true] at h
    unfold eqTs
    rw [eqT_refl t h.1, eqTs_refl ts h.2]; rfl
end
mutual
theorem eqT_eq : ∀ t u : T, eqT t u = true → t = u
  | .int a, .int b, h => by unfold eqT at h; rw [beq_iff_eq.mp h]
  | .str a, .str b, h => by unfold eqT at h; rw [beq_iff_eq.mp h]
  | .list ts, .list us, h => by unfold eqT at h; rw [eqTs_eq ts us h]
  | .none, _, h => by simp [eqT] at h
  | .bool _, _, h => by simp [eqT] at h
  | .static _, _, h => by simp [eqT] at h
  | .tup _, _, h => by simp [eqT] at h
  | .dict _ _, _, h => by simp [eqT] at h
  | .range _ _ _, _, h => by simp [eqT] at h
  | .int _, .none, h => by simp [eqT] at h
  | .int _, .bool _, h => by simp [eqT] at h
  | .int _, .str _, h => by simp [eqT] at h
  | .int _, .static _, h => by simp [eqT] at h
  | .int _, .list _, h => by simp [eqT] at h
  | .int _, .tup _, h => by simp [eqT] at h
  | .int _, .dict _ _, h => by simp [eqT] at h
  | .int _, .range _ _ _, h => by simp [eqT] at h
  | .str _, .none, h => by simp [eqT] at h
  | .str _, .bool _, h => by simp [eqT] at h
  | .str _, .int _, h => by simp [eqT] at h
  | .str _, .static _, h => by simp [eqT] at h
  | .str _, .list _, h => by simp [eqT] at h
  | .str _, .tup _, h => by simp [eqT] at h
  | .str _, .dict _ _, h => by simp [eqT] at h
  | .str _, .range _ _ _, h => by simp [eqT] at h
  | .list _, .none, h => by simp [eqT] at h
  | .list _, .bool _, h => by simp [eqT] at h
  | .list _, .int _, h => by simp [eqT] at h
  | .list _, .str _, h => by simp [eqT] at h
  | .list _, .static _, h => by simp [eqT] at h
  | .list _, .tup _, h => by simp [eqT] at h
  | .list _, .dict _ _, h => by simp [eqT] at h
  | .list _, .range _ _ _, h => by simp [eqT] at h
theorem eqTs_eq : ∀ ts us : List T, eqTs ts us = true → ts = us
  | [], [], _ => rfl
  | t :: ts, u :: us, h => by
    unfold eqTs at h
    rw [Bool.and_eq_true] at h
    rw [eqT_eq t u h.1, eqTs_eq ts us h.2]
  | [], _ :: _, h => by simp [eqTs] at h
  | _ :: _, [], h => by simp [eqTs] at h
end

theorem eqTs_all : ∀ (ts us : List T), ts.length = us.length → (List.range ts.length).all (fun j => eqT (ts.getD j .none) (us.getD j .none)) = eqTs ts us
  | [], [], _ => rfl
  | t :: ts, u :: us, h => by
    have ih := eqTs_all ts us (by simpa using h)
    unfold eqTs
    rw [← ih, List.length_cons, List.range_succ_eq_map, List.all_cons, List.all_map]
    rfl
  | [], _ :: _, h => by simp at h
  | _ :: _, [], h => by simp at h
theorem eqTs_len : ∀ (ts us : List T), ts.length ≠ us.length → eqTs ts us = false
  | [], [], h => by simp at h
  | [], _ :: _, _ => rfl
  | _ :: _, [], _ => rfl
  | t :: ts, u :: us, h => by
    unfold eqTs
    rw [eqTs_len ts us (by simpa using h), Bool.and_false]
theorem datTs_get : ∀ {ts : List T} {j : Nat}, datTs ts = true → j < ts.length → datT (ts.getD j .none) = true
  | t :: ts, 0, h, _ => by unfold datTs at h; rw [Bool.and_eq_true] at h; exact h.1
  | t :: ts, j + 1, h, hj => by
    unfold datTs at h; rw [Bool.and_eq_true] at h
    exact datTs_get (ts := ts) (j := j) h.2 (by simpa using hj)
theorem depTs_get : ∀ {ts : List T} {j : Nat}, j < ts.length → depT (ts.getD j .none) ≤ depTs ts
  | t :: ts, 0, _ => by rw [depTs]; exact Nat.le_max_left ..
  | t :: ts, j + 1, hj => by
    rw [depTs]
    exact Nat.le_trans (depTs_get (ts := ts) (j := j) (by simpa using hj)) (Nat.le_max_right ..)
theorem DenL.getD {H : PHeap} {ts : List T} {vs : Array Value} (h : DenL H ts vs.toList) {j : Nat} (h1 : j < vs.size) : Den H (ts.getD j .none) vs[j] := by
  have hl : j < ts.length := by rw [← h.length, Array.length_toList]; exact h1
  obtain ⟨v, hv, d⟩ := h.get (List.getElem?_eq_getElem hl)
  have e : vs[j] = v := by
    rw [Array.getElem?_toList, Array.getElem?_eq_getElem h1] at hv
    exact Option.some.inj hv
  rw [e]
  have e2 : ts.getD j .none = ts[j] := by simp [List.getD, hl]
  rw [e2]; exact d
theorem DenL.size {H : PHeap} {ts : List T} {vs : Array Value} (h : DenL H ts vs.toList) : vs.size = ts.length := by rw [← h.length, Array.length_toList]

theorem sizeT_getD : ∀ {ts : List T} {j : Nat}, j < ts.length → sizeOf (ts.getD j .none) < sizeOf ts
  | t :: ts, 0, _ => by
    show sizeOf t < 1 + sizeOf t + sizeOf ts
    (first | exact Nat.lt_of_lt_of_le (Nat.lt_succ_self _) (zEq (Nat.add_comm _ 1) (Nat.le_add_right _ _)) | lia)
  | t :: ts, j + 1, h => by
    have := sizeT_getD (ts := ts) (j := j) (by simpa using h)
    show sizeOf (ts.getD j .none) < 1 + sizeOf t + sizeOf ts
    (first | exact Nat.lt_add_left _ this | lia)

theorem eqAt_den {H : PHeap} : ∀ (k : Nat) (t u : T), sizeOf t ≤ k → ∀ (A : Around) (s : Shared) (v w : Value), (∀ a o, H a = some o → s.heap.get? a = some o) → Den H t v → Den H u w → datT t = true → datT u = true →
    A.units + depT t < cLine → EqAt A s v w (eqT t u)
  | 0, t, u, hk, A, s, v, w, hs, h1, h2, d1, d2, hu => by cases t <;> simp at hk
  | k + 1, .int i, u, hk, A, s, v, w, hs, h1, h2, d1, d2, hu => by
    unfold Den at h1
    obtain ⟨t, rfl⟩ := h1
    cases u with
    | int j => unfold Den at h2; obtain ⟨t', rfl⟩ := h2; unfold eqT; exact EqAt.int_int i t j t'
    | str y => unfold Den at h2; obtain ⟨t', rfl⟩ := h2; unfold eqT; exact EqAt.int_str i t y t'
    | list us =>
      unfold Den at h2; obtain ⟨a, vs, n, rfl, hH, dl⟩ := h2; unfold eqT
      exact EqAt.int_list i t (isList_of (hs _ _ hH)) (by (exact hu))
    | _ => cases d2
  | k + 1, .str x, u, hk, A, s, v, w, hs, h1, h2, d1, d2, hu => by
    unfold Den at h1
    obtain ⟨t, rfl⟩ := h1
    cases u with
    | int j => unfold Den at h2; obtain ⟨t', rfl⟩ := h2; unfold eqT; exact EqAt.str_int x t j t'
    | str y => unfold Den at h2; obtain ⟨t', rfl⟩ := h2; unfold eqT; exact EqAt.str_str x t y t'
    | list us =>
      unfold Den at h2; obtain ⟨a, vs, n, rfl, hH, dl⟩ := h2; unfold eqT
      exact EqAt.str_list x t (isList_of (hs _ _ hH)) (by (exact hu))
    | _ => cases d2
  | k + 1, .list ts, u, hk, A, s, v, w, hs, h1, h2, d1, d2, hu => by
    have h1' := h1
    unfold Den at h1
    obtain ⟨a, vs, n, rfl, hH, dl⟩ := h1
    have hL := isList_of (hs _ _ hH)
    unfold depT at hu
    cases u with
    | int j => unfold Den at h2; obtain ⟨t', rfl⟩ := h2; unfold eqT; exact EqAt.list_int j t' hL (by (first | exact Nat.lt_of_add_right_lt hu | lia))
    | str y => unfold Den at h2; obtain ⟨t', rfl⟩ := h2; unfold eqT; exact EqAt.list_str y t' hL (by (first | exact Nat.lt_of_add_right_lt hu | lia))
    | list us =>
      have h2' := h2
      unfold Den at h2
      obtain ⟨b, ws, m, rfl, hH', dl'⟩ := h2
      have hL' := isList_of (hs _ _ hH')
      by_cases hab : a = b
      · subst hab
        have e := Den.inj _ _ _ d1 d2 h1' h2'
        rw [e, eqT_refl _ d2]
        exact EqAt.same _
      · unfold eqT
        unfold datT at d1 d2
        by_cases hsz : vs.size = ws.size
        · have hlen : ts.length = us.length := by rw [← dl.size, ← dl'.size]; exact hsz
          rw [← eqTs_all ts us hlen, ← dl.size]
          refine EqAt.of_refs hab (RcAt.lists hL hL' hsz (by (first | exact Nat.lt_of_add_right_lt hu | lia)) fun j j1 j2 => ?_)
          have jt : j < ts.length := by rw [← dl.size]; exact j1
          have ju : j < us.length := by rw [← dl'.size]; exact j2
          refine eqAt_den k _ _ ?_ A.in1 s _ _ hs (dl.getD j1) (dl'.getD j2) (datTs_get d1 jt) (datTs_get d2 ju) ?_
          · have := sizeT_getD jt
            simp at hk; (first | exact om81 hk this | lia)
          · have := depTs_get jt
            show A.units + 1 + _ < _
            (first | exact om38 hu this | lia)
        · rw [eqTs_len ts us (by rw [← dl.size, ← dl'.size]; exact hsz)]
          exact EqAt.of_refs hab (RcAt.lists_lengths hL hL' (by simpa using hsz) (by (first | exact Nat.lt_of_add_right_lt hu | lia)))
    | _ => cases d2
  | k + 1, .none, _, _, _, _, _, _, _, _, _, h, _, _ => by cases h
  | k + 1, .bool _, _, _, _, _, _, _, _, _, _, h, _, _ => by cases h
  | k + 1, .static _, _, _, _, _, _, _, _, _, _, h, _, _ => by cases h
  | k + 1, .tup _, _, _, _, _, _, _, _, _, _, h, _, _ => by cases h
  | k + 1, .dict _ _, _, _, _, _, _, _, _, _, _, h, _, _ => by cases h
  | k + 1, .range _ _ _, _, _, _, _, _, _, _, _, _, h, _, _ => by cases h

-- the order of lists
noncomputable def LtAt (A : Around) (s : Shared) (y x : Value) (b : Bool) : Prop :=
  ∀ (prog : Program) (w : World) (E : Value → Shared → Prop) (Q : Value → Shared → Prop), Q (.bool b) s → wpAny (model prog w) A (richCompare .Lt y x) Q E s

noncomputable def ltGo (e c : Nat → Bool) (n1 n2 : Nat) : Nat → Nat → Bool
  | 0, _ => decide (n1 < n2)
  | k + 1, i => if i < n1 ∧ i < n2 then (if e i then ltGo e c n1 n2 k (i + 1) else c i) else decide (n1 < n2)

theorem lt_loopAt (l b : Addr) (items items2 : Array Value) (n n2 : Nat) (dd dd2 : Option Addr) (sl sl2 : Array (Option Value)) (e c : Nat → Bool) (k : Nat) :
    ∀ i : Nat, items.size - i = k → (∀ j, j < i → e j = true) → Meets (Builtin.«list.__eq__.loop» ⟨[.ref l, .ref b, rawInt i, rawInt 0], []⟩)
      (fun A R s => s.heap.get? l = some { cls := .type "list", dict := dd, data := .seq items n, slots := sl } ∧ s.heap.get? b = some { cls := .type "list", dict := dd2, data := .seq items2 n2, slots := sl2 } ∧
        (∀ j (h1 : j < items.size) (h2 : j < items2.size), EqAt A.in1 s items[j] items2[j] (e j)) ∧
        (∀ j (h1 : j < items.size) (h2 : j < items2.size), (∀ j', j' < j → e j' = true) → e j = false → LtAt A.in1 s items[j] items2[j] (c j)) ∧
        R (.ok (.ret (.bool (ltGo e c items.size items2.size k i)))) s) := by
  have atEnd : ∀ i k : Nat, ¬ (i < items.size ∧ i < items2.size) → Meets (Builtin.«list.__eq__.loop» ⟨[.ref l, .ref b, rawInt i, rawInt 0], []⟩)
      (fun A R s => s.heap.get? l = some { cls := .type "list", dict := dd, data := .seq items n, slots := sl } ∧ s.heap.get? b = some { cls := .type "list", dict := dd2, data := .seq items2 n2, slots := sl2 } ∧
        (∀ j (h1 : j < items.size) (h2 : j < items2.size), EqAt A.in1 s items[j] items2[j] (e j)) ∧
        (∀ j (h1 : j < items.size) (h2 : j < items2.size), (∀ j', j' < j → e j' = true) → e j = false → LtAt A.in1 s items[j] items2[j] (c j)) ∧
        R (.ok (.ret (.bool (decide (items.size < items2.size))))) s) := by
    intro i k hi prog w A R s h
    obtain ⟨hp, g, d, tk, os⟩ := s; obtain ⟨hl, hb, he, hc, h⟩ := h
    wp_walk using wpAny_loadPart' hl, wpAny_loadPart' hb
    have hn : (items[((i : Nat) : Int).toNat]? = none) ∨ (items2[((i : Nat) : Int).toNat]? = none) := by
      by_cases h1 : i < items.size
      · exact .inr (by simp; (first | exact Nat.le_of_not_lt fun zz => hi ⟨h1, zz⟩ | lia))
      · exact .inl (by simp; (exact Nat.le_of_not_lt h1))
    cases q1 : items[((i : Nat) : Int).toNat]? with
    | none =>
      wp_walk using wpAny_loadPart' hl, wpAny_loadPart' hb
      exact h
    | some x =>
      cases q2 : items2[((i : Nat) : Int).toNat]? with
      | none =>
        wp_walk using wpAny_loadPart' hl, wpAny_loadPart' hb
        exact h
      | some y => rw [q1, q2] at hn; rcases hn with hn | hn <;> cases hn
  induction k with
  | zero =>
    intro i hk _
    exact atEnd i 0 (by (first | exact fun zz => Nat.not_le_of_lt zz.1 (Nat.le_of_sub_eq_zero hk) | lia))
  | succ k ih =>
    intro i hk hpre
    by_cases hin : i < items2.size
    · intro prog w A R s h
      obtain ⟨hp, g, d, tk, os⟩ := s; obtain ⟨hl, hb, he, hc, h⟩ := h
      wp_walk using wpAny_loadPart' hl, wpAny_loadPart' hb
      have hlt : i < items.size := by (first | exact Nat.lt_of_sub_eq_succ hk | omega)
      have hlt2 : i < items2.size := hin
      have hi1 : items[((i : Nat) : Int).toNat]? = some items[i] := by simp [hlt]
      have hi2 : items2[((i : Nat) : Int).toNat]? = some items2[i] := by simp [hlt2]
      have hc1 : ((i : Int) + 1) = ((i + 1 : Nat) : Int) := by push_cast; rfl
      unfold ltGo at h
      rw [if_pos ⟨hlt, hlt2⟩] at h
      rw [hi1, hi2]
      refine wpAny_bind (he i hlt hlt2 prog w _ _ ?_)
      cases hb' : e i with
      | true =>
        rw [hb'] at h
        wp_walk
        rw [hc1]
        exact ⟨plainId_quiet plain_eq_loop _, codeAny_builtin entry_eq_loop (by
          rw [Around.under_plainId plain_eq_loop _]
          exact ih (i + 1) (by (first | exact congrArg Nat.pred hk | lia)) (fun j hj => by
            rcases Nat.lt_succ_iff_lt_or_eq.mp hj with h | h
            · exact hpre j h
            · rw [h]; exact hb') prog w A R _ ⟨hl, hb, he, hc, by simpa using h⟩)⟩
      | false =>
        rw [hb'] at h
        wp_walk using wpAny_loadPart' hl, wpAny_loadPart' hb
        rw [hi1, hi2]
        refine wpAny_bind (hc i hlt hlt2 hpre hb' prog w _ _ ?_)
        wp_walk
        simpa using h
    · have := atEnd i (k + 1) (by (first | exact fun zz => hin zz.2 | lia))
      unfold ltGo
      rw [if_neg (by (first | exact fun zz => hin zz.2 | lia))]
      exact this

theorem list_ltAt (l b : Addr) (items items2 : Array Value) (n n2 : Nat) (dd dd2 : Option Addr) (sl sl2 : Array (Option Value)) (e c : Nat → Bool) :
    Meets (Builtin.«list.__lt__» ⟨[.ref l, .ref b], []⟩)
      (fun A R s => s.heap.get? l = some { cls := .type "list", dict := dd, data := .seq items n, slots := sl } ∧ s.heap.get? b = some { cls := .type "list", dict := dd2, data := .seq items2 n2, slots := sl2 } ∧
        (∀ j (h1 : j < items.size) (h2 : j < items2.size), EqAt A.in1 s items[j] items2[j] (e j)) ∧
        (∀ j (h1 : j < items.size) (h2 : j < items2.size), (∀ j', j' < j → e j' = true) → e j = false → LtAt A.in1 s items[j] items2[j] (c j)) ∧
        R (.ok (.ret (.bool (ltGo e c items.size items2.size items.size 0)))) s) := by
  intro prog w A R s h
  obtain ⟨hp, g, d, tk, os⟩ := s; obtain ⟨hl, hb, he, hc, h⟩ := h
  have f3 := AutoSeq1.sub_list_list
  wp_walk using wpAny_loadPart' hl, wpAny_loadPart' hb
  exact ⟨plainId_quiet plain_eq_loop _, codeAny_builtin entry_eq_loop (by
    rw [Around.under_plainId plain_eq_loop _]
    exact lt_loopAt l b items items2 n n2 dd dd2 sl sl2 e c _ 0 rfl (fun j hj => by lia) prog w A R _ ⟨hl, hb, he, hc, by simpa using h⟩)⟩

theorem LtAt.lists {A : Around} {s : Shared} {l b : Addr} {items items2 : Array Value} {e c : Nat → Bool} (hl : s.heap.IsList l items) (hb : s.heap.IsList b items2) (hu : A.units < cLine)
    (he : ∀ j (h1 : j < items.size) (h2 : j < items2.size), EqAt A.in1 s items[j] items2[j] (e j))
    (hc : ∀ j (h1 : j < items.size) (h2 : j < items2.size), (∀ j', j' < j → e j' = true) → e j = false → LtAt A.in1 s items[j] items2[j] (c j)) :
    LtAt A s (.ref l) (.ref b) (ltGo e c items.size items2.size items.size 0) := fun prog w E Q h => by
  obtain ⟨⟨cls, dd, data, sl⟩, ho, hcl, n, hd⟩ := id hl
  obtain ⟨⟨cls2, dd2, data2, sl2⟩, ho2, hc2, n2, hd2⟩ := id hb
  simp only at hcl hd hc2 hd2
  subst hcl hd hc2 hd2
  exact richCompare_meets_room (op := .Lt) ⟨_, ho, rfl⟩ ⟨_, ho2, rfl⟩ F.slot_list_lt F.entry_list_lt (F.args_list_lt_2 _ _) (list_ltAt l b items items2 n n2 dd dd2 sl sl2 e c)
    ⟨ho, ho2, he, hc, show Value.bool _ ≠ Value.notImplemented ∧ Q (.bool _) s from ⟨(fun x => nomatch x), h⟩⟩ hu

end Mine
end

section
set_option Elab.async false
set_option maxRecDepth 100000
set_option linter.unusedVariables false
namespace Mine
open PySem PySem.W PyProof.Rows PySem.Calls PySem.SeqAt

mutual
noncomputable def ltT : T → T → Bool
  | .int a, .int b => decide (a < b)
  | .str x, .str y => decide (x.cps.toList < y.cps.toList)
  | .list ts, .list us => ltTs ts us
  | _, _ => false
noncomputable def ltTs : List T → List T → Bool
  | [], us => decide (0 < us.length)
  | _ :: _, [] => false
  | t :: ts, u :: us => if eqT t u then ltTs ts us else ltT t u
end
mutual
noncomputable def cmpT : T → T → Bool
  | .int _, .int _ => true
  | .str _, .str _ => true
  | .list ts, .list us => cmpTs ts us
  | _, _ => false
noncomputable def cmpTs : List T → List T → Bool
  | t :: ts, u :: us => if eqT t u then cmpTs ts us else cmpT t u
  | _, _ => true
end

theorem ltGo_eq : ∀ (k : Nat) (ts us : List T) (i : Nat), ts.length - i = k →
    ltGo (fun j => eqT (ts.getD j .none) (us.getD j .none)) (fun j => ltT (ts.getD j .none) (us.getD j .none)) ts.length us.length k i = (if ts.length ≤ i ∧ us.length ≤ i then decide (ts.length < us.length) else ltTs (ts.drop i) (us.drop i))
  | 0, ts, us, i, hk => by
    unfold ltGo
    split
    · rfl
    · rename_i h
      have h1 : ts.length ≤ i := Nat.le_of_sub_eq_zero hk
      have h2 : i < us.length := Nat.lt_of_not_le fun q => h ⟨h1, q⟩
      have hd : ts.drop i = [] := List.drop_eq_nil_of_le h1
      rw [hd]
      unfold ltTs
      rw [List.length_drop]
      exact decide_eq_decide.mpr (iff_of_true (Nat.lt_of_le_of_lt h1 h2) (Nat.sub_pos_of_lt h2))
  | k + 1, ts, us, i, hk => by
    have hi : i < ts.length := Nat.lt_of_sub_eq_succ hk
    have hr : (if ts.length ≤ i ∧ us.length ≤ i then decide (ts.length < us.length) else ltTs (ts.drop i) (us.drop i)) = ltTs (ts.drop i) (us.drop i) := if_neg fun q => Nat.not_le.mpr hi q.1
    rw [hr]
    unfold ltGo
    have hd : ts.drop i = ts[i] :: ts.drop (i + 1) := List.drop_eq_getElem_cons hi
    by_cases hu : i < us.length
    · rw [if_pos ⟨hi, hu⟩]
      have hd2 : us.drop i = us[i] :: us.drop (i + 1) := List.drop_eq_getElem_cons hu
      have g1 : ts.getD i .none = ts[i] := by simp [List.getD, hi]
      have g2 : us.getD i .none = us[i] := by simp [List.getD, hu]
      rw [hd, hd2, g1, g2]
      rw [ltTs]
      split
      · rw [ltGo_eq k ts us (i + 1) (by (first | exact congrArg Nat.pred hk | omega))]
        split
        · rename_i h
          have e1 : ts.drop (i + 1) = [] := List.drop_eq_nil_of_le h.1
          have e2 : us.drop (i + 1) = [] := List.drop_eq_nil_of_le h.2
          rw [e1, e2]
          have : ¬ ts.length < us.length := Nat.not_lt.mpr (Nat.le_trans h.2 hi)
          rw [decide_eq_false this]; rfl
        · rfl
      · rfl
    · rw [if_neg fun q => hu q.2]
      have hd2 : us.drop i = [] := List.drop_eq_nil_of_le (Nat.le_of_not_lt hu)
      rw [hd, hd2, ltTs]
      exact decide_eq_false (Nat.not_lt.mpr (Nat.le_trans (Nat.le_of_not_lt hu) (Nat.le_of_lt hi)))
theorem ltGo_all (ts us : List T) : ltGo (fun j => eqT (ts.getD j .none) (us.getD j .none)) (fun j => ltT (ts.getD j .none) (us.getD j .none)) ts.length us.length ts.length 0 = ltTs ts us := by
  rw [ltGo_eq _ ts us 0 (by rfl)]
  split
  · rename_i h
    have e1 : ts = [] := List.length_eq_zero_iff.mp (by (first | exact Nat.le_zero.mp h.1 | lia))
    have e2 : us = [] := List.length_eq_zero_iff.mp (by (first | exact Nat.le_zero.mp h.2 | lia))
    subst e1; subst e2; rfl
  · rfl

theorem cmpTs_get : ∀ {ts us : List T} {j : Nat}, cmpTs ts us = true → j < ts.length → j < us.length → (∀ j', j' < j → eqT (ts.getD j' .none) (us.getD j' .none) = true) → eqT (ts.getD j .none) (us.getD j .none) = false → cmpT (ts.getD j .none) (us.getD j .none) = true
  | t :: ts, u :: us, 0, h, _, _, _, he => by
    have he : eqT t u = false := he
    unfold cmpTs at h
    rw [he] at h
    simpa using h
  | t :: ts, u :: us, j + 1, h, h1, h2, hp, he => by
    unfold cmpTs at h
    have h0 : eqT t u = true := hp 0 (by (exact Nat.succ_pos _))
    rw [h0, if_pos rfl] at h
    exact cmpTs_get (ts := ts) (us := us) (j := j) h (by simpa using h1) (by simpa using h2) (fun j' hj' => hp (j' + 1) (by (exact Nat.lt_succ_of_le hj'))) he

theorem ltAt_den {H : PHeap} : ∀ (k : Nat) (t u : T), sizeOf t ≤ k → ∀ (A : Around) (s : Shared) (v w : Value), (∀ a o, H a = some o → s.heap.get? a = some o) → Den H t v → Den H u w → datT t = true → datT u = true → cmpT t u = true →
    A.units + depT t < cLine → LtAt A s v w (ltT t u)
  | 0, t, u, hk, A, s, v, w, hs, h1, h2, d1, d2, hc, hu => by cases t <;> simp at hk
  | k + 1, .int i, .int j, hk, A, s, v, w, hs, h1, h2, d1, d2, hc, hu => by
    unfold Den at h1 h2
    obtain ⟨t, rfl⟩ := h1
    obtain ⟨t', rfl⟩ := h2
    intro prog w E Q hq
    unfold ltT at hq
    exact lt_int hq
  | k + 1, .str x, .str y, hk, A, s, v, w, hs, h1, h2, d1, d2, hc, hu => by
    unfold Den at h1 h2
    obtain ⟨t, rfl⟩ := h1
    obtain ⟨t', rfl⟩ := h2
    intro prog w E Q hq
    unfold ltT at hq
    exact lt_str hq
  | k + 1, .list ts, .list us, hk, A, s, v, w, hs, h1, h2, d1, d2, hc, hu => by
    unfold Den at h1 h2
    obtain ⟨a, vs, n, rfl, hH, dl⟩ := h1
    obtain ⟨b, ws, m, rfl, hH', dl'⟩ := h2
    have hL := isList_of (hs _ _ hH)
    have hL' := isList_of (hs _ _ hH')
    unfold depT at hu
    unfold datT at d1 d2
    unfold cmpT at hc
    unfold ltT
    rw [← ltGo_all ts us]
    have e1 := dl.size
    have e2 := dl'.size
    rw [← e1, ← e2]
    refine LtAt.lists hL hL' (by (first | exact Nat.lt_of_add_right_lt hu | lia)) (fun j j1 j2 => ?_) fun j j1 j2 hp he => ?_
    · have jt : j < ts.length := by (first | exact Nat.lt_of_lt_of_eq j1 e1 | lia)
      have ju : j < us.length := by (first | exact Nat.lt_of_lt_of_eq j2 e2 | lia)
      refine eqAt_den _ _ _ (Nat.le_refl _) A.in1 s _ _ hs (dl.getD j1) (dl'.getD j2) (datTs_get d1 jt) (datTs_get d2 ju) ?_
      have := depTs_get jt
      show A.units + 1 + _ < _
      (first | exact om38 hu this | lia)
    · have jt : j < ts.length := by (first | exact Nat.lt_of_lt_of_eq j1 e1 | lia)
      have ju : j < us.length := by (first | exact Nat.lt_of_lt_of_eq j2 e2 | lia)
      refine ltAt_den k _ _ ?_ A.in1 s _ _ hs (dl.getD j1) (dl'.getD j2) (datTs_get d1 jt) (datTs_get d2 ju) (cmpTs_get hc jt ju hp he) ?_
      · have := sizeT_getD jt
        simp at hk; (first | exact om81 hk this | lia)
      · have := depTs_get jt
        show A.units + 1 + _ < _
        (first | exact om38 hu this | lia)
  | k + 1, .int _, .str _, _, _, _, _, _, _, _, _, _, _, hc, _ => by simp [cmpT] at hc
  | k + 1, .int _, .list _, _, _, _, _, _, _, _, _, _, _, hc, _ => by simp [cmpT] at hc
  | k + 1, .str _, .int _, _, _, _, _, _, _, _, _, _, _, hc, _ => by simp [cmpT] at hc
  | k + 1, .str _, .list _, _, _, _, _, _, _, _, _, _, _, hc, _ => by simp [cmpT] at hc
  | k + 1, .list _, .int _, _, _, _, _, _, _, _, _, _, _, hc, _ => by simp [cmpT] at hc
  | k + 1, .list _, .str _, _, _, _, _, _, _, _, _, _, _, hc, _ => by simp [cmpT] at hc
  | k + 1, .none, _, _, _, _, _, _, _, _, _, h, _, _, _ => by cases h
  | k + 1, .bool _, _, _, _, _, _, _, _, _, _, h, _, _, _ => by cases h
  | k + 1, .static _, _, _, _, _, _, _, _, _, _, h, _, _, _ => by cases h
  | k + 1, .tup _, _, _, _, _, _, _, _, _, _, h, _, _, _ => by cases h
  | k + 1, .dict _ _, _, _, _, _, _, _, _, _, _, h, _, _, _ => by cases h
  | k + 1, .range _ _ _, _, _, _, _, _, _, _, _, _, h, _, _, _ => by cases h
  | k + 1, .int _, .none, _, _, _, _, _, _, _, _, _, h, _, _ => by cases h
  | k + 1, .int _, .bool _, _, _, _, _, _, _, _, _, _, h, _, _ => by cases h
  | k + 1, .int _, .static _, _, _, _, _, _, _, _, _, _, h, _, _ => by cases h
  | k + 1, .int _, .tup _, _, _, _, _, _, _, _, _, _, h, _, _ => by cases h
  | k + 1, .int _, .dict _ _, _, _, _, _, _, _, _, _, _, h, _, _ => by cases h
  | k + 1, .int _, .range _ _ _, _, _, _, _, _, _, _, _, _, h, _, _ => by cases h
  | k + 1, .str _, .none, _, _, _, _, _, _, _, _, _, h, _, _ => by cases h
  | k + 1, .str _, .bool _, _, _, _, _, _, _, _, _, _, h, _, _ => by cases h
  | k + 1, .str _, .static _, _, _, _, _, _, _, _, _, _, h, _, _ => by cases h
  | k + 1, .str _, .tup _, _, _, _, _, _, _, _, _, _, h, _, _ => by cases h
  | k + 1, .str _, .dict _ _, _, _, _, _, _, _, _, _, _, h, _, _ => by cases h
  | k + 1, .str _, .range _ _ _, _, _, _, _, _, _, _, _, _, h, _, _ => by cases h
  | k + 1, .list _, .none, _, _, _, _, _, _, _, _, _, h, _, _ => by cases h
  | k + 1, .list _, .bool _, _, _, _, _, _, _, _, _, _, h, _, _ => by cases h
  | k + 1, .list _, .static _, _, _, _, _, _, _, _, _, _, h, _, _ => by cases h
  | k + 1, .list _, .tup _, _, _, _, _, _, _, _, _, _, h, _, _ => by cases h
  | k + 1, .list _, .dict _ _, _, _, _, _, _, _, _, _, _, h, _, _ => by cases h
  | k + 1, .list _, .range _ _ _, _, _, _, _, _, _, _, _, _, h, _, _ => by cases h

section
variable {C : Cx} {n : Nat} {O : List Ob} {Φ : D → List Ob → Prop} {t u : T}

theorem room_units {A : Around} (rm : Room n A) {d : Nat} (hd : d ≤ 60) : A.units + d < cLine := by
  have := rm.units
  have e : cLine = 9900 := rfl
  (first | exact Nat.lt_of_lt_of_eq (zLt (Nat.add_le_add (Nat.le_of_add_right_le this) hd) rfl) e.symm | lia)

theorem C_lt (d1 : datT t = true) (d2 : datT u = true) (hc : cmpT t u = true) (hd : depT t ≤ 60) (h : Φ (.val (.bool (ltT t u))) O) : WPt C n O [.val t, .val u] (opC .Lt) Φ := WPt_2 fun A H as s E v w rm M h1 h2 => by
  exact cmp_ofLt (ltAt_den _ t u (Nat.le_refl _) A s v w M.sat h1 h2 d1 d2 hc (room_units rm hd) _ _ _ _ (after_bool M h))

theorem C_eqL {ts us : List T} (d1 : datTs ts = true) (d2 : datTs us = true) (hd : depTs ts ≤ 40) (h : Φ (.val (.bool (eqTs ts us))) O) : WPt C n O [.val (.list ts), .val (.list us)] (opC .Eq) Φ := WPt_2 fun A H as s E v w rm M h1 h2 => by
  unfold DenD Den at h1 h2
  obtain ⟨a, vs, n, rfl, hH, dl⟩ := h1
  obtain ⟨b, ws, m, rfl, hH', dl'⟩ := h2
  have hL := isList_of (M.sat _ _ hH)
  have hL' := isList_of (M.sat _ _ hH')
  have e1 := dl.size
  have e2 := dl'.size
  refine cmp_ofEq ?_
  by_cases hsz : vs.size = ws.size
  · have hlen : ts.length = us.length := by (first | exact e1.symm.trans (hsz.trans e2) | lia)
    refine RcAt.lists (e := fun j => eqT (ts.getD j .none) (us.getD j .none)) hL hL' hsz (room_units rm (d := 0) (by (exact Nat.le_add_left _ _))) (fun j j1 j2 => ?_) _ _ _ _ ?_
    · have jt : j < ts.length := by (first | exact Nat.lt_of_lt_of_eq j1 e1 | lia)
      have ju : j < us.length := by (first | exact Nat.lt_of_lt_of_eq j1 (hsz.trans e2) | lia)
      refine eqAt_den _ _ _ (Nat.le_refl _) A.in1 s _ _ M.sat (dl.getD j1) (dl'.getD j2) (datTs_get d1 jt) (datTs_get d2 ju) ?_
      have := depTs_get jt
      have := room_units rm (d := 60) (by (exact Nat.le_refl _))
      show A.units + 1 + _ < _
      (first | exact om120 this hd (by assumption) | lia)
    · rw [e1, eqTs_all ts us hlen]
      exact after_bool M h
  · refine RcAt.lists_lengths hL hL' (by simpa using hsz) (room_units rm (d := 0) (by (exact Nat.le_add_left _ _))) _ _ _ _ ?_
    rw [eqTs_len ts us (by (first | exact fun ze => hsz (e1.trans (ze.trans e2.symm)) | lia))] at h
    exact after_bool M h
theorem C_neL {ts us : List T} (d1 : datTs ts = true) (d2 : datTs us = true) (hd : depTs ts ≤ 40) (h : Φ (.val (.bool (!eqTs ts us))) O) : WPt C n O [.val (.list ts), .val (.list us)] (opC .NotEq) Φ := WPt_2 fun A H as s E v w rm M h1 h2 => by
  unfold DenD Den at h1 h2
  obtain ⟨a, vs, n, rfl, hH, dl⟩ := h1
  obtain ⟨b, ws, m, rfl, hH', dl'⟩ := h2
  have hL := isList_of (M.sat _ _ hH)
  have hL' := isList_of (M.sat _ _ hH')
  have e1 := dl.size
  have e2 := dl'.size
  refine cmp_ofNotEq ?_
  by_cases hsz : vs.size = ws.size
  · have hlen : ts.length = us.length := by (first | exact e1.symm.trans (hsz.trans e2) | lia)
    refine RcNeAt.lists (e := fun j => eqT (ts.getD j .none) (us.getD j .none)) hL hL' hsz (room_units rm (d := 0) (by (exact Nat.le_add_left _ _))) (fun j j1 j2 => ?_) _ _ _ _ ?_
    · have jt : j < ts.length := by (first | exact Nat.lt_of_lt_of_eq j1 e1 | lia)
      have ju : j < us.length := by (first | exact Nat.lt_of_lt_of_eq j1 (hsz.trans e2) | lia)
      refine eqAt_den _ _ _ (Nat.le_refl _) A.in1 s _ _ M.sat (dl.getD j1) (dl'.getD j2) (datTs_get d1 jt) (datTs_get d2 ju) ?_
      have := depTs_get jt
      have := room_units rm (d := 60) (by (exact Nat.le_refl _))
      show A.units + 1 + _ < _
      (first | exact om120 this hd (by assumption) | lia)
    · rw [e1, eqTs_all ts us hlen]
      exact after_bool M h
  · refine RcNeAt.lists_lengths hL hL' (by simpa using hsz) (room_units rm (d := 0) (by (first | exact Nat.zero_le _ | lia))) _ _ _ _ ?_
    rw [eqTs_len ts us (by (first | exact fun ze => hsz (e1.trans (ze.trans e2.symm)) | lia))] at h
    exact after_bool M h

theorem any_den {H : PHeap} {x : T} (dx : datT x = true) {e : Value → Bool} (he : ∀ y t, Den H t y → datT t = true → e y = eqT t x) : ∀ {ts : List T} {vs : List Value}, DenL H ts vs → datTs ts = true → vs.any e = ts.any (fun t => eqT t x)
  | [], vs, h, _ => by rw [DenL.nil_iff] at h; subst h; rfl
  | t :: ts, vs, h, hd => by
    unfold datTs at hd
    rw [Bool.and_eq_true] at hd
    rw [DenL.cons_iff] at h
    obtain ⟨v, r, rfl, h1, h2⟩ := h
    rw [List.any_cons, List.any_cons, he v t h1 hd.1, any_den dx he h2 hd.2]
open Classical in
theorem C_inGen {ts : List T} {d : D} {x : T} (dx : datT x = true) (dt : datTs ts = true) (hd : depTs ts ≤ 40) (hl : listD O d = some ts) {A H as s v w} (rm : Room n A) (M : Mem C A H as O s) (h1 : DenD H as (.val x) v) (h2 : DenD H as d w) :
    ∃ l items e, w = .ref l ∧ s.heap.IsList l items ∧ (∀ y, y ∈ items → EqAt A.in1 s y v (e y)) ∧ items.any e = ts.any (fun t => eqT t x) := by
  obtain ⟨a, vs, k, rfl, g, dl⟩ := listD_at M hl h2
  let e : Value → Bool := fun y => decide (∃ t, Den H t y ∧ datT t = true ∧ eqT t x = true)
  have he : ∀ y t, Den H t y → datT t = true → e y = eqT t x := fun y t hy hdt => by
    cases q : eqT t x with
    | true => exact decide_eq_true ⟨t, hy, hdt, q⟩
    | false =>
      refine decide_eq_false ?_
      rintro ⟨t', hy', hdt', q'⟩
      rw [Den.inj t' t y hdt' hdt hy' hy, q] at q'; cases q'
  refine ⟨a, vs, e, rfl, isList_of g, fun y hy => ?_, ?_⟩
  · obtain ⟨j, hj, rfl⟩ := Array.getElem_of_mem hy
    have jt : j < ts.length := by rw [← dl.size]; exact hj
    rw [he _ _ (dl.getD hj) (datTs_get dt jt)]
    refine eqAt_den _ _ _ (Nat.le_refl _) A.in1 s _ _ M.sat (dl.getD hj) h1 (datTs_get dt jt) dx ?_
    have := depTs_get jt
    have := room_units rm (d := 60) (by (exact Nat.le_refl _))
    show A.units + 1 + _ < _
    (first | exact om120 this hd (by assumption) | lia)
  · rw [← Array.any_toList]
    exact any_den dx he dl dt
theorem C_in {ts : List T} {d : D} {x : T} (dx : datT x = true) (dt : datTs ts = true) (hd : depTs ts ≤ 40) (hl : listD O d = some ts) (h : Φ (.val (.bool (ts.any fun t => eqT t x))) O) : WPt C n O [.val x, d] (opC .In) Φ := WPt_2 fun A H as s E v w rm M h1 h2 => by
  obtain ⟨l, items, e, rfl, hL, he, ha⟩ := C_inGen dx dt hd hl rm M h1 h2
  refine in_listAt e hL he ?_
  rw [ha]
  exact after_bool M h
theorem C_notIn {ts : List T} {d : D} {x : T} (dx : datT x = true) (dt : datTs ts = true) (hd : depTs ts ≤ 40) (hl : listD O d = some ts) (h : Φ (.val (.bool (!ts.any fun t => eqT t x))) O) : WPt C n O [.val x, d] (opC .NotIn) Φ := WPt_2 fun A H as s E v w rm M h1 h2 => by
  obtain ⟨l, items, e, rfl, hL, he, ha⟩ := C_inGen dx dt hd hl rm M h1 h2
  refine notIn_listAt e hL he ?_
  rw [ha]
  exact after_bool M h
end
end Mine
end

section
set_option Elab.async false
set_option maxRecDepth 100000
set_option linter.unusedVariables false
namespace Mine
open PySem PySem.W PyProof.Rows PySem.Calls

section
variable {C : Cx} {n : Nat} {O : List Ob} {Φ : D → List Ob → Prop}

theorem kws_nil {kvs : List (Str × Value)} (h : kvs.map (·.1) = ([] : List (Str × D)).map (·.1)) : kvs = [] := by simpa using h

theorem ConB_1 {fv d} (h : ∀ A H as s E v, Room n A → Mem C A H as O s → DenD H as d v → wpAny (model C.prog C.w) A (call fv [v] []) (After C A [] H as s Φ) E s) : ConB C n fv O [d] [] Φ := fun A H as s vs kvs E rm M h1 h2 h3 => by
  obtain rfl := kws_nil h2
  obtain ⟨v, rfl, d1⟩ := dens1 h1
  exact h A H as s E v rm M d1
theorem ConB_2 {fv d e} (h : ∀ A H as s E v u, Room n A → Mem C A H as O s → DenD H as d v → DenD H as e u → wpAny (model C.prog C.w) A (call fv [v, u] []) (After C A [] H as s Φ) E s) : ConB C n fv O [d, e] [] Φ := fun A H as s vs kvs E rm M h1 h2 h3 => by
  obtain rfl := kws_nil h2
  obtain ⟨v, u, rfl, d1, d2⟩ := dens2 h1
  exact h A H as s E v u rm M d1 d2
theorem ConB_3 {fv d e f} (h : ∀ A H as s E v u w, Room n A → Mem C A H as O s → DenD H as d v → DenD H as e u → DenD H as f w → wpAny (model C.prog C.w) A (call fv [v, u, w] []) (After C A [] H as s Φ) E s) : ConB C n fv O [d, e, f] [] Φ := fun A H as s vs kvs E rm M h1 h2 h3 => by
  obtain rfl := kws_nil h2
  obtain ⟨v, u, w, rfl, d1, d2, d3⟩ := dens3 h1
  exact h A H as s E v u w rm M d1 d2 d3

theorem upd_list {H as s i a items k ts ts'} {f : Array Value → Array Value} (M : Mem C A H as O s) (ha : as[i]? = some a) (hO : O[i]? = some (Ob.list ts)) (g : s.heap.get? a = some (listO items k)) (dl : DenL H ts' (f items).toList) {tk : Nat} :
    Mem C A H as (O.set i (Ob.list ts')) { s with heap := s.heap.update a (Obj.mapSeq f), toks := tk } ∧ ∀ X, Rel X H as s H as { s with heap := s.heap.update a (Obj.mapSeq f), toks := tk } := by
  have g' := Heap.get?_update_self (Obj.mapSeq f) g rfl
  have hn : H a = none := (M.obs i a _ ha hO).1
  exact M.upd (s' := { s with heap := s.heap.update a (Obj.mapSeq f), toks := tk }) ha ⟨hn, _, _, g', dl⟩ ⟨_, g'⟩ (fun b o hb e => by show (s.heap.update a _).get? b = some o; rw [Heap.get?_update_other _ _ (Ne.symm hb)]; exact e) hn rfl rfl

theorem own_at {H as s i ts v} (M : Mem C A H as O s) (hO : O[i]? = some (Ob.list ts)) (hv : DenD H as (.ref i) v) : ∃ a items k, as[i]? = some a ∧ v = .ref a ∧ s.heap.get? a = some (listO items k) ∧ DenL H ts items.toList := by
  obtain ⟨a, ha, rfl⟩ := hv
  obtain ⟨_, vs, k, g, dl⟩ := M.obs i a _ ha hO
  exact ⟨a, vs, k, ha, rfl, g, dl⟩

theorem F_append {i : Nat} {ts : List T} {t : T} (hO : O[i]? = some (Ob.list ts)) (hsz : ts.length ≤ sizeLine) (h : Φ (.val .none) (O.set i (.list (ts ++ [t])))) :
    ConB C n (.builtin "list.append") O [.ref i, .val t] [] Φ := ConB_2 fun A H as s E v u rm M d1 d2 => by
  obtain ⟨a, items, k, ha, rfl, g, dl⟩ := own_at M hO d1
  have hsz' : items.size ≤ sizeLine := by rw [dl.size]; exact hsz
  refine call_meets F.slot_list_append ⟨_, g, rfl⟩ F.entry_list_append (F.args_list_append_2 _ _) (PySem.list_append a items k u hsz') ⟨g, ?_⟩
  obtain ⟨M', R'⟩ := upd_list (f := fun x => x.push u) (tk := s.toks) M ha hO g (ts' := ts ++ [t]) (by rw [Array.toList_push]; exact dl.append (.cons d2 .nil))
  exact ⟨_, _, H, as, h, M', isNone, R' _⟩

theorem eraseIdx_den {H : PHeap} : ∀ {ts : List T} {vs : List Value} (k : Nat), DenL H ts vs → DenL H (ts.eraseIdx k) (vs.eraseIdx k)
  | [], vs, k, h => by rw [DenL.nil_iff] at h; subst h; simpa using DenL.nil
  | t :: ts, vs, 0, h => by
    rw [DenL.cons_iff] at h
    obtain ⟨v, r, rfl, h1, h2⟩ := h
    simpa using h2
  | t :: ts, vs, k + 1, h => by
    rw [DenL.cons_iff] at h
    obtain ⟨v, r, rfl, h1, h2⟩ := h
    simpa using DenL.cons h1 (eraseIdx_den k h2)

theorem F_pop {i : Nat} {ts : List T} {t : T} {j : Int} (hO : O[i]? = some (Ob.list ts)) (h0 : 0 ≤ j) (hj : ts[j.toNat]? = some t) (hsz : ts.length ≤ sizeLine) (h : Φ (.val t) (O.set i (.list (ts.eraseIdx j.toNat)))) :
    ConB C n (.builtin "list.pop") O [.ref i, .val (.int j)] [] Φ := ConB_2 fun A H as s E v u rm M d1 d2 => by
  obtain ⟨a, items, k, ha, rfl, g, dl⟩ := own_at M hO d1
  obtain ⟨u, rfl⟩ := denInt d2
  obtain ⟨y, hy, dy⟩ := dl.get hj
  have hlt : j.toNat < ts.length := (List.getElem?_eq_some_iff.mp hj).1
  have hsz' : items.size ≤ sizeLine := by rw [dl.size]; exact hsz
  have hs24 : sizeLine = 16777216 := rfl
  have hk : seqIndex? j items.size = some j.toNat := by
    unfold seqIndex?
    rw [dl.size]
    simp only [show ¬ j < 0 by (first | exact Int.not_lt_of_ge h0 | lia), if_false]
    first
      | (rw [if_pos (by lia)])
      | (simp; lia)
  refine call_meets F.slot_list_pop ⟨_, g, rfl⟩ F.entry_list_pop (F.args_list_pop_2 _ _) (MeetsSeq.list_pop_at a items k j u j.toNat y (by simp [Builtin.List.listFitsIndex]; (first | exact ⟨zLo h0, Int.lt_of_lt_of_le ((Int.toNat_lt h0).mp hlt) (Int.ofNat_le.mpr (zLe (Nat.le_trans hsz (Nat.le_of_eq hs24)) rfl))⟩ | lia)) hk (by simpa using hy) hsz') ⟨g, ?_⟩
  obtain ⟨M', R'⟩ := upd_list (f := fun xs => xs.eraseIdxIfInBounds j.toNat) (tk := s.toks) M ha hO g (ts' := ts.eraseIdx j.toNat) (by
    have hb : j.toNat < items.size := by rw [dl.size]; exact hlt
    have e : (items.eraseIdxIfInBounds j.toNat).toList = items.toList.eraseIdx j.toNat := by
      unfold Array.eraseIdxIfInBounds
      rw [dif_pos hb, Array.toList_eraseIdx]
    rw [e]; exact eraseIdx_den _ dl)
  exact ⟨_, _, H, as, h, M', dy, R' _⟩

noncomputable def insT {α : Type} (ts : List α) (j : Nat) (t : α) : List α := ts.take j ++ t :: ts.drop j
theorem F_insert {i : Nat} {ts : List T} {t : T} {j : Int} (hO : O[i]? = some (Ob.list ts)) (h0 : 0 ≤ j) (hj : j ≤ ts.length) (hsz : ts.length ≤ sizeLine) (h : Φ (.val .none) (O.set i (.list (insT ts j.toNat t)))) :
    ConB C n (.builtin "list.insert") O [.ref i, .val (.int j), .val t] [] Φ := ConB_3 fun A H as s E v u x rm M d1 d2 d3 => by
  obtain ⟨a, items, k, ha, rfl, g, dl⟩ := own_at M hO d1
  obtain ⟨u, rfl⟩ := denInt d2
  have hsz' : items.size ≤ sizeLine := by rw [dl.size]; exact hsz
  have hs24 : sizeLine = 16777216 := rfl
  refine call_meets F.slot_list_insert ⟨_, g, rfl⟩ F.entry_list_insert (F.args_list_insert_3 _ _ _) (PySem.AutoListH.list_insert_list_int_val_1 a items k j u x (by simp [Builtin.List.listFitsIndex]; (first | exact ⟨zLo h0, Int.lt_of_le_of_lt hj (Int.ofNat_lt.mpr (zLt (Nat.le_trans hsz (Nat.le_of_eq hs24)) rfl))⟩ | lia)) hsz') ⟨g, ?_⟩
  obtain ⟨M', R'⟩ := upd_list (f := fun xs => have k := if j < 0 then (j + ((xs.size : Nat) : Int)).toNat else min j.toNat xs.size; (xs.extract 0 k).push x ++ xs.extract k) (tk := s.toks) M ha hO g (ts' := insT ts j.toNat t) (by
    have hb : j.toNat ≤ items.size := by rw [dl.size]; (first | exact Int.toNat_le.mpr hj | lia)
    have e : (if j < 0 then (j + ((items.size : Nat) : Int)).toNat else min j.toNat items.size) = j.toNat := by
      rw [if_neg (by (first | exact Int.not_lt_of_ge h0 | lia))]; (first | exact Nat.min_eq_left hb | lia)
    dsimp only
    rw [e]
    unfold insT
    have e2 : ((items.extract 0 j.toNat).push x ++ items.extract j.toNat).toList = items.toList.take j.toNat ++ x :: items.toList.drop j.toNat := by
      simp
      try (rw [List.take_of_length_le (by simp)])
    rw [e2]
    exact (dl.take _).append (.cons d3 (dl.drop _)))
  exact ⟨_, _, H, as, h, M', isNone, R' _⟩

theorem F_extendT {i : Nat} {ts us : List T} (hO : O[i]? = some (Ob.list ts)) (hsz : ts.length + us.length ≤ sizeLine) (h : Φ (.val .none) (O.set i (.list (ts ++ us)))) :
    ConB C n (.builtin "list.extend") O [.ref i, .val (.tup us)] [] Φ := ConB_2 fun A H as s E v u rm M d1 d2 => by
  obtain ⟨a, items, k, ha, rfl, g, dl⟩ := own_at M hO d1
  unfold DenD Den at d2
  obtain ⟨b, items2, k2, rfl, hH, dl2⟩ := d2
  have e1 := dl.size
  have e2 := dl2.size
  refine call_meets F.slot_list_extend ⟨_, g, rfl⟩ F.entry_list_extend (F.args_list_extend_2 _ _) (PySem.AutoSeq1.list_extend_list_tuple_0 a items k b items2 k2 (by simp [Builtin.List.listTooLong]; lia) (by (first | exact zEq e1 (Nat.le_of_add_right_le hsz) | lia)) (by (first | exact om150 hsz e1 e2 | lia))) ⟨g, M.sat _ _ hH, ?_⟩
  obtain ⟨M', R'⟩ := upd_list (f := fun x => x ++ items2) (tk := s.toks) M ha hO g (ts' := ts ++ us) (by rw [Array.toList_append]; exact dl.append dl2)
  exact ⟨_, _, H, as, h, M', isNone, R' _⟩

theorem F_len {d : D} {ts : List T} (hd : listD O d = some ts) (hsz : ts.length < 2 ^ 62) (h : Φ (.val (.int ts.length)) O) : ConB C n (.builtin "len") O [d] [] Φ := ConB_1 fun A H as s E v rm M d1 => by
  obtain ⟨a, items, k, rfl, g, dl⟩ := listD_at M hd d1
  refine Calls.call_len_list (isList_of g) (by rw [dl.size]; (first | exact z63 (Nat.le_of_lt hsz) rfl | lia)) ?_
  rw [dl.size]
  exact after_int M h

theorem F_range1 {b : Int} (h : Φ (.val (.range 0 b 1)) O) : ConB C n (.type "range") O [.val (.int b)] [] Φ := ConB_1 fun A H as s E v rm M d1 => by
  obtain ⟨t, rfl⟩ := denInt d1
  refine call_range_1 ?_
  obtain ⟨M₂, R₂⟩ := M.put (o := rangeO 0 b 1 s.toks t (s.toks + 1)) (s' := { s with heap := s.heap.push (rangeO 0 b 1 s.toks t (s.toks + 1)), toks := s.toks + 1 + 1 }) (get?_size _) (Heap.get?_push_size _ rfl) (fun b o e => Heap.get?_push_of_some _ e) rfl rfl
  exact ⟨_, O, _, as, h, M₂, by unfold DenD Den; exact ⟨_, _, _, _, rfl, PHeap.put_self⟩, R₂ _⟩
theorem F_range2 {a b : Int} (h : Φ (.val (.range a b 1)) O) : ConB C n (.type "range") O [.val (.int a), .val (.int b)] [] Φ := ConB_2 fun A H as s E v u rm M d1 d2 => by
  obtain ⟨t, rfl⟩ := denInt d1
  obtain ⟨u, rfl⟩ := denInt d2
  refine call_range_2 ?_
  obtain ⟨M₂, R₂⟩ := M.put (o := rangeO a b 1 t u s.toks) (s' := { s with heap := s.heap.push (rangeO a b 1 t u s.toks), toks := s.toks + 1 }) (get?_size _) (Heap.get?_push_size _ rfl) (fun b o e => Heap.get?_push_of_some _ e) rfl rfl
  exact ⟨_, O, _, as, h, M₂, by unfold DenD Den; exact ⟨_, _, _, _, rfl, PHeap.put_self⟩, R₂ _⟩
theorem F_range3 {a b c : Int} (hc : c ≠ 0) (hs : c.natAbs < 1073741824) (h : Φ (.val (.range a b c)) O) : ConB C n (.type "range") O [.val (.int a), .val (.int b), .val (.int c)] [] Φ := ConB_3 fun A H as s E v u x rm M d1 d2 d3 => by
  obtain ⟨t, rfl⟩ := denInt d1
  obtain ⟨u, rfl⟩ := denInt d2
  obtain ⟨x, rfl⟩ := denInt d3
  refine PySem.call_range_3 hc ?_ (.inl (PyProof.noPylong_small hs))
  obtain ⟨M₂, R₂⟩ := M.put (o := rangeO a b c t u x) (s' := { s with heap := s.heap.push (rangeO a b c t u x), toks := s.toks }) (get?_size _) (Heap.get?_push_size _ rfl) (fun b o e => Heap.get?_push_of_some _ e) rfl rfl
  exact ⟨_, O, _, as, h, M₂, by unfold DenD Den; exact ⟨_, _, _, _, rfl, PHeap.put_self⟩, R₂ _⟩

theorem F_strI {a : Int} (hs : a.natAbs.log2 < 1920) (h : Φ (.val (.str (Str.ofString (toString a)))) O) : ConB C n (.type "str") O [.val (.int a)] [] Φ := ConB_1 fun A H as s E v rm M d1 => by
  obtain ⟨t, rfl⟩ := denInt d1
  exact P.str_of_int hs (after_str M h)
theorem F_strS {x : Str} (h : Φ (.val (.str x)) O) : ConB C n (.type "str") O [.val (.str x)] [] Φ := ConB_1 fun A H as s E v rm M d1 => by
  obtain ⟨t, rfl⟩ := denStr d1
  exact P.str_of_str ⟨_, O, H, as, h, M, isStr, Rel.refl⟩
theorem F_intB {b : Bool} (h : Φ (.val (.int (if b then 1 else 0))) O) : ConB C n (.type "int") O [.val (.bool b)] [] Φ := ConB_1 fun A H as s E v rm M d1 => by
  obtain rfl := denBool d1
  exact call_int_bool (after_int M h)
theorem F_intI {a : Int} (h : Φ (.val (.int a)) O) : ConB C n (.type "int") O [.val (.int a)] [] Φ := ConB_1 fun A H as s E v rm M d1 => by
  obtain ⟨t, rfl⟩ := denInt d1
  exact call_int_int ⟨_, O, H, as, h, M, isInt, Rel.refl⟩
end
end Mine
end

section
set_option Elab.async false
set_option maxRecDepth 100000
set_option linter.unusedVariables false
namespace Mine
open PySem PySem.W PyProof.Rows PySem.Calls

theorem IntDict.of {prog : Program} {w : World} {o : Obj} {ks : List Int} {vs : List Value} (hl : ks.length = vs.length) (h : o.IsDictOf (intKind prog w) (ks.zip vs)) : IntDict o ks vs := by
  refine ⟨hl, fun prog' w' => ?_⟩
  obtain ⟨es, ep, h1, h2, h3, h4, h5⟩ := h
  refine ⟨es, ep, h1, h2, h3, ?_, h5⟩
  have : ∀ {l : List DictEntry} {kvs : List (Int × Value)}, Pairs (intKind prog w) l kvs → Pairs (intKind prog' w') l kvs := fun h => by
    induction h with
    | nil => exact .nil
    | cons a b _ ih => exact .cons a b ih
  exact this h4
theorem IntDict.map {C : Cx} {h : Heap} {a o ks vs} (g : h.get? a = some o) (d : IntDict o ks vs) : h.DictOf (intKind C.prog C.w) a (ks.zip vs) := Heap.dictOf_iff.mpr ⟨o, g, d.2 _ _⟩

theorem keep_of {a : Addr} {h h' : Heap} (hs : Heap.SameBut a h h') : ∀ b o, b ≠ a → h.get? b = some o → h'.get? b = some o := fun b o hb e => by rw [hs.2 b hb]; exact e

noncomputable def dictD (O : List Ob) : D → Option (List Int × List T)
  | .val (.dict ks ts) => some (ks, ts)
  | .ref i => match O[i]? with
    | some (.dict ks ts) => some (ks, ts)
    | _ => none
  | _ => none

theorem zip_lookup {H : PHeap} {k : Int} {t : T} : ∀ {ks : List Int} {ts : List T} {vs : List Value}, DenL H ts vs → (ks.zip ts).lookup k = some t → ∃ v, valueAt (ks.zip vs) k = some v ∧ Den H t v
  | [], _, _, _, h => by simp at h
  | _ :: _, [], _, _, h => by simp at h
  | j :: ks, t₀ :: ts, vs, d, h => by
    rw [DenL.cons_iff] at d
    obtain ⟨v, r, rfl, d1, d2⟩ := d
    rw [List.zip_cons_cons, List.lookup_cons] at h
    unfold valueAt
    rw [List.zip_cons_cons, List.find?_cons]
    by_cases q : k = j
    · subst q
      simp at h
      subst h
      exact ⟨v, by simp, d1⟩
    · have q' : ¬ j = k := fun e => q e.symm
      have hb : (k == j) = false := by simpa using q
      rw [hb] at h
      obtain ⟨v', e, d'⟩ := zip_lookup d2 h
      refine ⟨v', ?_, d'⟩
      simp only [decide_eq_false q']
      exact e

section
variable {C : Cx} {n : Nat} {sc : Kinds} {ρ : Vars} {O : List Ob}

theorem dictD_at {H as s d v ks ts} (M : Mem C A H as O s) (hd : dictD O d = some (ks, ts)) (hv : DenD H as d v) : ∃ a o vs, v = .ref a ∧ s.heap.get? a = some o ∧ IntDict o ks vs ∧ DenL H ts vs := by
  cases d with
  | ref i =>
    obtain ⟨a, ha, rfl⟩ := hv
    have hd2 : (match O[i]? with | some (.dict ks ts) => some (ks, ts) | _ => none) = some (ks, ts) := hd
    split at hd2
    · rename_i ts' hO
      cases hd2
      obtain ⟨_, vs, k, g, hk, dl⟩ := M.obs i a _ ha hO
      exact ⟨a, _, _, rfl, g, hk, dl⟩
    · cases hd2
  | val t =>
    cases t with
    | dict ks' ts' =>
      cases hd
      unfold DenD Den at hv
      obtain ⟨a, o, vs, rfl, hH, hk, dl⟩ := hv
      exact ⟨a, o, vs, rfl, M.sat _ _ hH, hk, dl⟩
    | _ => cases hd

inductive DItP (O : List Ob) (d i : D) (P : T → Prop) : Prop
  | intro (ks : List Int) (ts : List T) (k : Int) (t : T) (h1 : dictD O d = some (ks, ts)) (h2 : i = .val (.int k)) (h3 : (ks.zip ts).lookup k = some t) (h4 : P t)
theorem WPe_ditem {value slice pos} {Φ : D → List Ob → Prop} (hs : notSlice slice)
    (h : WPe C n sc ρ O value fun d O₁ => WPe C n sc ρ O₁ slice fun i O₂ => DItP O₂ d i fun t => Φ (.val t) O₂) :
    WPe C n sc ρ O (.Subscript value slice pos) Φ := fun A env H as s E rm eo M l => by
  refine SubscriptC_ (wpC_mono (h A env H as s E rm eo M l) (fun v₁ s₁ qq => qq.out fun d₁ O₁ H₁ as₁ h₁ M₁ D₁ R₁ =>
    wpC_mono (h₁ A env H₁ as₁ s₁ E rm eo M₁ (l.rel R₁)) (fun v₂ s₂ qq => qq.out fun d₂ O₂ H₂ as₂ hq M₂ D₂ R₂ => ?_) fun _ _ x => x) fun _ _ x => x)
  obtain ⟨ks, ts, k, t, hl, hi, ht, hΦ⟩ := hq
  subst hi
  unfold DenD Den at D₂
  obtain ⟨tk, rfl⟩ := D₂
  obtain ⟨a, o, vs, rfl, g, hk, dl⟩ := dictD_at M₂ hl (D₁.rel R₂)
  obtain ⟨v, hv, hd⟩ := zip_lookup dl ht
  have hm := (hk.map (C := C) g)
  exact tail_any hm.typeIs slot_dict_getitem.lookup (wpAny_getItem_of (knd := intKind C.prog C.w) (intKind_is _ _ _ _) hm.mapOf hv ⟨.val t, O₂, H₂, as₂, hΦ, M₂.tok _, hd, (R₁.trans R₂).trans (Rel.tok _)⟩) (subscripted_plain hs)

inductive SetP (O : List Ob) (d e j : D) (P : List Ob → Prop) : Prop
  | intro (k : Nat) (ts : List T) (x : Int) (t : T) (e1 : e = .ref k) (hO : O[k]? = some (.list ts)) (e2 : j = .val (.int x)) (h0 : 0 ≤ x) (hx : x < 2 ^ 63) (hlt : x.toNat < ts.length) (e3 : d = .val t) (h : P (O.set k (.list (ts.set x.toNat t))))
theorem WPx_setL {o i pos' value pos} {Ψ : Out → Prop}
    (h : WPe C n sc ρ O value fun d O₁ => WPe C n sc ρ O₁ o fun e O₂ => WPe C n sc ρ O₂ i fun j O₃ => SetP O₃ d e j fun O₄ => Ψ (.next ρ O₄))
    (hs : ∀ env : Env, EnvOk sc env → swapsWith value (some (.Subscript o i pos')) pos.line env = pure false) : WPx C n sc ρ O (.Assign [.Subscript o i pos'] value pos) Ψ := fun A env H as s E rm eo M l => by
  refine wpC_Assign_Subscript (wpC_mono (h A env H as s E rm eo.toEnvOk M l) (fun v₁ s₁ qq => qq.out fun d₁ O₁ H₁ as₁ h₁ M₁ D₁ R₁ =>
    wpC_mono (h₁ A env H₁ as₁ s₁ E rm eo.toEnvOk M₁ (l.rel R₁)) (fun v₂ s₂ qq => qq.out fun d₂ O₂ H₂ as₂ h₂ M₂ D₂ R₂ =>
    wpC_mono (h₂ A env H₂ as₂ s₂ E rm eo.toEnvOk M₂ ((l.rel R₁).rel R₂)) (fun v₃ s₃ qq => qq.out fun d₃ O₃ H₃ as₃ hq M₃ D₃ R₃ => ?_) fun _ _ x => x) fun _ _ x => x) fun _ _ x => x) (hs env eo.toEnvOk)
  obtain ⟨k, ts, x, t, rfl, hO, rfl, h0, hx, hlt, rfl, hΨ⟩ := hq
  obtain ⟨u, rfl⟩ := denInt D₃
  obtain ⟨a, items, kk, ha, rfl, g, dl⟩ := own_at M₃ hO (D₂.rel R₃)
  have D₁' : Den H₃ t v₁ := (D₁.rel (R₂.trans R₃))
  refine ki_setAt (n := kk) (by exact g) h0 hx (by rw [dl.size]; exact (Int.toNat_lt h0).mp hlt) ?_
  obtain ⟨M', R'⟩ := upd_list (f := fun y => y.setIfInBounds x.toNat v₁) (tk := s₃.toks) M₃ ha hO g (ts' := ts.set x.toNat t) (by rw [Array.toList_setIfInBounds]; exact dl.set _ D₁')
  exact ⟨H₃, as₃, ((R₁.trans R₂).trans (R₃.trans (R' _))).up, _, _, hΨ, M', ((l.rel R₁).rel R₂).rel (R₃.trans (R' _))⟩

theorem nodup_zip {ks : List Int} {vs : List Value} (h : ks.length = vs.length) : (ks.zip vs).map (·.1) = ks := by
  rw [List.map_fst_zip (by (exact Nat.le_of_eq h))]

inductive SetDP (O : List Ob) (d e j : D) (P : List Ob → Prop) : Prop
  | intro (k : Nat) (ks : List Int) (ts : List T) (x : Int) (t : T) (e1 : e = .ref k) (hO : O[k]? = some (.dict ks ts)) (e2 : j = .val (.int x)) (hx : x ∉ ks) (hsz : ks.length ≤ sizeLine) (e3 : d = .val t) (h : P (O.set k (.dict (ks ++ [x]) (ts ++ [t]))))
theorem WPx_setD {o i pos' value pos} {Ψ : Out → Prop}
    (h : WPe C n sc ρ O value fun d O₁ => WPe C n sc ρ O₁ o fun e O₂ => WPe C n sc ρ O₂ i fun j O₃ => SetDP O₃ d e j fun O₄ => Ψ (.next ρ O₄))
    (hs : ∀ env : Env, EnvOk sc env → swapsWith value (some (.Subscript o i pos')) pos.line env = pure false) : WPx C n sc ρ O (.Assign [.Subscript o i pos'] value pos) Ψ := fun A env H as s E rm eo M l => by
  refine wpC_Assign_Subscript (wpC_mono (h A env H as s E rm eo.toEnvOk M l) (fun v₁ s₁ qq => qq.out fun d₁ O₁ H₁ as₁ h₁ M₁ D₁ R₁ =>
    wpC_mono (h₁ A env H₁ as₁ s₁ E rm eo.toEnvOk M₁ (l.rel R₁)) (fun v₂ s₂ qq => qq.out fun d₂ O₂ H₂ as₂ h₂ M₂ D₂ R₂ =>
    wpC_mono (h₂ A env H₂ as₂ s₂ E rm eo.toEnvOk M₂ ((l.rel R₁).rel R₂)) (fun v₃ s₃ qq => qq.out fun d₃ O₃ H₃ as₃ hq M₃ D₃ R₃ => ?_) fun _ _ x => x) fun _ _ x => x) fun _ _ x => x) (hs env eo.toEnvOk)
  obtain ⟨k, ks, ts, x, t, e1, hO, e2, hx, hsz, e3, hΨ⟩ := hq
  subst e1; subst e2; subst e3
  obtain ⟨u, rfl⟩ := denInt D₃
  obtain ⟨a, ha, rfl⟩ := (D₂.rel R₃)
  obtain ⟨hn, o, vs, g, hd, dl⟩ := M₃.obs k a _ ha hO
  have D₁' : Den H₃ t v₁ := (D₁.rel (R₂.trans R₃))
  have hm := hd.map (C := C) g
  have hlen : (ks.zip vs).length = ks.length := by rw [List.length_zip, ← hd.1]; simp
  refine wpAny_setItem_pairs (knd := intKind C.prog C.w) (intKind_is _ _ _ _) hm (fun h' hd' hs' => ?_) (by rw [hlen]; exact hsz)
  have hst : stored (ks.zip vs) x v₁ = (ks ++ [x]).zip (vs ++ [v₁]) := by
    unfold stored
    have : ((ks.zip vs).any fun kv => decide (kv.1 = x)) = false := by
      rw [List.any_eq_false]
      intro p hp
      have : p.1 ∈ ks := (List.of_mem_zip hp).1
      simp
      intro e; exact hx (e ▸ this)
    rw [if_neg (by rw [this]; simp), List.zip_append hd.1]
    rfl
  rw [hst] at hd'
  obtain ⟨o', g', hd''⟩ := Heap.dictOf_iff.mp hd'
  obtain ⟨M', R'⟩ := M₃.upd (s' := { s₃ with heap := h', toks := s₃.toks + 1 }) (ob := .dict (ks ++ [x]) (ts ++ [t])) ha ⟨hn, o', _, g', .of (by simp [hd.1]) hd'', dl.append (.cons D₁' .nil)⟩ ⟨_, g'⟩ (keep_of hs') hn rfl rfl
  exact ⟨H₃, as₃, ((R₁.trans R₂).trans (R₃.trans (R' _))).up, _, _, hΨ, M', ((l.rel R₁).rel R₂).rel (R₃.trans (R' _))⟩

inductive AfterP (C : Cx) (A : Around) (H : PHeap) (as : List Addr) (s : Shared) (Φ : List D → List D → List Ob → Prop) (kvs : List (Value × Value)) (s' : Shared) : Prop
  | intro (dk dv : List D) (O' : List Ob) (H' : PHeap) (as' : List Addr) (h : Φ dk dv O') (M : Mem C A H' as' O' s') (D : DenDs H' as' dk (kvs.map (·.1))) (D' : DenDs H' as' dv (kvs.map (·.2))) (R : Rel [] H as s H' as' s')
noncomputable def WPp (C : Cx) (n : Nat) (sc : Kinds) (ρ : Vars) (O : List Ob) (keys : List (Option Expr)) (values : List Expr) (Φ : List D → List D → List Ob → Prop) : Prop :=
  ∀ A env H as s E pos, Room n A → EnvOk sc env → Mem C A H as O s → Loc H as env ρ s →
    wpC (model C.prog C.w) A (evalPairs (pairTrees keys values env pos)) (AfterP C A H as s Φ) E s
theorem WPp_nil {Φ : List D → List D → List Ob → Prop} (h : Φ [] [] O) : WPp C n sc ρ O [] [] Φ := fun A env H as s E pos rm eo M l =>
  wpC_pure ⟨[], [], O, H, as, h, M, trivial, trivial, Rel.refl⟩
theorem WPp_cons {k v ks vs} {Φ : List D → List D → List Ob → Prop} (h : WPe C n sc ρ O k fun d O₁ => WPe C n sc ρ O₁ v fun e O₂ => WPp C n sc ρ O₂ ks vs fun dk dv O₃ => Φ (d :: dk) (e :: dv) O₃) :
    WPp C n sc ρ O (some k :: ks) (v :: vs) Φ := fun A env H as s E pos rm eo M l =>
  pairTreesC_cons (wpC_mono (h A env H as s E rm eo M l) (fun v₁ s₁ qq => qq.out fun d₁ O₁ H₁ as₁ h₁ M₁ D₁ R₁ =>
    wpC_mono (h₁ A env H₁ as₁ s₁ E rm eo M₁ (l.rel R₁)) (fun v₂ s₂ qq => qq.out fun d₂ O₂ H₂ as₂ h₂ M₂ D₂ R₂ =>
    wpC_mono (h₂ A env H₂ as₂ s₂ E pos rm eo M₂ ((l.rel R₁).rel R₂)) (fun kvs s₃ qq => qq.casesOn fun dk dv O₃ H₃ as₃ h₃ M₃ D₃ D₄ R₃ => ⟨_, _, O₃, H₃, as₃, h₃, M₃, ⟨(D₁.rel R₂).rel R₃, D₃⟩, ⟨D₂.rel R₃, D₄⟩, (R₁.trans R₂).trans R₃⟩) fun _ _ x => x) fun _ _ x => x) fun _ _ x => x)

theorem intKeys_of {H as} : ∀ {ks : List Int} {kvs : List (Value × Value)}, DenDs H as (ks.map fun k => .val (.int k)) (kvs.map (·.1)) → allIntKeys kvs = true ∧ intKeyPairs kvs = ks.zip (kvs.map (·.2))
  | [], [], _ => ⟨rfl, rfl⟩
  | [], _ :: _, h => by cases h
  | _ :: _, [], h => by cases h
  | k :: ks, (x, y) :: kvs, h => by
    obtain ⟨h1, h2⟩ := h
    obtain ⟨t, rfl⟩ := denInt h1
    obtain ⟨a, b⟩ := intKeys_of h2
    refine ⟨a, ?_⟩
    show (k, y) :: intKeyPairs kvs = _
    rw [b]; rfl

end

section
variable {prog : Program} {w : World} {K : Type} [DecidableEq K] {knd : KeyKind prog w K} {A : Around} {E : Value → Shared → Prop} {s : Shared} {env : Env}
theorem wpC_evalPairs_len {M : Model} {pairs : List (Sem Value × Sem Value)} {Q : List (Value × Value) → Shared → Prop} (h : wpC M A (evalPairs pairs) Q E s) :
    wpC M A (evalPairs pairs) (fun vs s' => vs.length = pairs.length ∧ Q vs s') E s :=
  ⟨fun Γ p hΓ hC => wp_evalPairs_len _ Γ pairs _ _ p s (h.run Γ p hΓ hC)⟩
theorem wpC_Dict_walk {keys : List (Option Expr)} {values : List Expr} {pos : Pos} {Q : Value → Shared → Prop}
    (hall : keys.all (·.isSome) = true) (hl : keys.length = values.length) (h0 : keys ≠ []) (hlen : keys.length ≤ 15)
    (h : wpC (model prog w) A (evalPairs (pairTrees keys values env pos)) (fun vs s₁ => ∃ kvs, Carries knd vs kvs ∧ s₁.heap.DictOf knd s.heap.objs.size [] ∧
      ∀ h', h'.DictOf knd s.heap.objs.size (merged [] kvs) → Heap.SameBut s.heap.objs.size s₁.heap h' → Q (.ref s.heap.objs.size) { s₁ with heap := h', toks := s₁.toks + vs.length }) E
      { s with heap := s.heap.push { cls := .type "dict", data := .dict #[] } }) :
    wpC (model prog w) A (eval (.Dict keys values pos) env) Q E s := by
  have hn := pairTrees_length keys values env pos hall hl
  have hp0 : pairTrees keys values env pos ≠ [] := fun he => by
    rw [he] at hn
    exact h0 (List.length_eq_zero_iff.mp hn.symm)
  have hp15 : (pairTrees keys values env pos).length ≤ 15 := by rw [hn]; exact hlen
  rw [arm_eval_Dict, zip_pairTrees keys values env pos hall hl, dictDisplay_pairs (pairTrees keys values env pos) hp0 (by (first | exact zLt (zEq hn hlen) rfl | lia))]
  refine wpC_bind (wpC_standAt (wpC_bind ?_))
  unfold subDict
  refine wpC_bind (.of (wpAny_alloc ?_))
  refine wpC_bind (wpC_holding ?_)
  rw [if_pos hp15]
  refine wpC_bind (wpC_mono (wpC_evalPairs_len h) (fun vs s₁ h₁ => ?_) fun _ _ e => e)
  obtain ⟨hvl, kvs, hc, hm, hQ⟩ := h₁
  have hsz : ([] : List (K × Value)).length + kvs.length ≤ sizeLine := by
    have e := hc.length
    rw [sizeLine_eq, List.length_nil]; (first | exact zLe (zEq ((Nat.zero_add _).trans (e.trans (hvl.trans hn))) hlen) rfl | lia)
  refine .of (wpAny_holding ?_)
  refine wpAny_bind (wpAny_storeAll (knd := knd) vs kvs [] s₁ _ hc hm hsz fun h' hm' hs' => wpAny_pure (wpC_pure (wpC_pure (hQ h' hm' hs'))))
end

section
variable {C : Cx} {n : Nat} {sc : Kinds} {ρ : Vars} {O : List Ob}
inductive DictP (k : Nat) (O' : List Ob) (dk dv : List D) (P : D → List Ob → Prop) : Prop
  | intro (h0 : O'[k]? = some (.dict [] [])) (ks : List Int) (ts : List T) (e : dk = ks.map (fun k => .val (.int k))) (nd : ks.Nodup) (hv : vals dv = some ts) (hl : ks.length = ts.length) (h : P (.ref k) (O'.set k (.dict ks ts)))
theorem WPe_Dict {keys values pos} {Φ : D → List Ob → Prop} (hall : keys.all (·.isSome) = true) (hl : keys.length = values.length) (h0 : keys ≠ []) (hlen : keys.length ≤ 15)
    (h : WPp C n sc ρ (O ++ [.dict [] []]) keys values fun dk dv O' => DictP O.length O' dk dv Φ) :
    WPe C n sc ρ O (.Dict keys values pos) Φ := fun A env H as s E rm eo M l => by
  have hn := get?_size s.heap
  obtain ⟨o, ho, hd⟩ := Heap.dictOf_iff.mp (Heap.DictOf.new (knd := intKind C.prog C.w) s.heap)
  obtain ⟨M₁, R₁⟩ := M.own (ob := .dict [] []) (s' := { s with heap := s.heap.push { cls := .type "dict", data := .dict #[] } }) hn ⟨M.fresh_none hn, o, [], ho, .of rfl hd, .nil⟩ ⟨_, Heap.get?_push_size _ rfl⟩
    (fun b o e => Heap.get?_push_of_some _ e) rfl rfl
  refine wpC_Dict_walk (knd := intKind C.prog C.w) hall hl h0 hlen (wpC_mono (h A env _ _ _ E pos rm eo M₁ (l.rel (R₁ _))) (fun kvs s₂ qq => ?_) fun _ _ x => x)
  obtain ⟨dk, dv, O₂, H₂, as₂, hq, M₂, D₁, D₂, R₂⟩ := qq
  obtain ⟨hO, ks, ts, e1, hnd, hv, hks, hΦ⟩ := hq
  subst e1
  obtain ⟨k1, k2⟩ := intKeys_of D₁
  have dl := D₂.vals hv
  have ha : as₂[O.length]? = some s.heap.objs.size := by
    obtain ⟨more, e, _⟩ := R₂.ext
    rw [e, ← M.len, List.append_assoc, List.getElem?_append_right (Nat.le_refl _)]; simp
  obtain ⟨hnn, o₂, vs₂, g₂, hd₂, dl₂⟩ := M₂.obs _ _ _ ha hO
  rw [DenL.nil_iff] at dl₂
  subst dl₂
  have hkl : ks.length = (kvs.map (·.2)).length := by rw [dl.length, hks]
  refine display_done_int k1 (by rw [k2, nodup_zip hkl]; exact hnd) (hd₂.map g₂) fun h' hd' hs' => ?_
  rw [k2] at hd'
  obtain ⟨o', g', hd''⟩ := Heap.dictOf_iff.mp hd'
  obtain ⟨M', R'⟩ := M₂.upd (s' := { s₂ with heap := h', toks := s₂.toks + kvs.length }) (ob := .dict ks ts) ha ⟨hnn, o', _, g', .of hkl hd'', dl⟩ ⟨_, g'⟩ (keep_of hs') hnn rfl rfl
  exact ⟨_, _, H₂, as₂, hΦ, M', ⟨_, ha, rfl⟩, ((R₁ _).trans R₂).trans (R' _)⟩
end
end Mine
end

section
set_option Elab.async false
set_option maxRecDepth 100000
set_option linter.unusedVariables false
set_option linter.unusedSimpArgs false
namespace Mine
open PySem PySem.W PyProof.Rows PySem.Calls PySem.NumText

theorem typeCall_int_2 (a b : Value) : checkTypeCall "int" ⟨[a, b], []⟩ = pure () := by kernel_rfl
theorem newCall_int_2 (a b : Value) : checkBuiltinCall "int.__new__" ⟨[.type "int", a, b], []⟩ = pure () := by kernel_rfl
theorem intCall_tree (a b : Value) : ∃ k, Builtin.«type.__call__» ⟨[.type "int", a, b], []⟩ = (holding [.builtin "int.__new__"] (call (.builtin "int.__new__") [.type "int", a, b] []) >>= k) := by
  obtain ⟨c, tl, hmro⟩ := F.called_int.mro
  have hmade := F.called_int.made
  have h1 := F.called_int.notType
  have h2 := F.called_int.canCreate
  refine ⟨?k, ?h⟩
  case h =>
    unfold Builtin.«type.__call__»
    simp only [h1, h2, hmro, hmade, typeCall_int_2, Bool.false_eq_true, if_false, pure_bind]
    rfl
theorem intNew_tree (x : PySem.Str) (t u : Tok) : ∃ k, Builtin.«int.__new__» ⟨[.type "int", .str x t, .int 10 u], []⟩ = ((int_private% "intFromText") (.str x t) (numTextOf x) 10 >>= k) := by
  have f1 := F.conv_sub_int
  have f2 := F.madeHere_int
  have f3 : isType (.type "int") = pure true := rfl
  have f4 : Builtin.Int.intIndex "int.__new__" (.int 10 u) = pure 10 := rfl
  have f5 : (int_private% "numeralText?") (.str x t) = pure (some (numTextOf x)) := rfl
  have f6 : (Value.type "int" == Value.type "int") = true := by decide
  refine ⟨?k, ?h⟩
  case h =>
    unfold Builtin.«int.__new__»
    simp only [f1, f2, f3, f4, f5, f6, pure_bind, Bool.false_eq_true, if_false, Bool.not_true, if_true, List.isEmpty_nil, List.length_cons, List.length_nil, Bool.true_and, Bool.and_true, List.head?_cons, List.forIn_nil]
    rfl
noncomputable def badTail : PySem.Str → Sem Value := fun shown => do
  let m ← mkStr (((s!"invalid literal for int() with base {(10 : Nat)}: " : String) ++ ⟨shown.cps.extract 0 200⟩ : PySem.Str))
  let refusal ← newExc (.type "ValueError") [m]
  markTheRefusal ["int.__new__"] refusal
  raiseNew refusal
noncomputable def badJp (x : PySem.Str) (t : Tok) : Unit → Sem Value := fun _ => do
  rule "int.__new__.invalid-literal"
  let l ← (int_private% "bytesOf?") (.str x t)
  match l with
  | some b => do
    let c ← mkBytes (b.extract 0 200)
    let shown ← pyRepr c
    badTail shown
  | none => do
    let shown ← pyRepr (.str x t)
    badTail shown
theorem intText_tree (x : PySem.Str) (t : Tok) (text : List Nat) : ∃ (B : Nat → Nat → Sem Value) (C : Nat → Sem Value) (Z : Sem Value),
    (int_private% "intFromText") (.str x t) text 10 = (if (text.takeWhile (· != 0)).length ≤ 640 then (pure 0 >>= fun limit => (int_private% "intFromText.match_1") (motive := fun _ => Sem Value) ((int_private% "readNumeral") limit 10 (text.takeWhile (· != 0))) (B limit) (fun _ => C limit) (fun i => if ((text.takeWhile (· != 0)).length == text.length) = true then mkInt i else badJp x t ())
     (fun _ => do
        let l ← (int_private% "bytesOf?") (.str x t)
        if (l.isSome && (List.take 200 (text.takeWhile (· != 0))).any fun x => decide (x ≥ 128)) = true then do
            let h ← Builtin._codecs.theHandlerIsTheBuiltInOne "strict"
            if (!h) = true then do
                let r ← unsupported "int.__new__:a-refusal-of-bytes-beyond-ascii-under-a-strict-handler-of-the-program's"
                badJp x t r
            else badJp x t ()
        else badJp x t ())) else Z) := by
  refine ⟨?B, ?C, ?Z, ?h⟩
  case h => rfl
theorem intText_bad (x : PySem.Str) (t : Tok) (hs : (numSeenOf x).length ≤ 640) (hn : PySem.intText? x = none) : (int_private% "intFromText") (.str x t) (numTextOf x) 10 = badJp x t () := by
  obtain ⟨B, C, Z, e⟩ := intText_tree x t (numTextOf x)
  rw [e, if_pos hs]
  rcases read0 x hs with ⟨m, h1, _⟩ | ⟨_, h | ⟨i, h, h2⟩⟩
  · rw [hn] at h1; cases h1
  · show (int_private% "intFromText.match_1") (motive := fun _ => Sem Value) ((int_private% "readNumeral") 0 10 (numSeenOf x)) _ _ _ _ = _
    rw [h]
    rfl
  · show (int_private% "intFromText.match_1") (motive := fun _ => Sem Value) ((int_private% "readNumeral") 0 10 (numSeenOf x)) _ _ _ _ = _
    rw [h]
    show (if _ then _ else _) = _
    rw [if_neg h2]
theorem badJp_eq (x : PySem.Str) (t : Tok) : badJp x t () = (rule "int.__new__.invalid-literal" >>= fun _ => pyRepr (.str x t) >>= badTail) := rfl

section
variable {prog : Program} {w : World} {A : Around} {E : Value → Shared → Prop} {R : Result → Shared → Prop} {s : Shared}
theorem codeC_builtin {id : String} {args : Args} {b : Builtin} (hb : entryFor table id = some b)
    (h : wpC (model prog w) (A.under (.builtin id args)) (b args)
      (fun fin s' => match fin with | .done f => R (.ok f) s' | .again c' => c'.quiet = true ∧ codeC (model prog w) A c' R s') (fun e s' => R (.error e) s') s) :
    codeC (model prog w) A (.builtin id args) R s := by
  refine codeC_of_tree ?_
  show wpC _ _ (match entryFor table id with | some b => b args | none => unsupported ((withoutEnding? id "#data").getD id)) _ _ s
  rw [hb]; exact h

theorem wpC_mark {own : List String} {e : Value} {Q : Unit → Shared → Prop} (h : Q () s) : wpC (model prog w) A (markTheRefusal own e) Q E s := .mk fun Γ p hΓ hC => by
  unfold markTheRefusal
  rw [Sem.wp_bind']
  show Sem.wp _ Γ (if pythonCodeMadeTheCall own (((Γ.code, p) :: Γ.below).map (·.1)) = true then _ else _) _ _ p s
  have hp : pythonCodeMadeTheCall own (((Γ.code, p) :: Γ.below).map (·.1)) = false := by
    unfold pythonCodeMadeTheCall
    exact Bool.and_eq_false_iff.mpr (.inl (Bool.and_eq_false_iff.mpr (.inl (congrArg (!·) hC))))
  rw [if_neg (by rw [hp]; exact Bool.false_ne_true)]
  exact h

theorem wpC_badInt {x : PySem.Str} {t : Tok} {Q : Value → Shared → Prop} (hh : A.handled = none) (hx : (reprText x).length ≤ 100000)
    (h : ∀ h' tk e, Heap.NewExc s.heap h' e "ValueError" → E (.ref e) { s with heap := h', toks := tk }) : wpC (model prog w) A (badJp x t ()) Q E s := by
  have hp := plainExc_ValueError
  have hsl : sizeLine = 16777216 := rfl
  rw [badJp_eq]
  refine wpC_bind (.of (wpAny_rule ?_))
  refine wpC_bind (.of (wpAny_pyRepr_str ?_ (by (exact Nat.le_trans hx (Nat.le_add_left _ _)))))
  unfold badTail
  refine wpC_bind (.of (wpAny_mkStr ?_ ?_))
  · refine wpC_bind (.of ?_)
    unfold newExc newTuple
    refine wpAny_bind (wpAny_newObj_type ?_ (by show 1 ≤ sizeLine; decide))
    refine wpAny_bind (m := firstArgMember _ _) (wpAny_of_eq (a := Value.none) (by simp only [firstArgMember, hp.first]; rfl) ?_)
    rw [hp.own]
    refine wpAny_newObj_type ?_ (by size_fits)
    refine wpC_bind (wpC_mark ?_)
    unfold raiseNew
    refine .of (wpAny_bind (wpAny_handled ?_))
    rw [hh]
    first
      | refine wpAny_throw ?_
      | refine wpAny_bind (wpAny_pure (wpAny_throw ?_))
    exact h _ _ _ ⟨fun b o hb => Heap.get?_push_of_some _ (Heap.get?_push_of_some _ hb), Heap.get?_none_of_le (by simp), _, .ref s.heap.objs.size, Heap.get?_push_size _ rfl, rfl, by simp⟩
  · rw [PySem.Str.length_append]
    have h1 : (Str.ofString (toString "invalid literal for int() with base " ++ toString 10 ++ toString ": ")).length = 40 := by decide +kernel
    have h2 : (⟨(reprText x).cps.extract 0 200⟩ : PySem.Str).length ≤ 200 := by
      show ((reprText x).cps.extract 0 200).size ≤ 200
      rw [Array.size_extract]; (first | exact Nat.min_le_left _ _ | lia)
    (first | exact Nat.le_trans (Nat.add_le_add (Nat.le_of_eq h1) h2) (Nat.le_trans (Nat.le_of_ble_eq_true rfl) (Nat.le_of_eq hsl.symm)) | lia)

theorem call_int_bad {x : PySem.Str} {t u : Tok} {Q : Value → Shared → Prop} (hs : (numSeenOf x).length ≤ 640) (hn : PySem.intText? x = none) (hh : A.handled = none) (hx : (reprText x).length ≤ 100000)
    (h : ∀ h' tk e, Heap.NewExc s.heap h' e "ValueError" → E (.ref e) { s with heap := h', toks := tk }) : wpC (model prog w) A (call (.type "int") [.str x t, .int 10 u]) Q E s := by
  refine wpC_call (codeC_of_tree ?_)
  show wpC _ _ (callAny (.type "int") _) _ _ _
  refine wpC_pure ⟨Code.quiet_builtin _ (by decide +kernel), codeC_builtin F.entry_type_call ?_⟩
  rw [Around.under_plain (weight_type_call_type "int" _ _) rfl]
  obtain ⟨k, e⟩ := intCall_tree (.str x t) (.int 10 u)
  rw [e]
  refine wpC_bind (wpC_holding (wpC_call (codeC_of_tree ?_)))
  show wpC _ _ (do checkBuiltinCall "int.__new__" ⟨[.type "int", .str x t, .int 10 u], []⟩; again (.builtin "int.__new__" ⟨[.type "int", .str x t, .int 10 u], []⟩)) _ _ _
  refine wpC_bind (wpC_of_eq (newCall_int_2 _ _) (wpC_pure ⟨plainId_quiet (by decide +kernel) _, codeC_builtin F.entry_int_new ?_⟩))
  obtain ⟨k2, e2⟩ := intNew_tree x t u
  rw [e2, intText_bad x t hs hn]
  refine wpC_bind (wpC_badInt ?_ hx h)
  exact hh
end

theorem intNew_tree2 (x : PySem.Str) (t u : Tok) : Builtin.«int.__new__» ⟨[.type "int", .str x t, .int 10 u], []⟩ = ((int_private% "intFromText") (.str x t) (numTextOf x) 10 >>= fun v => ret v) := by
  have f1 := F.conv_sub_int
  have f2 := F.madeHere_int
  have f3 : isType (.type "int") = pure true := rfl
  have f4 : Builtin.Int.intIndex "int.__new__" (.int 10 u) = pure 10 := rfl
  have f5 : (int_private% "numeralText?") (.str x t) = pure (some (numTextOf x)) := rfl
  have f6 : (Value.type "int" == Value.type "int") = true := by decide
  unfold Builtin.«int.__new__»
  simp only [f1, f2, f3, f4, f5, f6, pure_bind, Bool.false_eq_true, if_false, Bool.not_true, if_true, List.isEmpty_nil, List.length_cons, List.length_nil, Bool.true_and, Bool.and_true, List.head?_cons, List.forIn_nil]
  rfl
theorem intText_good (x : PySem.Str) (t : Tok) {n : Int} (hs : (numSeenOf x).length ≤ 640) (hn : PySem.intText? x = some n) : (int_private% "intFromText") (.str x t) (numTextOf x) 10 = mkInt n := by
  obtain ⟨B, C, Z, e⟩ := intText_tree x t (numTextOf x)
  rw [e, if_pos hs]
  rcases read0 x hs with ⟨m, h1, h2, h⟩ | ⟨h1, _⟩
  · rw [hn] at h1; cases h1
    show (int_private% "intFromText.match_1") (motive := fun _ => Sem Value) ((int_private% "readNumeral") 0 10 (numSeenOf x)) _ _ _ _ = _
    rw [h]
    show (if _ then _ else _) = _
    rw [if_pos h2]
  · rw [hn] at h1; cases h1
section
variable {prog : Program} {w : World} {A : Around} {E : Value → Shared → Prop} {R : Result → Shared → Prop} {s : Shared}
theorem call_int_good {x : PySem.Str} {t u : Tok} {n : Int} {Q : Value → Shared → Prop} (hs : (numSeenOf x).length ≤ 640) (hn : PySem.intText? x = some n) (h : Q (.int n s.toks) { s with toks := s.toks + 1 }) :
    wpAny (model prog w) A (call (.type "int") [.str x t, .int 10 u]) Q E s := by
  have g : Gives (Builtin.«int.__new__» ⟨[.type "int", .str x t, .int 10 u], []⟩) (.int n) := .of_wp fun M A E s Q h => by
    rw [intNew_tree2, intText_good x t hs hn]
    exact wpAny_bind (wpAny_mkInt (wpAny_pure ⟨_, rfl, h⟩))
  exact callType_new F.called_int F.newNe_int (typeCall_int_2 _ _) (newCall_int_2 _ _) (fun obj => F.args_object_init_3 obj _ _) F.entry_int_new g.meets (show (Made.int n).post _ s from ⟨rfl, h⟩)
end
end Mine
end

section
set_option Elab.async false
set_option maxRecDepth 100000
set_option linter.unusedVariables false
namespace Mine
open PySem PySem.W PyProof.Rows PySem.Calls

section
variable {prog : Program} {w : World} {A : Around} {E : Value → Shared → Prop} {s : Shared} {env : Env}
theorem wpC_Try_except {body : List Stmt} {h₀ : ExceptHandler} {hs : List ExceptHandler} {pos : Pos} {Q : Flow → Shared → Prop}
    (h : wpC (model prog w) A (execs body env) Q
      (fun e s₁ => wpAny (model prog w) A (noteFrame e env) (fun _ s₂ => wpAny (model prog w) A (setFlight e none) (fun _ s₃ => wpC (model prog w) A (handleBy e env (h₀ :: hs)) Q E s₃) E s₂) E s₁) s) :
    wpC (model prog w) A (exec (.Try body (h₀ :: hs) [] [] pos) env) Q E s := by
  rw [arm_exec_Try]
  refine wpC_bind (wpC_standAt ?_)
  unfold tryStmt
  simp only [List.isEmpty_nil, if_true, List.isEmpty_cons, Bool.false_and, Bool.false_eq_true, if_false]
  refine wpC_bind (wpC_attempt (wpC_mono h (fun f s₁ h₁ => ?_) fun e s₁ h₁ => ?_))
  · cases f <;> first | exact wpC_pure h₁ | exact .of (wpAny_execs_nil h₁)
  · exact wpC_bind (.of (wpAny_mono h₁ (fun _ _ h₂ => wpC_bind (.of h₂)) fun _ _ x => x))

theorem codeC_handlers_test {e : Value} {t : Expr} {pos : Pos} {R : Result → Shared → Prop}
    (h : wpAny (model prog w) A (eval t env) (fun c s₁ => wpAny (model prog w) A (excMatches e c) (fun b s₂ => R (.ok (if b then .brk else .next)) s₂) (notedBy (model prog w) A env fun x s₂ => R (.error x) s₂) s₁)
      (notedBy (model prog w) A env fun x s₁ => R (.error x) s₁) s) :
    codeC (model prog w) A (.handlers e [.ExceptHandler (some t) none [] pos] env) R s := by
  refine codeC_of_tree ?_
  show wpC _ A (do return Fin.done (← (handleWith e env [.ExceptHandler (some t) none [] pos]).onRaise (fun x => do noteFrame x env; theTreesLotGoes x))) _ _ s
  refine wpC_bind (wpC_noted ?_)
  unfold handleWith
  refine .of (wpAny_bind (wpAny_standAt (wpAny_bind (wpAny_mono h (fun c s₁ h₁ => wpAny_bind (wpAny_standAt (wpAny_bind (wpAny_mono h₁ (fun b s₂ h₂ => wpAny_pure (wpC_pure ?_)) fun _ _ x => x)))) fun _ _ x => x))))
  exact h₂
theorem codeC_handlers_suite {e : Value} {b₀ : Stmt} {body : List Stmt} {pos : Pos} {R : Result → Shared → Prop}
    (h : wpAny (model prog w) A (setFlight e none) (fun _ s₁ => wpC (model prog w) A (execs (b₀ :: body) env) (fun f s₂ => R (.ok f) s₂) (notedBy (model prog w) A env fun x s₂ => R (.error x) s₂) s₁) (notedBy (model prog w) A env fun x s₁ => R (.error x) s₁) s) :
    codeC (model prog w) A (.handlers e [.ExceptHandler none none (b₀ :: body) pos] env) R s := by
  refine codeC_of_tree ?_
  show wpC _ A (do return Fin.done (← (handleWith e env [.ExceptHandler none none (b₀ :: body) pos]).onRaise (fun x => do noteFrame x env; theTreesLotGoes x))) _ _ s
  refine wpC_bind (wpC_noted ?_)
  unfold handleWith
  exact wpC_bind (wpC_standAt (wpC_bind (wpC_mono (.of h) (fun _ s₁ h₁ => wpC_mono h₁ (fun f s₂ h₂ => wpC_pure h₂) fun _ _ x => x) fun _ _ x => x)))

theorem wpC_handleBy1 {e : Addr} {X T : String} {t : Expr} {b₀ : Stmt} {suite : List Stmt} {pos : Pos} {rest : List ExceptHandler} {Q : Flow → Shared → Prop}
    (hexc : isSubtype (.type T) (.type "BaseException") = pure true) (hnt : isSubtype (.type ((Manifest.find? T).elim "type" fun x => x.metatype)) (.type "tuple") = pure false)
    (hsub : isSubtype (.type X) (.type T) = pure true)
    (h : ∀ E', wpAny (model prog w) (A.mark (some (.ref e))) (eval t env) (fun c s₁ => c = .type T ∧ s₁.TypeIs (.ref e) X ∧
      wpAny (model prog w) (A.mark (some (.ref e))) (setFlight (.ref e) none) (fun _ s₂ => wpC (model prog w) (A.mark (some (.ref e))) (execs (b₀ :: suite) env) Q E' s₂) E' s₁) E' s) :
    wpC (model prog w) A (handleBy (.ref e) env (.ExceptHandler (some t) none (b₀ :: suite) pos :: rest)) Q E s := by
  have hnb' : (some (Value.ref e) : Option Value) ≠ some byPass := by intro q; cases q
  rw [handleBy]
  refine wpC_bind (wpC_holding (wpC_runOwn (codeC_handlers_test (R := fun r s₁ => match r with
      | .ok .brk => codeC (model prog w) (A.mark (some (.ref e))) (.handlers (.ref e) [.ExceptHandler none none (b₀ :: suite) pos] env) (fun r s₂ => match r with
          | .ok f => Q f s₂
          | .error x => cameBackBy (model prog w) A env E x s₂) s₁
      | .ok _ => False
      | .error x => cameBackBy (model prog w) A env E x s₁) (wpAny_mono (h _) (fun c s₁ h₁ => ?_) fun _ _ x => x) |> fun z => codeC_mono z fun r s₁ h₁ => ?_) hnb'))
  rotate_left
  · obtain ⟨rfl, hX, hk⟩ := h₁
    exact wpAny_excMatches_type hX hexc hnt hsub (codeC_handlers_suite hk)
  · cases r with
    | error x => exact h₁
    | ok f =>
      cases f with
      | brk =>
        refine wpC_bind (wpC_pure ?_)
        simp only [Bool.not_true, Bool.false_eq_true, if_false]
        refine wpC_bind (wpC_holding (wpC_runOwn (codeC_mono h₁ (fun r s₂ h₂ => ?_)) hnb'))
        cases r with
        | error x => exact h₂
        | ok f => exact wpC_pure h₂
      | _ => exact h₁.elim
end

theorem Mem.slots {C A H as O s l} (M : Mem C A H as O s) (e : A.frames = some l) {h' : Heap} {tk : Nat}
    (k1 : ∀ b o, s.heap.get? b = some o → b ∉ l.filterMap (·.frame) → h'.get? b = some o)
    (k2 : ∀ b o, s.heap.get? b = some o → (∀ vs, o.data ≠ .fields vs) → ∃ sl, h'.get? b = some { o with slots := sl }) :
    Mem C A H as O { s with heap := h', toks := tk } ∧ ∀ X, Rel X H as s H as { s with heap := h', toks := tk } := by
  have hf : ∀ b ∈ l.filterMap (·.frame), b ∉ as ∧ H b = none ∧ ∃ o es n, s.heap.get? b = some o ∧ o.data = .dict es n := fun b hb => by
    obtain ⟨env, he, hfr⟩ := List.mem_filterMap.mp hb
    obtain ⟨l', e', f⟩ := M.stk
    rw [e] at e'; cases e'
    obtain ⟨_, L, h1, h2, h3, o, es, n, h4, h5⟩ := f env he
    rw [hfr] at h1; cases h1
    exact ⟨h2, h3, o, es, n, h4, h5⟩
  have keep : ∀ b o, s.heap.get? b = some o → Kept h' b o := fun b o hb => by
    by_cases hm : b ∈ l.filterMap (·.frame)
    · obtain ⟨_, _, o', es, n, h4, h5⟩ := hf b hm
      rw [hb] at h4; cases h4
      obtain ⟨sl, hs⟩ := k2 b o hb (fun vs q => by rw [h5] at q; cases q)
      exact .inr ⟨es, n, sl, h5, hs⟩
    · exact .inl (k1 b o hb hm)
  have exactH : ∀ b o, H b = some o → h'.get? b = some o := fun b o hb => k1 b o (M.sat _ _ hb) fun hm => by
    have := (hf b hm).2.1; rw [hb] at this; cases this
  have exactA : ∀ b ∈ as, ∀ o, s.heap.get? b = some o → h'.get? b = some o := fun b hb o ho => k1 b o ho fun hm => (hf b hm).1 hb
  refine ⟨⟨M.base, exactH, M.len, M.nodup, fun i a ob ha ho => ?_, fun a ha => let ⟨o, eo⟩ := M.live a ha; ⟨o, exactA a ha o eo⟩, M.os, M.gens, ?_⟩,
    fun X => ⟨fun _ _ q => q, fun _ _ q => .inl q, fun b o hb _ _ => keep b o hb, fun b ⟨o, hb⟩ => (keep b o hb).live, [], by simp, by simp⟩⟩
  · have h := M.obs i a ob ha ho
    have hm := List.mem_of_getElem? ha
    cases ob with
    | gone => trivial
    | list ts => obtain ⟨h0, vs, n, h1, h2⟩ := h; exact ⟨h0, vs, n, exactA a hm _ h1, h2⟩
    | dict ks ts => obtain ⟨h0, es, n, h1, h1', h2⟩ := h; exact ⟨h0, es, n, exactA a hm _ h1, h1', h2⟩
  · exact M.stk.turn (fun _ q _ => q) (fun _ _ q _ => q) fun L o _ q => keep L o q

theorem funFrames_of {h base : Heap} : ∀ {l : List Env}, (∀ env ∈ l, env.scope.kind ≠ .module ∧ ∃ L o, env.frame = some L ∧ base.get? L = none ∧ h.get? L = some o ∧ ∀ vs, o.data ≠ .fields vs) → h.FunFrames base l
  | [], _ => trivial
  | env :: r, f => ⟨(f env (.head _)).1, (f env (.head _)).2, funFrames_of fun e he => f e (.tail _ he)⟩

section
variable {C : Cx} {n : Nat} {sc : Kinds} {ρ : Vars} {O : List Ob} {Ψ : Out → Prop}

noncomputable def ConR (C : Cx) (n : Nat) (fv : Value) (O : List Ob) (ds : List D) (X : String) : Prop :=
  ∀ A H as s vs Q E, Room n A → Mem C A H as O s → DenDs H as ds vs → (∀ h' tk e, Heap.NewExc s.heap h' e X → E (.ref e) { s with heap := h', toks := tk }) →
    wpC (model C.prog C.w) A (call fv vs []) Q E s
noncomputable def WPer (C : Cx) (n : Nat) (sc : Kinds) (ρ : Vars) (O : List Ob) (e : Expr) (X : String) : Prop :=
  ∀ A env H as s Q E, Room n A → EnvOk sc env → Mem C A H as O s → Loc H as env ρ s →
    (∀ H₁ as₁ s₁ h' tk e, Mem C A H₁ as₁ O s₁ → Rel [] H as s H₁ as₁ s₁ → Heap.NewExc s₁.heap h' e X → E (.ref e) { s₁ with heap := h', toks := tk }) → wpC (model C.prog C.w) A (eval e env) Q E s
noncomputable def WPxr (C : Cx) (n : Nat) (sc : Kinds) (ρ : Vars) (O : List Ob) (st : Stmt) (X : String) : Prop :=
  ∀ A env H as s Q E, Room n A → EnvOk sc env → Mem C A H as O s → Loc H as env ρ s →
    (∀ H₁ as₁ s₁ h' tk e, Mem C A H₁ as₁ O s₁ → Rel [] H as s H₁ as₁ s₁ → Heap.NewExc s₁.heap h' e X → E (.ref e) { s₁ with heap := h', toks := tk }) → wpC (model C.prog C.w) A (exec st env) Q E s

theorem WPer_CallB {id p args pos fv X} (hf : (∃ x, fv = .builtin x) ∨ ∃ x, fv = .type x) (hns : noStars args)
    (h : WPe C n sc ρ O (.Name id p) fun d O₁ => d = .val (.static fv) ∧ WPl C n sc ρ O₁ args fun ds O₂ => O₂ = O ∧ ConR C n fv O ds X) :
    WPer C n sc ρ O (.Call (.Name id p) args [] pos) X := fun A env H as s Q E rm eo M l hE => by
  refine wpC_Call_Name_kw (wpC_mono (h A env H as s E rm eo M l) (fun fv' s₁ qq => qq.out fun d O₁ H₁ as₁ ⟨hd, h₁⟩ M₁ D₁ R₁ => ?_) fun _ _ x => x)
  subst hd
  unfold DenD Den at D₁
  subst D₁
  have hns' := noStar_any pos env hns
  have goal : wpC (model C.prog C.w) A (evalArgs fv' true (backTo pos (starEach args env)) (backToKw pos (keywordEach [] env))) (fun x s₂ => wpC (model C.prog C.w) A (call fv' ([] ++ x.pos) x.kw) Q E s₂) E s₁ :=
    args_ rm eo M₁ (l.rel R₁) hns rfl (K := fun ds kds O₃ => kds = [] ∧ O₃ = O ∧ ConR C n fv' O ds X)
      (fun A env H as s E pos rm eo M l => wpC_mono (h₁ A env H as s E pos rm eo M l) (fun vs s' qq => qq.out fun ds O' H' as' q M D R => ⟨ds, O', H', as', WPk_nil ⟨rfl, rfl, q⟩, M, D, R⟩) fun _ _ x => x)
      fun x ds kds O₂ H₂ as₂ s₂ ⟨hk, hO, hc⟩ M₂ D₂ N₂ K₂ R₂ => by
        subst hk; subst hO
        have hx : x.kw = [] := by
          have : x.kw.map (·.1) = [] := N₂
          simpa using this
        rw [hx]
        exact hc A H₂ as₂ s₂ x.pos Q E rm M₂ D₂ fun h' tk e hx => hE H₂ as₂ s₂ h' tk e M₂ (R₁.trans R₂) hx
  rcases hf with ⟨x, rfl⟩ | ⟨x, rfl⟩
  · exact callWithC_builtin hns' goal
  · exact callWithC_type hns' goal
theorem WPxr_Assign {x px e pos X} (h : WPer C n sc ρ O e X) (hs : ∀ env : Env, EnvOk sc env → swapsWith e (some (.Name x px)) pos.line env = pure false) :
    WPxr C n sc ρ O (.Assign [.Name x px] e pos) X := fun A env H as s Q E rm eo M l hE => by
  rw [exec_Assign_Name env x px e pos (hs env eo)]
  exact wpC_bind (wpC_standAt (wpC_bind (h A env H as s _ E rm eo M l hE)))

theorem WPx_TryCatch {b₀ bs hb hbs tn npos hpos pos X T'} (hr : WPxr C n sc ρ O b₀ X) (hk : sc.lookup tn = some .globalImplicit) (hg : C.mg tn = none) (hb' : C.mb tn = some (.type T'))
    (hexc : isSubtype (.type T') (.type "BaseException") = pure true) (hnt : isSubtype (.type ((Manifest.find? T').elim "type" fun x => x.metatype)) (.type "tuple") = pure false)
    (hsub : isSubtype (.type X) (.type T') = pure true) (h : WPs C 0 sc ρ O (hb :: hbs) Ψ) (hd : (tn == ("__debug__" : Str)) = false) :
    WPx C n sc ρ O (.Try (b₀ :: bs) [.ExceptHandler (some (.Name tn npos)) none (hb :: hbs) hpos] [] [] pos) Ψ := fun A env H as s E rm eo M l => by
  refine wpC_Try_except (wpC_execs_cons (hr A env H as s _ _ rm eo.toEnvOk M l fun H₁ as₁ s₁ h' tk e M₁ R₁ hx => ?_))
  refine Classical.byContradiction fun no => ?_
  obtain ⟨l₀, hfr⟩ := eo.top
  obtain ⟨l', e', f⟩ := id M₁.stk
  rw [hfr] at e'; cases e'
  obtain ⟨ob, tp, he, hcls, hdata⟩ := hx.there
  have hfL : ∃ L, env.frame = some L := let ⟨_, L, q, _⟩ := f env (.head _); ⟨L, q⟩
  obtain ⟨L, hL⟩ := hfL
  let fr := (env :: l₀).filterMap (·.frame)
  have hmem : ∀ env' ∈ (env :: l₀), ∀ L', env'.frame = some L' → L' ∈ fr := fun env' he' L' hL' => List.mem_filterMap.mpr ⟨env', he', hL'⟩
  have hFF : Heap.FunFrames h' (hideAll s₁.heap fr) (env :: l₀) := funFrames_of fun env' he' => by
    obtain ⟨q1, L', q2, _, _, o, es, n, q5, q6⟩ := f env' he'
    exact ⟨q1, L', o, q2, hideAll_none _ (hmem env' he' L' q2), hx.keeps _ _ q5, fun vs q => by rw [q6] at q; cases q⟩
  have hst : Heap.StaysIn (hideAll s₁.heap fr) h' := fun b o hb => hx.keeps b o (of_hideAll _ hb)
  have hen : (hideAll s₁.heap fr).get? e = none := by
    cases q : (hideAll s₁.heap fr).get? e with
    | none => rfl
    | some o => have := of_hideAll _ q; rw [hx.new] at this; cases this
  refine no ?_
  unfold noteFrame
  simp only [hL]
  refine wpAny_bind (wpAny_field he hdata (x := .none) rfl ?_)
  rw [if_neg (by decide)]
  refine wpAny_entryW (a0 := tp) hfr hFF hL he hst hen hdata (by show 1 < 6; decide) rfl fun h₂ hN => ?_
  obtain ⟨n1, n2, n3, n4⟩ := hN
  rw [hcls] at n3
  refine wpAny_landsW (l := env :: l₀) (L := L) ⟨n1, hen, n2, n3⟩ fun h₃ hfl hsm => ?_
  refine wpC_handleBy1 (X := X) hexc hnt hsub fun E' => ?_
  have mem : ∀ (h₄ : Heap) (t : Nat), Heap.StaysIn (hideAll s₁.heap fr) h₄ → h'.UpToSlots h₄ → Mem C A H₁ as₁ O { s₁ with heap := h₄, toks := t } ∧ ∀ X, Rel X H₁ as₁ s₁ H₁ as₁ { s₁ with heap := h₄, toks := t } := fun h₄ t a b =>
    M₁.slots hfr (fun b' o hb' hn => a b' o (hideAll_get _ hb' hn)) fun b' o hb' hd' => b b' o (hx.keeps b' o hb') hd'
  obtain ⟨M₃, R₃⟩ := mem h₃ tk hfl.1 (Heap.UpToSlots.trans n4 hsm)
  have hk' : env.kindOf tn = some .globalImplicit := by unfold Env.kindOf; rw [eo.names]; exact hk
  refine wpAny_Name ?_ hd
  unfold loadName
  simp only [Env.blockKind, eo.kind, hk', ScopeKind.isAnnotationScope, Bool.false_and, Bool.false_eq_true, if_false]
  refine loadGlobal_builtin (by rw [eo.globals]; exact C.g.keeps M₃.keepB) hg (by rw [eo.builtins]; exact C.b.keeps M₃.keepB) hb' ⟨rfl, ?_, ?_⟩
  · obtain ⟨ob', q1, q2⟩ := hfl.there
    exact ⟨ob', q1, q2⟩
  · refine lands_againW hfl fun h₆ hfl₆ hsm₆ => ?_
    obtain ⟨M₆, R₆⟩ := mem h₆ tk hfl₆.1 (Heap.UpToSlots.trans (Heap.UpToSlots.trans n4 hsm) hsm₆)
    have M₆' : Mem C (A.mark (some (.ref e))) H₁ as₁ O { s₁ with heap := h₆, toks := tk } := M₆.around rfl
    have rm' : Room 0 (A.mark (some (.ref e))) := ⟨fun q => absurd q (Nat.lt_irrefl 0), by have := rm.depth; show A.depth + 0 ≤ 900; (first | exact Nat.le_of_add_right_le this | lia), by have := rm.units; show A.units + 60 * 0 ≤ 9000; (first | exact Nat.le_of_add_right_le this | lia)⟩
    refine wpC_mono (h (A.mark (some (.ref e))) env H₁ as₁ _ E' rm' ⟨eo.toEnvOk, ⟨l₀, hfr⟩⟩ M₆' ((l.rel R₁).rel (R₆ _))) (fun fl s₇ qq => qq.out fun H₇ as₇ R₇ h₇ => ⟨H₇, as₇, (R₁.up.trans (R₆ _)).trans R₇, ?_⟩) fun _ _ x => x
    cases fl with
    | next => exact h₇.casesOn fun ρ' O' q M₇ l₇ => ⟨ρ', O', q, M₇.around rfl, l₇⟩
    | cont => exact h₇.casesOn fun ρ' O' q M₇ l₇ => ⟨ρ', O', q, M₇.around rfl, l₇⟩
    | brk => exact h₇.casesOn fun ρ' O' q M₇ l₇ => ⟨ρ', O', q, M₇.around rfl, l₇⟩
    | ret v => exact h₇.casesOn fun d O' q M₇ D₇ => ⟨d, O', q, M₇.around rfl, D₇⟩

theorem WPx_TryCalm {bs hb hbs pos} (h : WPs C n sc ρ O bs Ψ) : WPx C n sc ρ O (.Try bs (hb :: hbs) [] [] pos) Ψ := fun A env H as s E rm eo M l =>
  wpC_Try_except (h A env H as s _ rm eo M l)
end
end Mine
end

section
set_option Elab.async false
set_option maxRecDepth 100000
set_option linter.unusedVariables false
namespace Mine
open PySem PySem.W PyProof.Rows PySem.Calls PySem.NumText

noncomputable def joinS (sep : PySem.Str) : List PySem.Str → PySem.Str
  | [x] => x
  | xs => Builtin.Str.glued sep xs
noncomputable def strsT : List T → Option (List PySem.Str)
  | [] => some []
  | .str x :: r => (strsT r).map (x :: ·)
  | _ => none

theorem strsT_vals {H : PHeap} : ∀ {ts : List T} {xs : List PySem.Str} {vs : List Value}, strsT ts = some xs → DenL H ts vs → ∃ l : List (PySem.Str × Tok), vs = strValues l ∧ l.map (·.1) = xs
  | [], xs, vs, h, d => by
    rw [DenL.nil_iff] at d; subst d
    cases h
    exact ⟨[], rfl, rfl⟩
  | t :: ts, xs, vs, h, d => by
    rw [DenL.cons_iff] at d
    obtain ⟨v, r, rfl, d1, d2⟩ := d
    cases t with
    | str x =>
      unfold strsT at h
      obtain ⟨ys, hy, rfl⟩ := Option.map_eq_some_iff.mp h
      obtain ⟨l, rfl, hl⟩ := strsT_vals hy d2
      unfold Den at d1
      obtain ⟨t, rfl⟩ := d1
      exact ⟨(x, t) :: l, rfl, by simp [hl]⟩
    | _ => simp [strsT] at h

section
variable {C : Cx} {n : Nat} {O : List Ob} {Φ : D → List Ob → Prop}

theorem F_lower {x : PySem.Str} (hfit : Builtin.Str.tooLong (Txt.lower x).length = false) (h : Φ (.val (.str (Txt.lower x))) O) : ConB C n (.builtin "str.lower") O [.val (.str x)] [] Φ := ConB_1 fun A H as s E v rm M d1 => by
  obtain ⟨t, rfl⟩ := denStr d1
  exact SC.lower hfit (after_str M h)

theorem F_join {sep : PySem.Str} {ts : List T} {d : D} {xs : List PySem.Str} (hd : listD O d = some ts) (hx : strsT ts = some xs)
    (hl : Builtin.Str.tooLong (xs.toArray.foldl (· + ·.length + sep.length) 0) = false) (hf : (joinS sep xs).length ≤ sizeLine) (h : Φ (.val (.str (joinS sep xs))) O) :
    ConB C n (.builtin "str.join") O [.val (.str sep), d] [] Φ := ConB_2 fun A H as s E v u rm M d1 d2 => by
  obtain ⟨t, rfl⟩ := denStr d1
  obtain ⟨a, items, k, rfl, g, dl⟩ := listD_at M hd d2
  obtain ⟨l, hl1, hl2⟩ := strsT_vals hx dl
  have hi : items = (strValues l).toArray := by rw [← hl1]
  refine call_meets F.slot_str_join (typeIs_str _ _ _) F.entry_str_join (F.args_str_join_2 _ _) (meets_str_join_list sep t a l (by rw [hl2]; exact hl)) ⟨by rw [← hi]; exact isList_of g, ?_⟩
  cases l with
  | nil =>
    simp only [List.map_nil] at hl2; subst hl2
    exact ⟨hf, after_str M h⟩
  | cons p r =>
    cases r with
    | nil =>
      simp only [List.map_cons, List.map_nil] at hl2; subst hl2
      exact ⟨_, O, H, as, h, M, by unfold DenD Den; exact ⟨_, rfl⟩, Rel.refl⟩
    | cons q r =>
      simp only [List.map_cons] at hl2; subst hl2
      exact ⟨hf, after_str M h⟩

theorem C_notInS {x y : PySem.Str} (h : Φ (.val (.bool (Builtin.Str.occurrences x y 0 x.length 1).isEmpty)) O) : WPt C n O [.val (.str y), .val (.str x)] (opC .NotIn) Φ := WPt_ss fun A H as s E t t' M => by
  refine P.notIn_str (after_bool M ?_)
  rw [Bool.not_not]; exact h

theorem F_getStr {a : Addr} {f : PySem.Str → Option Value} {x : PySem.Str} {r dflt : Int} (hm : C.B.MapOf (strKind C.prog C.w) a f) (ha : (a == sysModules) = false)
    (hr : (f x = none ∧ r = dflt) ∨ ∃ t, f x = some (.int r t)) (h : Φ (.val (.int r)) O) :
    ConB C n (.builtin "dict.get") O [.val (.static (.ref a)), .val (.str x), .val (.int dflt)] [] Φ := ConB_3 fun A H as s E v u w rm M d1 d2 d3 => by
  obtain ⟨t, rfl⟩ := denStr d2
  obtain ⟨t', rfl⟩ := denInt d3
  obtain rfl := denStatic d1
  have hm' : s.heap.MapOf (strKind C.prog C.w) a f := let ⟨o, es, ep, ho, rest⟩ := hm; ⟨o, es, ep, M.keepB _ _ ho, rest⟩
  refine call_meetsIn F.slot_dict_get hm'.typeIs F.entry_dict_get (F.args_dict_get_3 _ _ _) (meets_dict_get_default (strKind C.prog C.w) a (strKind_is _ _ _ _) ha _) ⟨_, hm', ?_⟩
  rcases hr with ⟨e, rfl⟩ | ⟨t, e⟩
  · rw [e]; exact after_int M h
  · rw [e]; exact after_int M h

theorem F_int10 {x : PySem.Str} {i : Int} (hs : (numSeenOf x).length ≤ 640) (hn : PySem.intText? x = some i) (h : Φ (.val (.int i)) O) :
    ConB C n (.type "int") O [.val (.str x), .val (.int 10)] [] Φ := ConB_2 fun A H as s E v u rm M d1 d2 => by
  obtain ⟨t, rfl⟩ := denStr d1
  obtain ⟨t', rfl⟩ := denInt d2
  exact call_int_good hs hn (after_int M h)
theorem R_int10 {x : PySem.Str} (hs : (numSeenOf x).length ≤ 640) (hn : PySem.intText? x = none) (hx : (reprText x).length ≤ 100000) (h0n : 0 < n) :
    ConR C n (.type "int") O [.val (.str x), .val (.int 10)] "ValueError" := fun A H as s vs Q E rm M h1 hE => by
  obtain ⟨v, u, rfl, d1, d2⟩ := dens2 h1
  obtain ⟨t, rfl⟩ := denStr d1
  obtain ⟨t', rfl⟩ := denInt d2
  exact call_int_bad hs hn (rm.handled h0n) hx hE
end
end Mine
end

section
set_option Elab.async false
set_option maxRecDepth 100000
set_option linter.unusedVariables false
open PySem PySem.W PyProof.Rows PySem.Calls
namespace Mine

theorem caller_called : Called (⟨.builtin "claim.caller" {}, none, none, [], none⟩ : Ctx) := by
  show (([Code.builtin "claim.caller" {}] : List Code).any Code.isCaller) = true
  rfl
theorem wp_of_wpC_done {M : Model} {A : Around} {Γ : Ctx} {t : Sem Fin} {R : Result → Shared → Prop} {s : Shared} (hin : Γ.In A) (hC : Called Γ)
    (h : wpC M A t (fun fin s' => ∃ f, fin = .done f ∧ R (.ok f) s') (fun e s' => R (.error e) s') s) (p : Pos) :
    Sem.wp M Γ t (Sem.finPost M Γ R) (fun e _ s' => R (.error e) s') p s := by
  refine Sem.wp_mono M Γ t (fun fin p' s' h' => ?_) (fun _ _ _ h' => h') p s (h.run Γ p hin hC)
  obtain ⟨f, rfl, hf⟩ := h'
  exact hf
theorem thread_endsC {prog : Program} {w : World} {t : Sem Fin} {s : Shared} {R : Result → Shared → Prop} (hreg : s.asleep)
    (h : wpC (model prog w) callerA t (fun fin s' => ∃ f, fin = .done f ∧ (R (.ok f) s' ∧ leftWithCleanup s'.gens = false)) (fun e s' => R (.error e) s' ∧ leftWithCleanup s'.gens = false) s) :
    ∃ n r s' s'', runN (denote table) prog w n s ⟨t, .builtin "claim.caller" {}, default, []⟩ = .halted (outcomeOf r) s' ∧
      schedN (denote table) prog w n (.single s ⟨t, .builtin "claim.caller" {}, default, []⟩) = .halted (outcomeOf r) s' ∧ s'.forget = s''.forget ∧ R r s'' := by
  obtain ⟨n, r, s₁, s₂, hs, hn, hfo, hR⟩ := wp_halts_full (M := model prog w) (R := R) hreg (wp_of_wpC_done (R := fun r s' => R r s' ∧ leftWithCleanup s'.gens = false) caller_in caller_called h default)
  exact ⟨n, r, s₂, s₁, hn, hs, hfo, hR⟩
theorem callFromC {c : ClaimW} {tree : List Value → Sem Fin} {w : World} {s : Shared} {free : Addr → Prop} {gens : Prop} {kept : Heap → Prop} (hz : s.asleep) (hgens : s.gens = #[])
    (hspec : ∀ args, c.pre args = true → WData.layableAll args = true →
      ∀ ord : List DictEntry → List DictEntry, (∀ l, (ord l).Perm l) →
      ∃ vs s₁, layAllW c.records (classAt s.heap) w.params ord args s = some (vs, s₁) ∧
        wpC (model c.prog w) callerA (tree vs) (fun fin s' => ∃ f, fin = .done f ∧ (c.Ends s args vs s₁ (.ok f) s' ∧ s'.os = s.os ∧ AllBare s'.gens ∧ kept s'.heap))
          (fun e s' => c.Ends s args vs s₁ (.error e) s' ∧ s'.os = s.os ∧ AllBare s'.gens ∧ kept s'.heap) s₁) :
    c.CallFrom (fun vs => ⟨tree vs, .builtin "claim.caller" {}, default, []⟩) w free gens kept s := by
  intro args hpre hlay ord hord
  refine Classical.byContradiction fun no => ?_
  obtain ⟨vs, s₁, hlaid, hcode⟩ := hspec args hpre hlay ord hord
  have hal := layAllW_rest _ _ _ hlaid
  obtain ⟨k, r, s', s'', hrun, hsched, hfo, hcase, hos, hkp⟩ := thread_endsC (prog := c.prog) (w := w) (t := tree vs) (s := s₁)
    (R := fun r s' => c.Ends s args vs s₁ r s' ∧ s'.os = s.os ∧ kept s'.heap)
    (Shared.asleep_of_life hal.2.2.2 hz)
    (wpC_mono hcode (by
      rintro fin s' ⟨f, e, h1, h2, h3, h4⟩
      exact ⟨f, e, ⟨h1, h2, h4⟩, leftWithCleanup_false_of_bare h3⟩) (by
      rintro e s' ⟨h1, h2, h3, h4⟩
      exact ⟨⟨h1, h2, h4⟩, leftWithCleanup_false_of_bare h3⟩))
  obtain ⟨eh, _, _, eo, _⟩ := Shared.forget_eq hfo
  have hcase := hcase.congr eh
  have hkp : kept s'.heap := by first | exact eh ▸ hkp | (rw [eh] at hkp; exact hkp) | (rw [← eh] at hkp; exact hkp)
  rw [← eo] at hos
  have hlife : s'.heap.life = s.heap.life := (runN_life _ _ _ hrun).trans hal.2.2.2
  refine no ⟨vs, s₁, hlaid, k, _, s', hsched, ?_, (fun _ i x hx => by rw [hgens] at hx; simp at hx), hkp, by rw [hlife], Shared.rest_eq hos⟩
  rcases hcase with ⟨v, rfl, d1, d2, d3, d4, d5⟩ | ⟨e, ob, cls, rfl, d1, d2, d3, d4, d5⟩
  · exact .inl ⟨v, rfl, d1, d2, d3, fun b o y _ => d4 b o y, d5⟩
  · exact .inr ⟨e, ob, cls, rfl, d1, d2, d3, d4, fun b o y _ => d5 b o y⟩

noncomputable abbrev WalkC (q : Program) (loose : List Str) (XP : (Str → Option Value) → Heap → Prop) (YP : World → Heap → Prop) (r : RowW) (d : DefRec) (kwd : List (Str × PySem.Expr)) : Prop :=
  ∀ (w : World) (s₀ s₁ : Shared) (mg mb : Str → Option Value), Ground q loose r.records XP w s₀ mg mb s₁.heap → YP w s₁.heap → ∀ (a : Addr) (o : Obj) (pm cd doc dV kV : Value), s₁.heap.get? a = some o →
    o.data = .func { docDef d.name d.params d.body d.scope pm cd doc with defaults := dV, kwdefaults := kV } → s₁.heap.CodeRec cd d.name → Dflts mg s₁.heap d.params kwd dV kV → mg d.name = some (.ref a) → s₁.gens = #[] →
    ∀ (args : List WData) (vals : List Value) (as : List Addr), r.claim.pre args = true → WData.layableAll args = true → ReadsAllW r.records (classAt s₀.heap) s₁.heap vals args as → WellAll w.params s₁.heap vals args → (∀ a ∈ as, (a == sysModules) = false) →
      wpC (model r.prog w) callerA (PySem.call (.ref a) vals) (fun v s' => GoodWG r.claim (classAt s₀.heap) (ExcName.means s₀.heap) args s₁ (.ok (.ret v)) s')
        (fun _ _ => False) s₁

end Mine

namespace Mine.Hd
theorem PySem.W.holds_open {r : OpenRow} {q : Program} {loose : List Str} {Xt : Shared → Bool} {XP : (Str → Option Value) → Heap → Prop} {α : Type} {Yf : Shared → α} {Ya : World → α} {YP : World → Heap → Prop} {d : DefRec} {kwd : List (Str × PySem.Expr)} {N : Nat}
    (left : LeftO r.prog q loose Xt Yf Ya N) (hY : ∀ w s, Yf s = Ya w → YP w s.heap) (hYk : ∀ w h h', YP w h → (∀ b o, h.get? b = some o → h'.get? b = some o) → YP w h')
    (hX : ∀ s, Xt s = true → XP (s.heap.nsMap mainGlobals) s.heap) (hXk : ∀ mg h h', XP mg h → (∀ b o, h.get? b = some o → h'.get? b = some o) → XP mg h')
    (hdef : defOf q r.name = some (d, kwd)) (hp : r.prog.theDef r.name = some (d.params, d.body, d.scope)) (hk : kwWritten? d.params.kwonlyargs d.params.kw_defaults = some kwd) (hRf : ∀ s, Xt s = true → RecFacts r.records s.heap) (hwr : (!r.writes || r.records.isEmpty) = true)
    (k1 : r.wellSaid = true) (ok : (chainsOk q && opensWell r.prog && (frees r.toRowW && r.within.isEmpty)) = true) (hb : r.prog.bare) (hw : r.toRowW.promised)
    (call : WalkC q loose XP YP r.toRowW d kwd) : r.Holds := by
  refine ⟨k1, hw, ?_⟩
  show r.toRowW.claim.HoldsOpenBy (fun vs => ⟨do match ← nsGet mainNs r.name with
      | some f => do ret (← PySem.call f vs)
      | none => unsupported "claim.caller:no-such-global", .builtin "claim.caller" {}, default, []⟩) _ _ _
  obtain ⟨ok, k5⟩ := Bool.and_eq_true_iff.mp ok
  obtain ⟨hch, o1⟩ := Bool.and_eq_true_iff.mp ok
  obtain ⟨k5, k6⟩ := Bool.and_eq_true_iff.mp k5
  obtain ⟨hsame, hu, ha, hap, hm⟩ := frees_parts k5
  refine ⟨⟨hb, o1, by show r.makers.map _ = []; rw [hm]; rfl⟩, hw.witness, fun w => ⟨(left.behind hX hch w).1, fun s' hs' => ?_⟩⟩
  obtain ⟨s₀, hf, hg0, s, hT, hz, hgens, hg, G00, y⟩ := (left.behind (XP := fun mg h => XP mg h ∧ RecFacts r.records h) (fun s hs => ⟨hX s hs, hRf s hs⟩) hch w).2 s' hs'
  have G0 : Ground q loose [] XP w s (s.heap.nsMap mainGlobals) (s.heap.nsMap builtinsNs) s.heap := ⟨G00.T, G00.B, G00.D, G00.TE, G00.TD, G00.W, G00.X.1, G00.cls, G00.has, G00.apart, G00.once, G00.K⟩
  have RF := G00.X.2
  have hT' := hT
  refine ⟨s₀, hf, hg0, s, hT, fun n hn => ?_, RF.1, RF.2.1, ?_⟩
  · obtain rfl : n = r.name := by split at hn <;> simp_all
    exact pinned_of_view hg G0 hdef hp hk
  have hgens : s.gens = #[] := Array.eq_empty_of_size_eq_zero (beq_iff_eq.mp hgens)
  have G : Ground q loose r.records XP w s _ _ s.heap := RF.ground G0
  refine callFromC (c := r.toRowW.claim) hz hgens fun args hpre hlay ord hord => Classical.byContradiction fun no => ?_
  obtain ⟨⟨vs, s₁⟩, hlaid⟩ := Option.isSome_iff_exists.mp (layAllW_isSome (P := w.params) (ord := ord) G.has args r.args s (pre_splitW hpre).1)
  have keeps := layAllW_keeps _ _ _ hlaid
  have hal := layAllW_rest _ _ _ hlaid
  obtain ⟨as, hrd, hin, hold⟩ := reads_layAllW hord _ _ _ hlaid hlay s₁.heap (fun _ _ e => e)
  have L : Laid r.records w s s₁ args vs as := ⟨⟨ord, hord, hlaid⟩, hrd, hin, hold, keeps, hal.1.trans hgens, hal.2.2.1⟩
  have G₁ := G.keeps hXk keeps
  obtain ⟨a, o, pm, cd, doc, dV, kV, h1, h2, h3, h4, h5⟩ := G₁.fn hdef
  have h := call w s s₁ _ _ G₁ (hYk _ _ _ (hY w s y) keeps) a o pm cd doc dV kV h2 h3 h4 h5 (defOf_name hdef ▸ h1) L.gens args vs as hpre hlay L.reads L.well (L.low G.low)
  have hi := ident_freeW hu ha hap
  have hwi : r.toRowW.claim.within = [] := List.isEmpty_iff.mp k6
  refine no ⟨vs, s₁, hlaid, wpC_bind (.of (wpAny_nsGet G₁.T.g ?_))⟩
  rw [h1]
  exact wpC_bind (wpC_mono h (fun v s' g => .of (wpAny_pure ⟨_, rfl, have z := g.laid (c := r.toRowW.claim) hsame hwi hi L; ⟨z.1, z.2.1, z.2.2, fun q => ⟨namesKept_of hT' hg _ keeps g.2.1.old, noTable hwr q⟩⟩⟩)) fun _ _ x => x.elim)
end Mine.Hd
end

section
set_option Elab.async false
set_option maxRecDepth 100000
set_option linter.unusedVariables false
namespace Mine
open PySem PySem.Sre

noncomputable def sreCode : Array Nat := #[14, 4, 0, 1, 4294967295, 17, 0, 7, 14, 24, 10, 1, 4294967295, 13, 5, 22, 48, 57, 0, 1, 15, 17, 15, 13, 11, 9, 0, 26624, 2147483648, 0, 0, 0, 0, 0, 0, 15, 2, 0, 17, 1, 1]

noncomputable def stepN : Nat → M → M
  | 0, m => m
  | n + 1, m => stepN n m.step
theorem stepN_add : ∀ (a b : Nat) (m : M), stepN (a + b) m = stepN b (stepN a m)
  | 0, b, m => by simp [stepN]
  | a + 1, b, m => by rw [Nat.add_right_comm]; show stepN (a + b) m.step = stepN b (stepN a m.step); exact stepN_add a b _
theorem stepN_succ (n : Nat) (m : M) : stepN (n + 1) m = stepN n m.step := rfl
theorem stepN0 (m : M) : stepN 0 m = m := rfl
theorem step_done {m : M} (h : m.outcome.isSome = true) : m.step = m := by unfold M.step; rw [if_pos h]
theorem stepN_done {m : M} (h : m.outcome.isSome = true) : ∀ n, stepN n m = m
  | 0 => rfl
  | n + 1 => by show stepN n m.step = m; rw [step_done h]; exact stepN_done h n
theorem runFor_eq : ∀ (n : Nat) (m : M), M.runFor n m = stepN n m
  | 0, m => rfl
  | n + 1, m => by
    show (if m.outcome.isSome = true then m else M.runFor n m.step) = stepN n m.step
    split
    · rename_i h; rw [step_done h, stepN_done h]
    · exact runFor_eq n _

noncomputable def isDig (c : Nat) : Bool := 48 ≤ c && c ≤ 57
noncomputable def isSgn (c : Nat) : Bool := c == 43 || c == 45 || c == 46 || c == 95

noncomputable def startF (s : Nat) (o : Bool) : Sre.Frame := { wait := .nextStart, pc := 5, pos := s, outermost := o }
noncomputable def mAt (text : Array Nat) (lim s : Nat) (pc pos hd : Nat) (o : Bool) (marks : Array (Option Nat)) (lm li : Int) (fr : List Sre.Frame) (wt : Nat) (an : Option Bool) (seen : Seen) : M :=
  { code := sreCode, text := text, lim := lim, start := s, lastStart := lim, wholeText := false, mustAdvance := false, pc := pc, pos := pos, handed := hd, outermost := o, marks := marks, lastmark := lm, lastindex := li,
    loops := #[], inner := none, frames := fr, weight := wt, answer := an, seen := seen, outcome := none }
noncomputable def kept0 : Sre.Kept := { lastmark := 0, lastindex := -1, whole := false, marks := #[] }
noncomputable def brF (s pc : Nat) (o : Bool) : Sre.Frame := { wait := .nextBranch, pc := pc, pos := s, outermost := o, kept := kept0 }
noncomputable def gbF (p : Nat) (o : Bool) (n : Int) : Sre.Frame := { wait := .giveBack, pc := 9, pos := p, outermost := o, count := n, kept := kept0 }

variable {text : Array Nat} {lim s : Nat} {o : Bool} {x y : Option Nat} {seen : Seen}

theorem st_mark0 (hd : Nat) : (mAt text lim s 5 s hd o #[x, y] (-1) (-1) [startF s o] 1 none seen).step = mAt text lim s 7 s hd o #[some s, y] 0 (-1) [startF s o] 1 none (seen.add 17) := by
  rfl
theorem st_branch (hd : Nat) : (mAt text lim s 7 s hd o #[some s, y] 0 (-1) [startF s o] 1 none seen).step = mAt text lim s 9 s s o #[some s, y] 0 (-1) [brF s 8 o, startF s o] 2 none (seen.add 7) := by
  rfl
noncomputable def digits (text : Array Nat) : Nat → Nat → Nat
  | 0, _ => 0
  | n + 1, p => if isDig (text.getD p 0) then digits text n (p + 1) + 1 else 0
theorem acc_dig (c : Nat) (seen : Seen) : ∃ seen', accepts sreCode 13 c seen = .ok (isDig c, seen') := by
  show ∃ seen', inSet sreCode c sreCode.size 15 true seen = .ok (isDig c, seen')
  show ∃ seen', (if (decide (48 ≤ c) && decide (c ≤ 57)) = true then Except.ok (true, seen.add 22) else inSet sreCode c 40 18 true (seen.add 22)) = .ok (isDig c, seen')
  split
  · rename_i h; exact ⟨_, by rw [show isDig c = true from h]⟩
  · rename_i h
    rw [show isDig c = false from by unfold isDig; exact Bool.not_eq_true _ ▸ h]
    exact ⟨_, rfl⟩
theorem run_dig : ∀ (n p f : Nat) (seen : Seen), ∃ seen', Sre.run sreCode text 13 n p f seen = .ok (f + digits text n p, seen')
  | 0, p, f, seen => ⟨seen, rfl⟩
  | n + 1, p, f, seen => by
    obtain ⟨s1, e1⟩ := acc_dig (text.getD p 0) seen
    obtain ⟨s2, e2⟩ := run_dig n (p + 1) (f + 1) s1
    unfold Sre.run
    rw [e1]
    cases hd : isDig (text.getD p 0) with
    | true => refine ⟨s2, ?_⟩; show Sre.run sreCode text 13 n (p + 1) (f + 1) s1 = _; rw [e2]; rw [digits, if_pos hd]; congr 2; (exact Nat.add_right_comm _ _ _)
    | false => refine ⟨s1, ?_⟩; show Except.ok (f, s1) = _; rw [digits, if_neg (by rw [hd]; exact Bool.false_ne_true)]; rfl
theorem st_repeat : ∃ seen', (mAt text lim s 9 s s o #[some s, y] 0 (-1) [brF s 8 o, startF s o] 2 none seen).step =
    (if s < lim ∧ 0 < digits text (min 4294967295 (lim - s)) s then
      mAt text lim s 20 (s + digits text (min 4294967295 (lim - s)) s) (s + digits text (min 4294967295 (lim - s)) s) o #[some s, y] 0 (-1) [gbF (s + digits text (min 4294967295 (lim - s)) s) o (digits text (min 4294967295 (lim - s)) s), brF s 8 o, startF s o] 3 none seen'
    else mAt text lim s 9 s s o #[some s, y] 0 (-1) [brF s 8 o, startF s o] 2 (some false) seen') := by
  obtain ⟨s2, e2⟩ := run_dig (text := text) (min 4294967295 (lim - s)) s 0 ((seen.add 24).add 13)
  have hroom : ((lim : Int) - (s : Int)).toNat = lim - s := by (first | exact Int.toNat_sub _ _ | lia)
  have h : (mAt text lim s 9 s s o #[some s, y] 0 (-1) [brF s 8 o, startF s o] 2 none seen).step =
      (if (1 : Int) > (lim : Int) - (s : Int) then mAt text lim s 9 s s o #[some s, y] 0 (-1) [brF s 8 o, startF s o] 2 (some false) (seen.add 24) else
       match Sre.run sreCode text 13 (min 4294967295 ((lim : Int) - (s : Int)).toNat) s 0 ((seen.add 24).add 13) with
       | .error why => (mAt text lim s 9 s s o #[some s, y] 0 (-1) [brF s 8 o, startF s o] 2 none (seen.add 24)).stick why
       | .ok (n, seen) => if n < 1 then mAt text lim s 9 s s o #[some s, y] 0 (-1) [brF s 8 o, startF s o] 2 (some false) seen else
          mAt text lim s 20 (s + n) (s + n) o #[some s, y] 0 (-1) [gbF (s + n) o n, brF s 8 o, startF s o] 3 none seen) := by rfl
  rw [h, hroom, e2]
  by_cases h1 : s < lim
  · rw [if_neg (by (first | exact Int.not_lt.mpr (Int.sub_pos_of_lt (Int.ofNat_lt.mpr h1)) | lia))]
    refine ⟨s2, ?_⟩
    by_cases h2 : 0 < digits text (min 4294967295 (lim - s)) s
    · rw [if_pos ⟨h1, h2⟩]
      simp only [Nat.zero_add]
      rw [if_neg (by (first | exact Nat.not_lt.mpr h2 | lia))]
    · rw [if_neg (fun q => h2 q.2)]
      simp only [Nat.zero_add]
      rw [if_pos (by (exact Nat.lt_of_not_le h2))]
  · refine ⟨seen.add 24, ?_⟩
    rw [if_pos (by (first | exact Int.lt_of_le_of_lt (Int.sub_nonpos_of_le (Int.ofNat_le.mpr (Nat.le_of_not_lt h1))) Int.zero_lt_one | omega)), if_neg (fun q => h1 q.1)]
theorem st_jump1 {p : Nat} {fr : List Sre.Frame} {wt : Nat} : (mAt text lim s 20 p p o #[some s, y] 0 (-1) fr wt none seen).step = mAt text lim s 38 p p o #[some s, y] 0 (-1) fr wt none (seen.add 15) := by rfl
theorem st_jump2 {p hd : Nat} {fr : List Sre.Frame} {wt : Nat} : (mAt text lim s 35 p hd o #[some s, y] 0 (-1) fr wt none seen).step = mAt text lim s 38 p hd o #[some s, y] 0 (-1) fr wt none (seen.add 15) := by rfl
theorem st_mark1 {p hd : Nat} {fr : List Sre.Frame} {wt : Nat} : (mAt text lim s 38 p hd o #[some s, y] 0 (-1) fr wt none seen).step = mAt text lim s 40 p hd o #[some s, some p] 1 1 fr wt none (seen.add 17) := by
  show (M.mark { (mAt text lim s 38 p hd o #[some s, y] 0 (-1) fr wt none seen) with seen := seen.add 17 } 1) = _
  unfold M.mark
  show ({ mAt text lim s 38 p hd o _ _ _ fr wt none (seen.add 17) with pc := 40, marks := _, lastmark := _, lastindex := _ } : M) = _
  congr 1
theorem st_success {p hd : Nat} {fr : List Sre.Frame} {wt : Nat} {mk : Array (Option Nat)} : (mAt text lim s 40 p hd o mk 1 1 fr wt none seen).step = mAt text lim s 40 p p o mk 1 1 fr wt (some true) (seen.add 1) := by
  show (if (o && ((false && p != lim) || (false && p == s))) = true then _ else _) = _
  simp only [Bool.false_and, Bool.or_false, Bool.and_false, Bool.false_eq_true, if_false]
  rfl
theorem st_gb {p q hd pc : Nat} {n : Int} {fr : List Sre.Frame} {wt : Nat} {mk : Array (Option Nat)} {o' : Bool} : (mAt text lim s pc p hd o mk 1 1 (gbF q o' n :: fr) (wt + 1) (some true) seen).step = mAt text lim s 9 q hd o' mk 1 1 fr wt (some true) seen := by rfl
theorem st_br {p q hd pc j : Nat} {fr : List Sre.Frame} {wt : Nat} {mk : Array (Option Nat)} {o' : Bool} : (mAt text lim s pc p hd o mk 1 1 (brF q j o' :: fr) (wt + 1) (some true) seen).step = mAt text lim s j q hd o' mk 1 1 fr wt (some true) seen := by rfl
theorem st_start {p hd pc : Nat} {fr : List Sre.Frame} {wt : Nat} {mk : Array (Option Nat)} {o' : Bool} : (mAt text lim s pc p hd o mk 1 1 (startF s o' :: fr) (wt + 1) (some true) seen).step = mAt text lim s 5 s hd o' mk 1 1 fr wt (some true) seen := by rfl
theorem st_end {p hd pc : Nat} {wt : Nat} {mk : Array (Option Nat)} {b : Bool} {lm li : Int} : (mAt text lim s pc p hd o mk lm li [] wt (some b) seen).step = { mAt text lim s pc p hd o mk lm li [] wt (some b) seen with outcome := some (if b then .matched else .failed) } := by rfl
theorem st_br2 {p hd pc : Nat} {fr : List Sre.Frame} : (mAt text lim s pc p hd o #[some s, y] 0 (-1) (brF s 8 o :: fr) 2 (some false) seen).step = mAt text lim s 23 s s o #[some s, y] 0 (-1) (brF s 22 o :: fr) 2 none seen := by rfl
theorem inSet_sgn (c : Nat) (seen : Seen) : ∃ seen', accepts sreCode 23 c seen = .ok (isSgn c, seen') := by
  show ∃ seen', inSet sreCode c 41 25 true seen = .ok (isSgn c, seen')
  have h : inSet sreCode c 41 25 true seen = (if (decide (c < 256) && (sreCode.getD (25 + (1 + c / 32)) 0).testBit (c % 32)) = true then .ok (true, seen.add 9) else inSet sreCode c 40 34 true (seen.add 9)) := rfl
  rw [h]
  have h2 : (decide (c < 256) && (sreCode.getD (25 + (1 + c / 32)) 0).testBit (c % 32)) = isSgn c := by
    by_cases hc : c < 256
    · have : ∀ c, c < 256 → (decide (c < 256) && (sreCode.getD (25 + (1 + c / 32)) 0).testBit (c % 32)) = isSgn c := by decide +kernel
      exact this c hc
    · rw [decide_eq_false hc, Bool.false_and]
      unfold isSgn
      simp only [Bool.false_eq, Bool.or_eq_false_iff, beq_eq_false_iff_ne]
      (first | exact ⟨⟨⟨zNe (Nat.le_of_not_lt hc) rfl, zNe (Nat.le_of_not_lt hc) rfl⟩, zNe (Nat.le_of_not_lt hc) rfl⟩, zNe (Nat.le_of_not_lt hc) rfl⟩ | lia)
  rw [h2]
  cases isSgn c with
  | true => exact ⟨_, rfl⟩
  | false => exact ⟨_, rfl⟩
theorem st_in {fr : List Sre.Frame} : ∃ seen', (mAt text lim s 23 s s o #[some s, y] 0 (-1) fr 2 none seen).step =
    (if s < lim ∧ isSgn (text.getD s 0) = true then mAt text lim s 35 (s + 1) s o #[some s, y] 0 (-1) fr 2 none seen' else mAt text lim s 23 s s o #[some s, y] 0 (-1) fr 2 (some false) seen') := by
  obtain ⟨s2, e2⟩ := inSet_sgn (text.getD s 0) (seen.add 13)
  have h : (mAt text lim s 23 s s o #[some s, y] 0 (-1) fr 2 none seen).step =
      (if s ≥ lim then mAt text lim s 23 s s o #[some s, y] 0 (-1) fr 2 (some false) (seen.add 13) else
       match accepts sreCode 23 (text.getD s 0) (seen.add 13) with
       | .error why => (mAt text lim s 23 s s o #[some s, y] 0 (-1) fr 2 none (seen.add 13)).stick why
       | .ok (false, seen) => mAt text lim s 23 s s o #[some s, y] 0 (-1) fr 2 (some false) seen
       | .ok (true, seen) => mAt text lim s 35 (s + 1) s o #[some s, y] 0 (-1) fr 2 none seen) := by rfl
  rw [h, e2]
  by_cases h1 : s < lim
  · rw [if_neg (by (first | exact Nat.not_le_of_lt h1 | lia))]
    refine ⟨s2, ?_⟩
    cases h2 : isSgn (text.getD s 0) with
    | true => rw [if_pos ⟨h1, rfl⟩]
    | false => rw [if_neg (by rintro ⟨_, q⟩; cases q)]
  · refine ⟨seen.add 13, ?_⟩
    rw [if_pos (by (exact Nat.le_of_not_lt h1)), if_neg (fun q => h1 q.1)]
theorem st_br3 {p hd pc : Nat} {fr : List Sre.Frame} : (mAt text lim s pc p hd o #[some s, y] 0 (-1) (brF s 22 o :: fr) 2 (some false) seen).step = mAt text lim s 22 s hd o #[some s, y] 0 (-1) fr 1 (some false) seen := by rfl
theorem st_next {p hd pc : Nat} : (mAt text lim s pc p hd o #[some s, y] 0 (-1) [startF s o] 1 (some false) seen).step =
    (if s < lim then mAt text lim (s + 1) 5 (s + 1) (s + 1) false #[some s, y] (-1) (-1) [startF (s + 1) false] 1 none seen else mAt text lim s 5 s hd o #[some s, y] 0 (-1) [] 0 (some false) seen) := by rfl

noncomputable def findFrom (text : Array Nat) (lim : Nat) : Nat → Nat → Option (Nat × Nat)
  | 0, _ => none
  | n + 1, s => if s < lim then (if isDig (text.getD s 0) then some (s, s + digits text (min 4294967295 (lim - s)) s) else if isSgn (text.getD s 0) then some (s, s + 1) else findFrom text lim n (s + 1)) else none

theorem digits_pos {n p : Nat} (h : 0 < n) : 0 < digits text n p ↔ isDig (text.getD p 0) = true := by
  cases n with
  | zero => lia
  | succ n => unfold digits; cases h : isDig (text.getD p 0) <;> simp

theorem search : ∀ (n s : Nat) (o : Bool) (x y : Option Nat) (seen : Seen), lim - s < n → ∃ k m', k ≤ 20 * n ∧ stepN k (mAt text lim s 5 s s o #[x, y] (-1) (-1) [startF s o] 1 none seen) = m' ∧
    match findFrom text lim n s with
    | some (b, e) => m'.outcome = some .matched ∧ m'.start = b ∧ m'.handed = e ∧ m'.marks = #[some b, some e] ∧ m'.lastmark = 1
    | none => m'.outcome = some .failed
  | 0, s, o, x, y, seen, h => by lia
  | n + 1, s, o, x, y, seen, h => by
    obtain ⟨sr, er⟩ := st_repeat (text := text) (lim := lim) (s := s) (o := o) (y := y) (seen := (seen.add 17).add 7)
    have e3 : stepN 3 (mAt text lim s 5 s s o #[x, y] (-1) (-1) [startF s o] 1 none seen) = (mAt text lim s 9 s s o #[some s, y] 0 (-1) [brF s 8 o, startF s o] 2 none ((seen.add 17).add 7)).step := by
      rw [stepN_succ 2, st_mark0, stepN_succ 1, st_branch, stepN_succ 0, stepN0]
    rw [er] at e3
    by_cases hd : s < lim ∧ 0 < digits text (min 4294967295 (lim - s)) s
    · rw [if_pos hd] at e3
      have hdd : isDig (text.getD s 0) = true := (digits_pos (by (first | exact Nat.lt_min.mpr ⟨Nat.succ_pos _, Nat.sub_pos_of_lt hd.1⟩ | lia))).mp hd.2
      refine ⟨3 + 7, _, by (exact Nat.le_add_left _ _), rfl, ?_⟩
      unfold findFrom
      rw [if_pos hd.1, if_pos hdd, stepN_add, e3]
      rw [stepN_succ 6, st_jump1, stepN_succ 5, st_mark1, stepN_succ 4, st_success, stepN_succ 3, st_gb (wt := 2), stepN_succ 2, st_br (wt := 1), stepN_succ 1, st_start (wt := 0), stepN_succ 0, st_end, stepN0]
      exact ⟨rfl, rfl, rfl, rfl, rfl⟩
    · rw [if_neg hd] at e3
      have hnd : ¬ (s < lim ∧ isDig (text.getD s 0) = true) := fun q => hd ⟨q.1, (digits_pos (by lia)).mpr q.2⟩
      obtain ⟨si, ei⟩ := st_in (text := text) (lim := lim) (s := s) (o := o) (y := y) (seen := sr) (fr := [brF s 22 o, startF s o])
      have e5 : stepN 5 (mAt text lim s 5 s s o #[x, y] (-1) (-1) [startF s o] 1 none seen) = (mAt text lim s 23 s s o #[some s, y] 0 (-1) [brF s 22 o, startF s o] 2 none sr).step := by
        rw [stepN_add 3 2, e3]
        rw [stepN_succ 1, st_br2, stepN_succ 0, stepN0]
      rw [ei] at e5
      by_cases hs : s < lim ∧ isSgn (text.getD s 0) = true
      · rw [if_pos hs] at e5
        refine ⟨5 + 6, _, by (exact Nat.le_add_left _ _), rfl, ?_⟩
        unfold findFrom
        rw [if_pos hs.1, if_neg (fun q => hnd ⟨hs.1, q⟩), if_pos hs.2, stepN_add, e5]
        rw [stepN_succ 5, st_jump2, stepN_succ 4, st_mark1, stepN_succ 3, st_success, stepN_succ 2, st_br (wt := 1), stepN_succ 1, st_start (wt := 0), stepN_succ 0, st_end, stepN0]
        exact ⟨rfl, rfl, rfl, rfl, rfl⟩
      · rw [if_neg hs] at e5
        have e7 : stepN 7 (mAt text lim s 5 s s o #[x, y] (-1) (-1) [startF s o] 1 none seen) = (if s < lim then mAt text lim (s + 1) 5 (s + 1) (s + 1) false #[some s, y] (-1) (-1) [startF (s + 1) false] 1 none si else mAt text lim s 5 s s o #[some s, y] 0 (-1) [] 0 (some false) si) := by
          rw [stepN_add 5 2, e5]
          rw [stepN_succ 1, st_br3, stepN_succ 0, st_next, stepN0]
        by_cases hl : s < lim
        · rw [if_pos hl] at e7
          obtain ⟨k, m', hk, hm, hr⟩ := search n (s + 1) false (some s) y si (by (first | exact Nat.lt_of_succ_lt_succ (zEq (congrArg Nat.succ (zSub hl).symm) h) | lia))
          refine ⟨7 + k, m', by (first | exact Nat.le_trans (Nat.add_le_add (Nat.le_of_ble_eq_true rfl : 7 ≤ 20) hk) (Nat.le_of_eq (Nat.add_comm 20 _)) | lia), by rw [stepN_add, e7, hm], ?_⟩
          unfold findFrom
          rw [if_pos hl, if_neg (fun q => hnd ⟨hl, q⟩), if_neg (fun q => hs ⟨hl, q⟩)]
          exact hr
        · rw [if_neg hl] at e7
          refine ⟨7 + 1, _, by (exact Nat.le_add_left _ _), rfl, ?_⟩
          unfold findFrom
          rw [if_neg hl, stepN_add, e7]
          rw [stepN_succ 0, st_end, stepN0]
          rfl
end Mine
end

section
set_option Elab.async false
set_option maxRecDepth 100000
set_option linter.unusedVariables false
namespace Mine
open PySem PySem.W PyProof.Rows PySem.Calls

theorem plainAttrs_rePattern : PlainAttrs "re.Pattern" :=
  ⟨⟨"object.__getattribute__", by rw [typeLookup_type, builtinLookup_eq_fast]; kernel_rfl, by decide +kernel⟩, by rw [typeLookup_type, builtinLookup_eq_fast]; kernel_rfl⟩
theorem slot_split : Slot "re.Pattern" "split" "re.Pattern.split" :=
  .of (owner := "re.Pattern") (n := "split") (by rw [typeLookup_type, builtinLookup_eq_fast]; kernel_rfl) (by decide +kernel) (by decide +kernel) (by decide +kernel)
    (by first | exact .inl (by decide +kernel) | exact .inr (by decide +kernel)) (by rw [isSubtype_type]; kernel_rfl)
theorem type_split : typeOf (.builtin "re.Pattern.split") = pure (.type "method_descriptor") := by show builtinType _ = _; rw [builtinType_eq_fast]; kernel_rfl
theorem entry_split : entryFor table "re.Pattern.split" = some Builtin.«re.Pattern.split» := entryFor_of_tree (by kernel_rfl)
theorem args_split (a b : Value) : argsOk "re.Pattern.split" ⟨[a, b], []⟩ := by
  unfold argsOk
  kernel_rfl


section
variable {M : Model} {A : Around} {E : Value → Shared → Prop} {s : Shared}
open PySem.Builtin.Re
theorem wp_reDrive {Q : Sre.M → Shared → Prop} : ∀ (turns k : Nat) (m : Sre.M), k < 4 * turns → (stepN k m).outcome.isSome = true → Q (stepN k m) s → wpAny M A (reDrive turns m) Q E s
  | 0, k, m, hk, _, _ => by lia
  | turns + 1, k, m, hk, ho, hq => by
    show wpAny M A (if (Sre.M.runFor 4 m).outcome.isSome = true then pure (Sre.M.runFor 4 m) else do rule "sre.turn"; reDrive turns (Sre.M.runFor 4 m)) Q E s
    rw [runFor_eq]
    have small : k ≤ 4 → stepN 4 m = stepN k m := fun h => by
      rw [show (4 : Nat) = k + (4 - k) by (first | exact (Nat.add_sub_of_le h).symm | omega), stepN_add, stepN_done ho]
    by_cases h4 : (stepN 4 m).outcome.isSome = true
    · rw [if_pos h4]
      refine wpAny_pure ?_
      have e : stepN 4 m = stepN k m := by
        by_cases h : k ≤ 4
        · exact small h
        · rw [show k = 4 + (k - 4) by (first | exact (Nat.add_sub_of_le (Nat.le_of_lt (Nat.lt_of_not_le h))).symm | lia), stepN_add, stepN_done h4]
      rw [e]; exact hq
    · rw [if_neg h4]
      have h : 4 < k := by
        rcases Nat.lt_or_ge 4 k with h | h
        · exact h
        · rw [small h] at h4; exact absurd ho h4
      refine wpAny_bind (wpAny_rule ?_)
      have e : stepN k m = stepN (k - 4) (stepN 4 m) := by rw [← stepN_add, show 4 + (k - 4) = k by (first | exact Nat.add_sub_of_le (Nat.le_of_lt h) | lia)]
      rw [e] at ho hq
      exact wp_reDrive turns (k - 4) _ (by (first | exact Nat.sub_lt_right_of_lt_add (Nat.le_of_lt h) hk | lia)) ho hq
noncomputable def fewSteps (k : Nat) : Prop := k < 4 * 2 ^ 64
theorem wp_runToEnd {Q : Option Sre.M → Shared → Prop} {k : Nat} {m m' : Sre.M} (hk : fewSteps k) (hm : stepN k m = m') (ho : (m'.outcome = some .matched ∧ Q (some m') s) ∨ (m'.outcome = some .failed ∧ Q none s)) :
    wpAny M A (reRunToEnd m) Q E s := by
  unfold reRunToEnd
  refine wpAny_bind (wp_reDrive (2 ^ 64) k m hk (by rw [hm]; rcases ho with h | h <;> rw [h.1] <;> rfl) ?_)
  rw [hm]
  refine wpAny_bind (wpAny_forIn_list _ (fun _ _ s' => s' = s) _ (fun i rest b s' e => ?_) (fun b s' e => ?_) _ _ rfl)
  · subst e
    split
    · exact wpAny_bind (wpAny_rule (wpAny_pure rfl))
    · exact wpAny_pure rfl
  · subst e
    rcases ho with h | h <;> rw [h.1]
    · exact wpAny_pure h.2
    · exact wpAny_pure h.2

theorem forSearch_eq (text : Array Nat) (pos lim : Nat) (h : pos < lim) : Sre.forSearch sreCode text 1 pos lim false = mAt text lim pos 5 pos pos true #[none, none] (-1) (-1) [startF pos true] 1 none (({} : Sre.Seen).add 14) := by
  have h1 : (decide (pos > lim) || decide (lim - pos < 1)) = false := by simp; (first | exact ⟨Nat.le_of_lt h, fun ze => Nat.not_le_of_lt h (Nat.le_of_sub_eq_zero ze)⟩ | lia)
  show (if pos > lim || lim - pos < 1 then _ else _) = _
  rw [if_neg (by simpa using h1)]
  rfl
theorem forSearch_past (text : Array Nat) (pos lim : Nat) (h : ¬ pos < lim) : (stepN 1 (Sre.forSearch sreCode text 1 pos lim false)).outcome = some .failed := by
  have h1 : (decide (pos > lim) || decide (lim - pos < 1)) = true := by simp; (first | exact .inr (Nat.sub_eq_zero_of_le (Nat.le_of_not_lt h)) | lia)
  have e : Sre.forSearch sreCode text 1 pos lim false = (if pos > lim || lim - pos < 1 then ({ mAt text lim pos 5 pos pos true #[none, none] (-1) (-1) [] 0 none (({} : Sre.Seen).add 14) with lastStart := 0 } : Sre.M).say false else
     mAt text lim pos 5 pos pos true #[none, none] (-1) (-1) [startF pos true] 1 none (({} : Sre.Seen).add 14)) := rfl
  rw [e, if_pos (by simpa using h1)]
  rfl

theorem wp_next {Q : Option Sre.M → Shared → Prop} {t : ReTarget} {start : Nat} (hc : t.code = sreCode) (hg : t.groups = 1) (hl : t.lim < 2 ^ 30)
    (h : match findFrom t.text t.lim (t.lim - start + 1) start with
      | some (b, e) => ∀ m' : Sre.M, m'.start = b → m'.handed = e → m'.marks = #[some b, some e] → m'.lastmark = 1 → Q (some m') s
      | none => Q none s) : wpAny M A (reNextFound t start false) Q E s := by
  unfold reNextFound
  rw [hc, hg]
  by_cases hs : start < t.lim
  · rw [forSearch_eq _ _ _ hs]
    obtain ⟨k, m', hk, hm, hr⟩ := search (text := t.text) (lim := t.lim) (t.lim - start + 1) start true none none (({} : Sre.Seen).add 14) (by (exact Nat.le_refl _))
    have hk' : fewSteps k := by unfold fewSteps; (first | exact zLt (Nat.le_trans hk (Nat.mul_le_mul_left 20 (Nat.succ_le_succ (Nat.le_trans (Nat.sub_le _ _) (Nat.le_of_lt hl))))) rfl | omega)
    clear hk
    revert hm
    generalize mAt t.text t.lim start 5 start start true #[none, none] (-1) (-1) [startF start true] 1 none (({} : Sre.Seen).add 14) = m0
    intro hm
    refine wp_runToEnd hk' hm ?_
    revert hr h
    generalize findFrom t.text t.lim (t.lim - start + 1) start = f
    intro h hr
    cases f with
    | none => exact .inr ⟨hr, h⟩
    | some p => exact .inl ⟨hr.1, h m' hr.2.1 hr.2.2.1 hr.2.2.2.1 hr.2.2.2.2⟩
  · refine wp_runToEnd (k := 1) (by unfold fewSteps; (exact Nat.le_add_left _ _)) rfl (.inr ⟨forSearch_past _ _ _ hs, ?_⟩)
    unfold findFrom at h
    rw [if_neg hs] at h
    exact h

theorem findFrom_spec {text : Array Nat} {lim : Nat} : ∀ {n s b e : Nat}, findFrom text lim n s = some (b, e) → s ≤ b ∧ b < e ∧ e ≤ lim
  | 0, s, b, e, h => by simp [findFrom] at h
  | n + 1, s, b, e, h => by
    have hdig : ∀ n p, digits text n p ≤ n := by
      intro n
      induction n with
      | zero => intro p; simp [digits]
      | succ n ih => intro p; unfold digits; split <;> have := ih (p + 1) <;> lia
    unfold findFrom at h
    split at h
    · rename_i hs
      split at h
      · rename_i hd
        cases h
        have h1 := (digits_pos (text := text) (n := min 4294967295 (lim - s)) (p := s) (by (first | exact Nat.lt_min.mpr ⟨Nat.succ_pos _, Nat.sub_pos_of_lt hs⟩ | lia))).mpr hd
        have h2 := hdig (min 4294967295 (lim - s)) s
        (first | exact ⟨Nat.le_refl _, Nat.lt_add_of_pos_right h1, Nat.add_le_of_le_sub' (Nat.le_of_lt (Nat.lt_of_sub_pos (Nat.lt_of_lt_of_le h1 (Nat.le_trans h2 (Nat.min_le_right _ _))))) (Nat.le_trans h2 (Nat.min_le_right _ _))⟩ | lia)
      · split at h
        · cases h; (first | exact ⟨Nat.le_refl _, Nat.lt_succ_self _, hs⟩ | lia)
        · have := findFrom_spec h; (first | exact ⟨Nat.le_of_succ_le this.1, this.2⟩ | lia)
    · cases h

noncomputable def cuts (text : Array Nat) : Nat → Nat → List PySem.Str
  | 0, st => [⟨text.extract st text.size⟩]
  | n + 1, st => match findFrom text text.size (text.size - st + 1) st with
    | none => [⟨text.extract st text.size⟩]
    | some (b, e) => ⟨text.extract st b⟩ :: ⟨text.extract b e⟩ :: cuts text n e
noncomputable def splitS (x : PySem.Str) : List PySem.Str := cuts x.cps (x.cps.size + 1) 0

theorem wp_reSlice {Q : Value → Shared → Prop} {text : Array Nat} {b e : Nat} (hl : text.size ≤ 1000000) (h : Q (.str ⟨text.extract b e⟩ s.toks) { s with toks := s.toks + 1 }) : wpAny M A (reSlice text 0 b e) Q E s := by
  show wpAny M A (mkStr ⟨text.extract b e⟩) Q E s
  refine wpAny_mkStr h ?_
  have : (⟨text.extract b e⟩ : PySem.Str).length ≤ text.size := by
    show (text.extract b e).size ≤ _
    rw [Array.size_extract]; (first | exact Nat.le_trans (Nat.sub_le _ _) (Nat.min_le_right _ _) | omega)
  rw [sizeLine_eq]; (first | exact zLe (Nat.le_trans this hl) rfl | lia)
end
open PySem.Builtin.Re
theorem reNamed_split (v : Value) : reNamed "re.Pattern.split" "split" ["string", "maxsplit"] 1 [v] [] = pure [some v, none] := by
  kernel_rfl
section
variable {C : Cx} {n : Nat} {O : List Ob} {Φ : D → List Ob → Prop} {prog : Program} {w : World} {A : Around} {E : Value → Shared → Prop} {s : Shared}
structure PatAt (h : Heap) (a : Addr) : Prop where
  here : ∃ o ca v0 v1 t2 v3 v4 t6 oc items k, h.get? a = some o ∧ o.cls = .type "re.Pattern" ∧ o.dict = none ∧ o.data = .fields #[v0, v1, .int 1 t2, v3, v4, .ref ca, .int 0 t6] ∧ h.get? ca = some oc ∧ oc.data = .seq items k ∧ (items.map reRawOf).map (·.toNat) = sreCode

theorem wp_wholeTarget {a : Addr} {x : PySem.Str} {t : Tok} {Q : ReTarget → Shared → Prop} (hp : PatAt s.heap a) (h : ∀ tg : ReTarget, tg.code = sreCode → tg.groups = 1 → tg.text = x.cps → tg.kind = 0 → tg.lim = x.cps.size → Q tg s) :
    wpAny (model prog w) A (reWholeTarget (.ref a) (.str x t)) Q E s := by
  obtain ⟨o, ca, v0, v1, t2, v3, v4, t6, oc, items, k, h1, h2, _, h3, h4, h5, h6⟩ := hp.here
  unfold reWholeTarget
  refine wpAny_bind (wpAny_fieldsOf h1 h3 ?_)
  have e1 : reTextOf (.str x t) = pure (x.cps, 0) := by rfl
  rw [e1]
  refine wpAny_bind (wpAny_pure ?_)
  show wpAny _ _ ((seqItems? (.ref ca) >>= fun r => pure ((r.getD #[]).map reRawOf)) >>= fun c => pure _) _ _ _
  refine wpAny_bind (wpAny_bind (wpAny_seqItems h4 h5 (wpAny_pure (wpAny_pure ?_))))
  exact h _ h6 rfl rfl rfl rfl

theorem cuts_bound {text : Array Nat} : ∀ n st, (cuts text n st).length ≤ 2 * n + 1
  | 0, st => by simp [cuts]
  | n + 1, st => by
    unfold cuts
    split
    · simp
    · rename_i b e _
      have := cuts_bound n e (text := text)
      simp; (exact Nat.add_le_add_right this _)

theorem forIn_st {α β : Type} {f : α → β → Sem (ForInStep β)} {l : List α} {b : β} {Q : β → Shared → Prop} (I : Nat → β → Shared → Prop)
    (turn : ∀ i L b s, I (L + 1) b s → ∀ Q' : ForInStep β → Shared → Prop, (∀ b' s', I L b' s' → Q' (.yield b') s') → wpAny (model prog w) A (f i b) Q' E s) (h : I l.length b s) (fin : ∀ b s, I 0 b s → Q b s) : wpAny (model prog w) A (forIn l b f) Q E s :=
  wpAny_forIn_list f (fun l b s => I l.length b s) Q (fun i rest b s hI => turn i rest.length b s hI _ fun _ _ h => h) fin l b h
inductive SplitI (H : PHeap) (tg : ReTarget) (s : Shared) (L : Nat) : (Array Value × Nat × Nat × Bool × Int × Bool) → Shared → Prop
  | over (out start last m done k) (hd : DenL H (done.map T.str) out.toList) (he : done ++ [⟨tg.text.extract last tg.text.size⟩] = cuts tg.text (tg.text.size + 1) 0) : SplitI H tg s L (out, start, last, false, m, true) { s with toks := k }
  | on (out last m done fuel k) (hla : last ≤ tg.text.size) (hd : DenL H (done.map T.str) out.toList) (he : done ++ cuts tg.text fuel last = cuts tg.text (tg.text.size + 1) 0) (hf : tg.text.size - last < fuel) (hr : tg.text.size - last < L) : SplitI H tg s L (out, last, last, false, m, false) { s with toks := k }
theorem cuts_none {text : Array Nat} {fuel st : Nat} (h : findFrom text text.size (text.size - st + 1) st = none) : cuts text (fuel + 1) st = [⟨text.extract st text.size⟩] := by rw [cuts, h]
theorem cuts_some {text : Array Nat} {fuel st b e : Nat} (h : findFrom text text.size (text.size - st + 1) st = some (b, e)) : cuts text (fuel + 1) st = ⟨text.extract st b⟩ :: ⟨text.extract b e⟩ :: cuts text fuel e := by rw [cuts, h]
theorem group_slice {tg : ReTarget} {m' : Sre.M} {b e : Nat} (hg : tg.groups = 1) (q3 : m'.marks = #[some b, some e]) (q4 : m'.lastmark = 1) (h : ¬ e < b) (d : Sem Value) : reMachineGroup tg m' (0 + 1) d = reSlice tg.text tg.kind b e := by
  unfold reMachineGroup
  rw [q4, q3]
  show (if ((0 : Nat) : Int) ≥ 1 then d else if e < b then reWrongSpan else reSlice tg.text tg.kind b e) = _
  rw [if_neg (by decide), if_neg h]
theorem isStrT {H : PHeap} {x : Str} {t : Tok} : Den H (.str x) (.str x t) := by unfold Den; exact ⟨_, rfl⟩

theorem wp_split {H : PHeap} {a : Addr} {x : PySem.Str} {t : Tok} {R : Result → Shared → Prop} (hl : x.cps.size ≤ 1000000) (hp : PatAt s.heap a)
    (h : ∀ vs k, DenL H ((splitS x).map T.str) vs → R (.ok (.ret (.ref s.heap.objs.size))) { s with heap := s.heap.push { cls := .type "list", data := .seq vs.toArray }, toks := k }) :
    wpAny (model prog w) A (Builtin.«re.Pattern.split» ⟨[.ref a, .str x t], []⟩) (fun fin s' => match fin with | .done f => R (.ok f) s' | .again c' => False) E s := by
  show wpAny _ _ (reNamed "re.Pattern.split" "split" ["string", "maxsplit"] 1 [.str x t] [] >>= _) _ _ _
  rw [reNamed_split]
  refine wpAny_bind (wpAny_pure ?_)
  refine wpAny_bind (m := pure (0 : Int)) (wpAny_pure ?_)
  refine wpAny_bind (wp_wholeTarget hp fun tg hc hg ht hk hlim => ?_)
  have hlim : tg.lim = tg.text.size := by rw [hlim, ht]
  have hsz : tg.text.size ≤ 1000000 := by rw [ht]; exact hl
  have h : ∀ vs k, DenL H ((cuts tg.text (tg.text.size + 1) 0).map T.str) vs → R (.ok (.ret (.ref s.heap.objs.size))) { s with heap := s.heap.push { cls := .type "list", data := .seq vs.toArray }, toks := k } := by rw [ht]; exact h
  clear ht hp hl
  dsimp only
  refine wpAny_bind (forIn_st (SplitI H tg s) (fun i L b s' hI Q hQ => ?_) (.on #[] 0 _ [] (tg.text.size + 1) s.toks (Nat.zero_le _) .nil rfl (by (exact Nat.le_refl _)) (by rw [List.length_range]; unfold reMostMatches; lia)) fun b s' hI => ?_)
  · clear h
    cases hI with
    | over out start last m done k hd he => exact wpAny_pure (hQ _ _ (.over out start last m done k hd he))
    | on out start m done fuel k hla hd he hf hr =>
      show wpAny _ _ ((if ((0 : Int) != 0 && decide (m ≥ 0)) = true then pure none else reNextFound tg start false) >>= _) _ _ _
      refine wpAny_bind ?_
      rw [if_neg (by simp)]
      refine wp_next hc hg (by (first | exact zLt (zEq hlim hsz) rfl | lia)) ?_
      cases fuel with
      | zero => exact absurd hf (Nat.not_lt_zero _)
      | succ fuel =>
      rw [hlim]
      cases hff : findFrom tg.text tg.text.size (tg.text.size - start + 1) start with
      | none => exact wpAny_pure (hQ _ _ (.over out start start m done k hd (by rw [← he, cuts_none hff])))
      | some p =>
        obtain ⟨b, e⟩ := p
        obtain ⟨s1, s2, s3⟩ := findFrom_spec hff
        refine fun m' q1 q2 q3 q4 => wpAny_bind (m := reSlice tg.text tg.kind start m'.start) ?_
        rw [hk]
        refine wp_reSlice hsz ?_
        rw [hg]
        show wpAny _ _ (forIn [0] _ _ >>= _) _ _ _
        rw [List.forIn_cons, group_slice hg q3 q4 (Nat.lt_asymm s2), hk]
        refine wpAny_bind (wpAny_bind (wpAny_bind (wp_reSlice hsz (wpAny_pure ?_))))
        refine wpAny_pure (wpAny_pure ?_)
        have e5 : (m'.handed == m'.start) = false := by rw [q1, q2]; simp; (first | exact Nat.ne_of_lt' s2 | lia)
        rw [e5, q1, q2]
        refine hQ _ _ (.on _ e _ (done ++ [⟨tg.text.extract start b⟩, ⟨tg.text.extract b e⟩]) fuel _ s3 ?_ ?_ (by (first | exact om6 hf s1 s2 s3 | lia)) (by (first | exact om6 hr s1 s2 s3 | lia)))
        · rw [Array.toList_push, Array.toList_push, List.append_assoc, List.map_append]
          exact hd.append (.cons isStrT (.cons isStrT .nil))
        · rw [List.append_assoc, ← he, cuts_some hff]; rfl
  · cases hI with
    | on out start m done fuel k hla hd he hf hr => exact absurd hr (Nat.not_lt_zero _)
    | over out start last m done k hd he =>
      have hlen : out.toList.length + 1 ≤ sizeLine := by
        have h1 := cuts_bound (text := tg.text) (tg.text.size + 1) 0
        have h2 := congrArg List.length he
        have h3 := hd.length
        simp only [List.length_append, List.length_map, List.length_cons, List.length_nil] at h2 h3
        rw [sizeLine_eq]; (first | exact zLe (zEq ((congrArg Nat.succ h3).trans h2) (Nat.le_trans h1 (Nat.succ_le_succ (Nat.mul_le_mul_left 2 (Nat.succ_le_succ hsz))))) rfl | lia)
      show wpAny _ _ (reSlice tg.text tg.kind last tg.lim >>= _) _ _ _
      rw [hk, hlim]
      refine wpAny_bind (wp_reSlice hsz (wpAny_bind (wpAny_newList (wpAny_pure ?_) (by rw [Array.toList_push, List.length_append]; exact hlen))))
      refine h _ _ ?_
      rw [Array.toList_push, ← he, List.map_append]
      exact hd.append (.cons isStrT .nil)

theorem typeIs_pat {a : Addr} (hp : PatAt s.heap a) : s.TypeIs (.ref a) "re.Pattern" := by
  obtain ⟨o, ca, v0, v1, t2, v3, v4, t6, oc, items, k, h1, h2, h2', h3, h4, h5, h6⟩ := hp.here
  exact ⟨o, h1, h2⟩
theorem F_split {a : Addr} {x : PySem.Str} (hp : PatAt C.B a) (hl : x.cps.size ≤ 1000000) (h : Φ (.val (.list ((splitS x).map .str))) O) :
    ConB C n (.builtin "re.Pattern.split") O [.val (.static (.ref a)), .val (.str x)] [] Φ := ConB_2 fun A H as s E v u rm M d1 d2 => by
  obtain rfl := denStatic d1
  obtain ⟨t, rfl⟩ := denStr d2
  have hp' : PatAt s.heap a := by
    obtain ⟨o, ca, v0, v1, t2, v3, v4, t6, oc, items, k, h1, h2, h2', h3, h4, h5, h6⟩ := hp.here
    exact ⟨o, ca, v0, v1, t2, v3, v4, t6, oc, items, k, M.keepB _ _ h1, h2, h2', h3, M.keepB _ _ h4, h5, h6⟩
  refine wpAny_call (codeAny_call_builtin slot_split.plain entry_split (slot_split.check _ _ _ _ _ _ _ _ (typeIs_pat hp') (args_split _ _) ?_))
  refine wpAny_mono (wp_split (H := H) (R := fun r s' => match r with | .ok (.ret v) => After C A [] H as s Φ v s' | .ok _ => False | .error e => E e s') hl hp' fun vs k hv => ?_) (fun fin s' q => ?_) fun _ _ q => q
  · obtain ⟨M₂, R₂⟩ := M.put (o := listO vs.toArray 0) (s' := { s with heap := s.heap.push (listO vs.toArray 0), toks := k }) (get?_size _) (Heap.get?_push_size _ rfl) (fun b o e => Heap.get?_push_of_some _ e) rfl rfl
    refine ⟨_, O, _, as, h, M₂, ?_, R₂ _⟩
    unfold DenD Den
    exact ⟨_, _, 0, rfl, PHeap.put_self, by simpa using DenL.mono (R₂ []).mono _ _ hv⟩
  · cases fin with
    | done f => exact q
    | again c => exact q.elim
end
end Mine
end

section
set_option Elab.async false
set_option maxRecDepth 100000
set_option linter.unusedVariables false
namespace Mine
open PySem PySem.W PyProof.Rows PySem.Calls

noncomputable def fnBody (p : Program) (x : Str) : List Stmt := match p.theDef x with
  | some (_, b, _) => b
  | none => []
noncomputable def fnScope (p : Program) (x : Str) : Scope := match p.theDef x with
  | some (_, _, s) => s
  | none => { kind := .function, names := [], isGenerator := false, isCoroutine := false }
noncomputable def fnParams (p : Program) (x : Str) : Arguments := match p.theDef x with
  | some (a, _, _) => a
  | none => default
noncomputable abbrev fdOf (p : Program) (x : Str) (pm cd doc dV kV : Value) : FuncData := { docDef x (fnParams p x) (fnBody p x) (fnScope p x) pm cd doc with defaults := dV, kwdefaults := kV }
structure DefAt (C : Cx) (p : Program) (x : Str) (a : Addr) (dV kV : Value) : Prop where
  glob : C.mg x = some (.ref a)
  here : ∃ o pm cd doc, C.B.get? a = some o ∧ o.data = .func (fdOf p x pm cd doc dV kV) ∧ C.B.CodeRec cd x
noncomputable def nameOkB (sc : Kinds) (x : Str) : Bool := match sc.lookup x with
  | some .local => true
  | some .cell => true
  | _ => false
theorem nameOk_of {sc : Kinds} {x : Str} (h : nameOkB sc x = true) : nameOk sc x := by
  unfold nameOkB at h
  unfold nameOk
  split at h
  · rename_i e; exact .inl e
  · rename_i e; exact .inr e
  · cases h
noncomputable def isFun : ScopeKind → Bool
  | .function => true
  | _ => false
theorem isFun_of {k : ScopeKind} (h : isFun k = true) : k = .function := by cases k <;> first | rfl | cases h
noncomputable def nodupB : List Str → Bool
  | [] => true
  | x :: r => !r.contains x && nodupB r
theorem nodup_of : ∀ {l : List Str}, nodupB l = true → l.Nodup
  | [], _ => List.nodup_nil
  | x :: r, h => by
    unfold nodupB at h
    rw [Bool.and_eq_true] at h
    exact List.nodup_cons.mpr ⟨by simpa using h.1, nodup_of h.2⟩
noncomputable def textOkB (p : Program) (x : Str) (ps : List Str) : Bool :=
  isFun (fnScope p x).kind && !(fnScope p x).isCoroutine && !(fnScope p x).isGenerator && nodupB ((fnScope p x).names.map (·.1)) && nodupB ps && ps.all (nameOkB (fnScope p x).names)

section
variable {C : Cx} {n : Nat} {O : List Ob}
theorem Con_at {p x a dV kV ds kws} {ρ₀ : Vars} {Φ : D → List Ob → Prop} (F : DefAt C p x a dV kV) (ok : textOkB p x (ρ₀.map (·.1)) = true)
    (hbind : ∀ pm cd doc A H as s vs kvs, Mem C A H as O s → DenDs H as ds vs → kvs.map (·.1) = kws.map (·.1) → DenDs H as (kws.map (·.2)) (kvs.map (·.2)) → ∃ binds, BindsTo s (fdOf p x pm cd doc dV kV) ⟨vs, kvs⟩ binds ∧ BindsDen H as binds ρ₀)
    (h : WPs C n (fnScope p x).names ρ₀ O (fnBody p x) fun o => match o with
      | .next _ O' => Φ (.val .none) O'
      | .ret d O' => Φ d O'
      | _ => False) : Con C (n + 1) (.ref a) O ds kws Φ := by
  obtain ⟨o, pm, cd, doc, h1, h2, h3⟩ := F.here
  unfold textOkB at ok
  simp only [Bool.and_eq_true] at ok
  obtain ⟨⟨⟨⟨⟨k1, k2⟩, k3⟩, k4⟩, k5⟩, k6⟩ := ok
  have F' : FnOk C a (fdOf p x pm cd doc dV kV) (fnBody p x) := ⟨⟨o, h1, h2⟩, h3, rfl, rfl, rfl, rfl, isFun_of k1, (Bool.not_eq_true' _).mp k2, (Bool.not_eq_true' _).mp k3, nodup_of k4⟩
  exact Con_def F' (hbind pm cd doc) (nodup_of k5) (fun y hy => nameOk_of (List.all_eq_true.mp k6 y hy)) h
theorem BindsDen.of {H as} : ∀ {xs : List Str} {vs : List Value} {ds : List D}, xs.length = ds.length → DenDs H as ds vs → BindsDen H as (xs.zip vs) (xs.zip ds)
  | [], [], [], _, _ => ⟨rfl, trivial⟩
  | x :: xs, v :: vs, d :: ds, hl, ⟨h1, h2⟩ => by
    obtain ⟨q1, q2⟩ := BindsDen.of (xs := xs) (by simpa using hl) h2
    exact ⟨by simp [q1], h1, q2⟩
  | _ :: _, _, [], h, _ => by simp at h
  | [], _, _ :: _, h, _ => by simp at h
  | _ :: _, [], _ :: _, _, h => h.elim
  | [], _ :: _, [], _, h => h.elim
theorem Con_plain {p x a ds} (xs : List Str) {Φ : D → List Ob → Prop} (F : DefAt C p x a .none .none) (hl : xs.length = ds.length) (ok : textOkB p x xs = true)
    (hb : ∀ pm cd doc vs, vs.length = xs.length → bindArgs (fdOf p x pm cd doc .none .none) ⟨vs, []⟩ = pure (xs.zip vs))
    (h : WPs C n (fnScope p x).names (xs.zip ds) O (fnBody p x) fun o => match o with
      | .next _ O' => Φ (.val .none) O'
      | .ret d O' => Φ d O'
      | _ => False) : Con C (n + 1) (.ref a) O ds [] Φ := by
  have hm : (xs.zip ds).map (·.1) = xs := by rw [List.map_fst_zip]; (exact Nat.le_of_eq hl)
  refine Con_at F (ρ₀ := xs.zip ds) (by rw [hm]; exact ok) (fun pm cd doc A H as s vs kvs M h1 h2 h3 => ?_) h
  obtain rfl := kws_nil h2
  exact ⟨_, BindsTo.of_eq (hb pm cd doc vs (by rw [h1.length, hl])), .of hl h1⟩
end
end Mine
end

section
set_option Elab.async false
set_option maxRecDepth 100000
set_option linter.unusedVariables false
namespace Mine
open PySem PySem.W PyProof.Rows PySem.Calls

theorem Sub.nil {ρ : Vars} : Sub [] ρ := fun x d h => by simp at h
theorem Sub.refl {ρ : Vars} : Sub ρ ρ := fun x d h => h
theorem Sub.trans {ρ₁ ρ₂ ρ₃ : Vars} (h : Sub ρ₁ ρ₂) (h' : Sub ρ₂ ρ₃) : Sub ρ₁ ρ₃ := fun x d e => h' x d (h x d e)
theorem Sub.cons {x : Str} {d : D} {ρ₀ ρ : Vars} (hx : ρ.lookup x = some d) (h : Sub ρ₀ ρ) : Sub ((x, d) :: ρ₀) ρ := fun y e hy => by
  by_cases q : y = x
  · subst q
    rw [List.lookup_cons, beq_self_eq_true] at hy
    cases hy; exact hx
  · rw [lookup_cons_ne q] at hy; exact h y e hy
theorem Sub.both {x : Str} {d : D} {ρ₀ ρ : Vars} (h : Sub ρ₀ ρ) : Sub ((x, d) :: ρ₀) ((x, d) :: ρ) := fun y e hy => by
  by_cases q : y = x
  · subst q
    rw [List.lookup_cons, beq_self_eq_true] at hy ⊢
    exact hy
  · rw [lookup_cons_ne q] at hy ⊢; exact h y e hy
theorem bindT_sub {tgt : Expr} {t : T} {ρ₀ ρ ρ₁ : Vars} (hs : Sub ρ₀ ρ) (h : BindR tgt t ρ₀ ρ₁) : ∃ ρ₂, BindR tgt t ρ ρ₂ ∧ Sub ρ₁ ρ₂ := by
  cases h with
  | name => exact ⟨_, .name, hs.both⟩
  | pair => exact ⟨_, .pair, hs.both.both⟩

noncomputable def refLt (k : Nat) : D → Bool
  | .val _ => true
  | .ref i => decide (i < k)
noncomputable def refsLt (k : Nat) : Vars → Bool
  | [] => true
  | p :: r => refLt k p.2 && refsLt k r
theorem refsLt.get {k : Nat} : ∀ {ρ : Vars} {x : Str} {d : D}, refsLt k ρ = true → ρ.lookup x = some d → refLt k d = true
  | [], x, d, _, h => by simp at h
  | (y, e) :: r, x, d, hr, h => by
    unfold refsLt at hr
    rw [Bool.and_eq_true] at hr
    by_cases q : x = y
    · subst q
      rw [List.lookup_cons, beq_self_eq_true] at h
      cases h; exact hr.1
    · rw [lookup_cons_ne q] at h; exact refsLt.get hr.2 h

section
variable {C : Cx} {A : Around} {H : PHeap} {as : List Addr} {O : List Ob} {s : Shared}
theorem DenD.cut {as' : List Addr} {d : D} {v : Value} {k : Nat} (hk : refLt k d = true) (h : DenD H as' d v) : DenD H (as'.take k) d v := by
  cases d with
  | val t => exact h
  | ref i =>
    obtain ⟨a, e, rfl⟩ := h
    refine ⟨a, ?_, rfl⟩
    rw [List.getElem?_take]
    unfold refLt at hk
    rw [if_pos (by simpa using hk)]; exact e
theorem Mem.cut {O₁ g : List Ob} (M : Mem C A H as (O₁ ++ g) s) : Mem C A H (as.take O₁.length) O₁ s :=
  ⟨M.base, M.sat, by rw [List.length_take, M.len, List.length_append]; (first | exact Nat.min_eq_left (Nat.le_add_right _ _) | lia), M.nodup.sublist (List.take_sublist ..), (fun i a ob ha ho => by
    rw [List.getElem?_take] at ha
    split at ha
    · refine M.obs i a ob ha ?_
      rw [List.getElem?_append_left (by assumption)]; exact ho
    · cases ha), fun a ha => M.live a (List.mem_of_mem_take ha), M.os, M.gens, M.stk.turn (fun L h _ => fun hm => h (List.mem_of_mem_take hm)) (fun L _ h _ => h) fun L o hL e => .inl e⟩
theorem Rel.cut {X H' as' s'} (r : Rel X H as s H' as' s') : Rel X H as s H' (as'.take as.length) s' := by
  obtain ⟨more, e, hm⟩ := r.ext
  exact ⟨r.mono, r.fresh, r.keep, r.alive, [], by rw [e]; simp, by simp⟩
theorem Loc.cut {env ρ ρ₁} {k : Nat} (l : Loc H as env ρ s) (hs : Sub ρ₁ ρ) (hr : refsLt k ρ₁ = true) : Loc H (as.take k) env ρ₁ s := by
  refine ⟨fun a ha => ?_, l.apart, l.apartL, ?_, l.cell, fun x d hx hk => ?_⟩
  · obtain ⟨h1, h2, h3⟩ := l.off a ha
    exact ⟨fun hm => h1 (List.mem_of_mem_take hm), h2, h3⟩
  · obtain ⟨m, hn, hm⟩ := l.ns
    exact ⟨m, hn, fun x d hx hk => let ⟨v, hv, e⟩ := hm x d (hs x d hx) hk; ⟨v, hv.cut (refsLt.get hr hx), e⟩⟩
  · obtain ⟨v, c, hv, e, ic⟩ := l.cells x d (hs x d hx) hk
    exact ⟨v, c, hv.cut (refsLt.get hr hx), e, ic⟩

variable {n : Nat} {sc : Kinds} {ρ : Vars}
inductive DropD (k : Nat) (d : D) (O' : List Ob) (P : List Ob → Prop) : Prop
  | intro (O₁ g : List Ob) (e : O' = O₁ ++ g) (hl : O₁.length = k) (hr : refLt k d = true) (h : P O₁)
inductive DropN (k : Nat) (ρ' : Vars) (O' : List Ob) (P : Vars → List Ob → Prop) : Prop
  | intro (ρ₁ : Vars) (O₁ g : List Ob) (s : Sub ρ₁ ρ') (e : O' = O₁ ++ g) (hl : O₁.length = k) (hr : refsLt k ρ₁ = true) (h : P ρ₁ O₁)
theorem Con.drop {fv ds kws} {Φ : D → List Ob → Prop} (h : Con C n fv O ds kws fun d O' => DropD O.length d O' fun O₁ => Φ d O₁) : Con C n fv O ds kws Φ := fun A H as s vs kvs E rm M h1 h2 h3 =>
  wpC_mono (h A H as s vs kvs E rm M h1 h2 h3) (fun v s' qq => qq.out fun d O' H' as' hq M' D' R' => by
    obtain ⟨O₁, g, e, hl, hr, hΦ⟩ := hq
    subst e
    have M₂ := M'.cut
    have D₂ := D'.cut hr
    have R₂ := R'.cut
    rw [M.len, ← hl] at R₂
    rw [← hl] at D₂
    exact ⟨d, O₁, H', _, hΦ, M₂, D₂, R₂⟩) fun _ _ x => x
theorem WPs.drop {ss} {Ψ : Out → Prop} (h : WPs C n sc ρ O ss fun o => match o with
    | .next ρ' O' => DropN O.length ρ' O' fun ρ₁ O₁ => Ψ (.next ρ₁ O₁)
    | .cont ρ' O' => DropN O.length ρ' O' fun ρ₁ O₁ => Ψ (.cont ρ₁ O₁)
    | .brk ρ' O' => DropN O.length ρ' O' fun ρ₁ O₁ => Ψ (.brk ρ₁ O₁)
    | .ret d O' => DropD O.length d O' fun O₁ => Ψ (.ret d O₁)) : WPs C n sc ρ O ss Ψ := fun A env H as s E rm eo M l => by
  refine wpC_mono (h A env H as s E rm eo M l) (fun f s' qq => qq.out fun H' as' R h1 => ?_) fun _ _ x => x
  have R₂ := R.cut
  cases f with
  | next =>
    obtain ⟨ρ', O', ⟨ρ₁, O₁, g, hs, e, hl, hr, hΨ⟩, M', L'⟩ := h1
    subst e
    rw [M.len, ← hl] at R₂
    rw [← hl] at hr
    exact ⟨H', _, R₂, ρ₁, O₁, hΨ, M'.cut, L'.cut hs hr⟩
  | brk =>
    obtain ⟨ρ', O', ⟨ρ₁, O₁, g, hs, e, hl, hr, hΨ⟩, M', L'⟩ := h1
    subst e
    rw [M.len, ← hl] at R₂
    rw [← hl] at hr
    exact ⟨H', _, R₂, ρ₁, O₁, hΨ, M'.cut, L'.cut hs hr⟩
  | cont =>
    obtain ⟨ρ', O', ⟨ρ₁, O₁, g, hs, e, hl, hr, hΨ⟩, M', L'⟩ := h1
    subst e
    rw [M.len, ← hl] at R₂
    rw [← hl] at hr
    exact ⟨H', _, R₂, ρ₁, O₁, hΨ, M'.cut, L'.cut hs hr⟩
  | ret v =>
    obtain ⟨d, O', ⟨O₁, g, e, hl, hr, hΨ⟩, M', D'⟩ := h1
    subst e
    rw [M.len, ← hl] at R₂
    rw [← hl] at hr
    exact ⟨H', _, R₂, d, O₁, hΨ, M'.cut, D'.cut hr⟩

theorem WPs_seq {st : Stmt} {ss : List Stmt} {Ψ : Out → Prop} (V : Vars) (O₁ : List Ob) (h1 : WPx C n sc ρ O st fun o => match o with
    | .next ρ' O' => Sub V ρ' ∧ O' = O₁
    | _ => False) (h2 : WPs C n sc V O₁ ss Ψ) : WPs C n sc ρ O (st :: ss) Ψ := by
  refine WPs_cons fun A env H as s E rm eo M l => wpC_mono (h1 A env H as s E rm eo M l) (fun f s' qq => qq.out fun H' as' R q => ⟨H', as', R, ?_⟩) fun _ _ x => x
  cases f with
  | next => obtain ⟨ρ', O', ⟨hs, e⟩, M', l'⟩ := q; exact ⟨ρ', O', (e ▸ WPs.sub h2 hs), M', l'⟩
  | brk => obtain ⟨ρ', O', q, _⟩ := q; exact q.elim
  | cont => obtain ⟨ρ', O', q, _⟩ := q; exact q.elim
  | ret v => obtain ⟨ρ', O', q, _⟩ := q; exact q.elim

inductive StP {σ : Type} (V : σ → Vars) (Q : σ → List Ob) (J : σ → Prop) (ρ' : Vars) (O' : List Ob) : Prop
  | intro (st' : σ) (g : List Ob) (h : J st') (s : Sub (V st') ρ') (e : O' = Q st' ++ g)
theorem ForP_st {σ : Type} {tgt : Expr} {body : List Stmt} {Ψ : Out → Prop} (V : σ → Vars) (Q : σ → List Ob) (J : List T → σ → Prop) (k : Nat)
    (len : ∀ st, (Q st).length = k) (refs : ∀ st, refsLt k (V st) = true)
    (turn : ∀ t ts st, J (t :: ts) st → BindP tgt t (V st) fun ρ₁ => ∀ Ψ : Out → Prop, (∀ ρ' O', StP V Q (J ts) ρ' O' → Ψ (.next ρ' O') ∧ Ψ (.cont ρ' O')) → WPs C n sc ρ₁ (Q st) body Ψ)
    (fin : ∀ st ρ, J [] st → Sub (V st) ρ → Ψ (.next ρ (Q st))) : ∀ (ts : List T) (st : σ) (ρ : Vars), J ts st → Sub (V st) ρ → ForP C n sc tgt body ts ρ (Q st) Ψ
  | [], st, ρ, hJ, hs => fin st ρ hJ hs
  | t :: ts, st, ρ, hJ, hs => by
    obtain ⟨ρ₁, hb, hw⟩ := turn t ts st hJ
    have hw := hw (fun o => match o with
      | .next ρ' O' => StP V Q (J ts) ρ' O'
      | .cont ρ' O' => StP V Q (J ts) ρ' O'
      | .brk _ _ => False
      | .ret _ _ => False) fun ρ' O' h => ⟨h, h⟩
    obtain ⟨ρ₂, hb2, hs2⟩ := bindT_sub hs hb
    refine ⟨ρ₂, hb2, WPs.sub (WPs.drop (hw.mono fun o ho => ?_)) hs2⟩
    cases o with
    | next ρ' O' =>
      obtain ⟨st', g, hJ', hs', e⟩ := ho
      exact ⟨V st', Q st', g, hs', e, by rw [len, len], by rw [len]; exact refs st', ForP_st V Q J k len refs turn fin ts st' _ hJ' Sub.refl⟩
    | cont ρ' O' =>
      obtain ⟨st', g, hJ', hs', e⟩ := ho
      exact ⟨V st', Q st', g, hs', e, by rw [len, len], by rw [len]; exact refs st', ForP_st V Q J k len refs turn fin ts st' _ hJ' Sub.refl⟩
    | brk ρ' O' => exact ho.elim
    | ret d O' => exact ho.elim

theorem ForP_map {σ α : Type} {tgt : Expr} {body : List Stmt} {Ψ : Out → Prop} (f : α → T) (V : σ → Vars) (Q : σ → List Ob) (J : List α → σ → Prop) (k : Nat)
    (len : ∀ st, (Q st).length = k) (refs : ∀ st, refsLt k (V st) = true)
    (turn : ∀ a l st, J (a :: l) st → BindP tgt (f a) (V st) fun ρ₁ => ∀ Ψ : Out → Prop, (∀ ρ' O', StP V Q (J l) ρ' O' → Ψ (.next ρ' O') ∧ Ψ (.cont ρ' O')) → WPs C n sc ρ₁ (Q st) body Ψ)
    (fin : ∀ st ρ, J [] st → Sub (V st) ρ → Ψ (.next ρ (Q st))) (l : List α) (st : σ) (ρ : Vars) (hJ : J l st) (hs : Sub (V st) ρ) : ForP C n sc tgt body (l.map f) ρ (Q st) Ψ := by
  refine ForP_st V Q (fun ts st => ∃ l, ts = l.map f ∧ J l st) k len refs (fun t ts st hj => ?_) (fun st ρ hj hs => ?_) _ st ρ ⟨l, rfl, hJ⟩ hs
  · obtain ⟨l, e, hj⟩ := hj
    cases l with
    | nil => cases e
    | cons a l =>
      obtain ⟨e1, e2⟩ := List.cons.inj e
      subst e1
      obtain ⟨ρ₁, hb, hw⟩ := turn a l st hj
      exact ⟨ρ₁, hb, fun Ψ' h => hw Ψ' fun ρ' O' q => h ρ' O' (q.casesOn fun st' g hJ hS hE => ⟨st', g, ⟨l, e2, hJ⟩, hS, hE⟩)⟩
  · obtain ⟨l, e, hj⟩ := hj
    cases l with
    | nil => exact fin st ρ hj hs
    | cons a l => cases e
theorem ForP_rng {σ : Type} {tgt : Expr} {body : List Stmt} {Ψ : Out → Prop} (V : σ → Vars) (Q : σ → List Ob) (J : Nat → Nat → σ → Prop) (k : Nat)
    (len : ∀ st, (Q st).length = k) (refs : ∀ st, refsLt k (V st) = true)
    (turn : ∀ (i m : Nat) st, J i (m + 1) st → BindP tgt (.int (i : Nat)) (V st) fun ρ₁ => ∀ Ψ : Out → Prop, (∀ ρ' O', StP V Q (J (i + 1) m) ρ' O' → Ψ (.next ρ' O') ∧ Ψ (.cont ρ' O')) → WPs C n sc ρ₁ (Q st) body Ψ)
    (fin : ∀ i st ρ, J i 0 st → Sub (V st) ρ → Ψ (.next ρ (Q st))) (i m : Nat) (st : σ) (ρ : Vars) (hJ : J i m st) (hs : Sub (V st) ρ) : ForP C n sc tgt body (rangeT (i : Nat) 1 m) ρ (Q st) Ψ := by
  refine ForP_st V Q (fun ts st => ∃ i m : Nat, ts = rangeT (i : Nat) 1 m ∧ J i m st) k len refs (fun t ts st hj => ?_) (fun st ρ hj hs => ?_) _ st ρ ⟨i, m, rfl, hJ⟩ hs
  · obtain ⟨i, m, e, hj⟩ := hj
    cases m with
    | zero => cases e
    | succ m =>
      obtain ⟨e1, e2⟩ := List.cons.inj e
      subst e1
      obtain ⟨ρ₁, hb, hw⟩ := turn i m st hj
      exact ⟨ρ₁, hb, fun Ψ' h => hw Ψ' fun ρ' O' q => h ρ' O' (q.casesOn fun st' g hJ hS hE => ⟨st', g, ⟨i + 1, m, e2, hJ⟩, hS, hE⟩)⟩
  · obtain ⟨i, m, e, hj⟩ := hj
    cases m with
    | zero => exact fin i st ρ hj hs
    | succ m => cases e

theorem CompP_map {tgt elt} {Φ : D → List Ob → Prop} (f : T → T) : ∀ (ts acc : List T), (∀ t ∈ ts, BindP tgt t ρ fun ρ₁ => WPe C n sc ρ₁ O elt fun d O' => O' = O ∧ d = .val (f t)) →
    Φ (.val (.list (acc ++ ts.map f))) O → CompP C n sc tgt [] elt ρ O Φ ts acc
  | [], acc, h, hΦ => by simpa [CompP] using hΦ
  | t :: ts, acc, h, hΦ => by
    obtain ⟨ρ₁, hb, hw⟩ := h t (List.mem_cons_self ..)
    refine ⟨ρ₁, hb, ?_⟩
    show (if true = true then WPe C n sc ρ₁ O elt fun d O' => EltP O O' d fun t' => CompP C n sc tgt [] elt ρ O Φ ts (acc ++ [t']) else CompP C n sc tgt [] elt ρ O Φ ts acc)
    rw [if_pos rfl]
    refine hw.mono fun d O' ⟨e1, e2⟩ => ⟨e1, f t, e2, CompP_map f ts (acc ++ [f t]) (fun u hu => h u (List.mem_cons_of_mem _ hu)) ?_⟩
    simpa using hΦ
end
end Mine
end

section
set_option Elab.async false
set_option maxRecDepth 100000
set_option linter.unusedVariables false
namespace Mine
open PySem PySem.W PyProof.Rows PySem.Calls PySem.NumText

noncomputable def Bi (C : Cx) (x : Str) (v : Value) : Prop := C.mg x = none ∧ C.mb x = some v
noncomputable def RetP (P : T → Prop) : Out → Prop := fun o => ∃ t O', o = .ret (.val t) O' ∧ P t
theorem RetP.intro {P : T → Prop} {t : T} {O : List Ob} (h : P t) : RetP P (.ret (.val t) O) := ⟨t, O, rfl, h⟩

theorem dens4 {H as d e f g vs} (h : DenDs H as [d, e, f, g] vs) : ∃ v u w x, vs = [v, u, w, x] ∧ DenD H as d v ∧ DenD H as e u ∧ DenD H as f w ∧ DenD H as g x := by
  obtain ⟨v, r, q, h1, h2⟩ := densC h
  obtain ⟨u, w, x, q', h2, h3, h4⟩ := dens3 h2
  exact ⟨v, u, w, x, by rw [q, q'], h1, h2, h3, h4⟩
theorem kw1 {H as d} {k : Str} {kvs : List (Str × Value)} (h : kvs.map (·.1) = [k]) (h2 : DenDs H as [d] (kvs.map (·.2))) : ∃ v, kvs = [(k, v)] ∧ DenD H as d v := by
  cases kvs with
  | nil => cases h
  | cons p r =>
    cases r with
    | nil => cases h; exact ⟨p.2, rfl, h2.1⟩
    | cons q r => cases h
theorem vs0 {P : List Value → Prop} (h : P []) : ∀ vs : List Value, vs.length = 0 → P vs
  | [], _ => h
theorem vsC {P : List Value → Prop} {n : Nat} (h : ∀ a vs, vs.length = n → P (a :: vs)) : ∀ vs : List Value, vs.length = n + 1 → P vs
  | a :: vs, e => h a vs (Nat.succ.inj e)
theorem vs1 {P : List Value → Prop} (h : ∀ a, P [a]) : ∀ vs : List Value, vs.length = 1 → P vs := vsC fun a => vs0 (P := fun r => P (a :: r)) (h a)
theorem vs2 {P : List Value → Prop} (h : ∀ a b, P [a, b]) : ∀ vs : List Value, vs.length = 2 → P vs := vsC fun a => vs1 (P := fun r => P (a :: r)) (h a)
theorem vs3 {P : List Value → Prop} (h : ∀ a b c, P [a, b, c]) : ∀ vs : List Value, vs.length = 3 → P vs := vsC fun a => vs2 (P := fun r => P (a :: r)) (h a)

section
variable {C : Cx} {n : Nat} {O : List Ob}
theorem tyList {d ts} (hd : listD O d = some ts) : ∀ A H as s v, Mem C A H as O s → DenD H as d v → s.TypeIs v "list" ∧ ∀ a, v = .ref a → ∃ ob, s.heap.get? a = some ob ∧ ob.dict = none := fun A H as s v M hv => by
  obtain ⟨a, vs, k, rfl, g, _⟩ := listD_at M hd hv
  exact ⟨⟨_, g, rfl⟩, fun a' e => by cases e; exact ⟨_, g, rfl⟩⟩
theorem tyStr {x : Str} : ∀ A H as s v, Mem C A H as O s → DenD H as (.val (.str x)) v → s.TypeIs v "str" ∧ ∀ a, v = .ref a → ∃ ob, s.heap.get? a = some ob ∧ ob.dict = none := fun A H as s v M hv => by
  obtain ⟨t, rfl⟩ := denStr hv
  exact ⟨typeIs_str _ _ _, fun a e => by cases e⟩
theorem tyPat {a : Addr} (hp : PatAt C.B a) : ∀ A H as s v, Mem C A H as O s → DenD H as (.val (.static (.ref a))) v → s.TypeIs v "re.Pattern" ∧ ∀ a, v = .ref a → ∃ ob, s.heap.get? a = some ob ∧ ob.dict = none := fun A H as s v M hv => by
  obtain rfl := denStatic hv
  obtain ⟨o, ca, v0, v1, t2, v3, v4, t6, oc, items, k, h1, h2, h2', h3, _⟩ := hp.here
  exact ⟨⟨o, M.keepB _ _ h1, h2⟩, fun a' e => by cases e; exact ⟨o, M.keepB _ _ h1, h2'⟩⟩
theorem tyDictB {a : Addr} {o : Obj} (h1 : C.B.get? a = some o) (h2 : o.cls = .type "dict") (h2' : o.dict = none) : ∀ A H as s v, Mem C A H as O s → DenD H as (.val (.static (.ref a))) v → s.TypeIs v "dict" ∧ ∀ a, v = .ref a → ∃ ob, s.heap.get? a = some ob ∧ ob.dict = none := fun A H as s v M hv => by
  obtain rfl := denStatic hv
  exact ⟨⟨o, M.keepB _ _ h1, h2⟩, fun a' e => by cases e; exact ⟨o, M.keepB _ _ h1, h2'⟩⟩

theorem DefAt.fn {p x a dV kV} (F : DefAt C p x a dV kV) (ok : textOkB p x [] = true) : ∃ fd body, FnOk C a fd body := by
  obtain ⟨o, pm, cd, doc, h1, h2, h3⟩ := F.here
  unfold textOkB at ok
  simp only [Bool.and_eq_true] at ok
  obtain ⟨⟨⟨⟨⟨k1, k2⟩, k3⟩, k4⟩, k5⟩, k6⟩ := ok
  exact ⟨fdOf p x pm cd doc dV kV, fnBody p x, ⟨⟨o, h1, h2⟩, h3, rfl, rfl, rfl, rfl, isFun_of k1, (Bool.not_eq_true' _).mp k2, (Bool.not_eq_true' _).mp k3, nodup_of k4⟩⟩
theorem Con_fn {p x a ds} (xs : List Str) {P : T → Prop} (F : DefAt C p x a .none .none) (hO : noDicts O) (hv : ∀ d ∈ ds, ∃ t, d = .val t) (hl : xs.length = ds.length) (ok : textOkB p x xs = true)
    (hb : ∀ pm cd doc vs, vs.length = xs.length → bindArgs (fdOf p x pm cd doc .none .none) ⟨vs, []⟩ = pure (xs.zip vs))
    (h : ∀ Ψ : Out → Prop, (∀ t O', P t → Ψ (.ret (.val t) O')) → WPs C n (fnScope p x).names (xs.zip ds) [] (fnBody p x) Ψ) : Con C (n + 1) (.ref a) O ds [] fun d O' => RetD O O' d fun t => P t := by
  refine Con.frame0 hO hv (by simp) (Con.drop (Con_plain xs F hl ok hb ((h (RetP P) fun t O' hP => RetP.intro hP).mono fun o ⟨t, O', e, hP⟩ => ?_)))
  subst e
  exact ⟨[], O', rfl, rfl, rfl, t, rfl, hP, by simp⟩
end

noncomputable def signsS : Str := "._+-"
noncomputable def inSigns (v : Str) : Bool := !(Builtin.Str.occurrences signsS v 0 signsS.length 1).isEmpty
noncomputable def stagesT : List (Str × Int) := [("dev", 10), ("alpha", 20), ("a", 20), ("beta", 30), ("b", 30), ("c", 40), ("RC", 50), ("rc", 50), ("pl", 200), ("p", 200)]
noncomputable def stage (v : Str) : Int := (stagesT.lookup v).getD 0
noncomputable def partT (v : Str) : List T := if inSigns v then [] else match PySem.intText? v with
  | some i => [.int 100, .int i]
  | none => [.int (stage v), .str v]
noncomputable def keyT (x : Str) : List T := (splitS x).flatMap partT

theorem mem_cuts {text : Array Nat} : ∀ {n st : Nat} {v : Str}, v ∈ cuts text n st → ∃ b e, v = ⟨text.extract b e⟩
  | 0, st, v, h => by
    unfold cuts at h
    exact ⟨_, _, List.mem_singleton.mp h⟩
  | n + 1, st, v, h => by
    unfold cuts at h
    split at h
    · exact ⟨_, _, List.mem_singleton.mp h⟩
    · rcases List.mem_cons.mp h with h | h
      · exact ⟨_, _, h⟩
      · rcases List.mem_cons.mp h with h | h
        · exact ⟨_, _, h⟩
        · exact mem_cuts h
structure TextOk (x : Str) : Prop where
  short : x.cps.size ≤ 600
  signs : ∀ c ∈ x.cps.toList, c < 16 ^ 8
theorem TextOk.piece {x v : Str} (h : TextOk x) (hv : v ∈ splitS x) : TextOk v := by
  obtain ⟨b, e, rfl⟩ := mem_cuts hv
  refine ⟨by have := h.short; show (x.cps.extract b e).size ≤ 600; rw [Array.size_extract]; (first | exact Nat.le_trans (Nat.sub_le _ _) (Nat.le_trans (Nat.min_le_right _ _) this) | omega), fun c hc => h.signs c ?_⟩
  simp only [Array.toList_extract] at hc
  exact List.mem_of_mem_drop (List.mem_of_mem_take hc)
theorem TextOk.few {x v : Str} (h : TextOk x) : (splitS x).length ≤ 1300 := by
  have := cuts_bound (text := x.cps) (x.cps.size + 1) 0
  have := h.short
  unfold splitS; (first | exact zLe (Nat.le_trans (by assumption) (Nat.succ_le_succ (Nat.mul_le_mul_left 2 (Nat.succ_le_succ this)))) rfl | lia)
theorem partT_few (v : Str) : (partT v).length ≤ 2 := by
  unfold partT
  split
  · exact Nat.zero_le _
  · split <;> exact Nat.le_refl _
theorem flatMap_few {α β : Type} {f : α → List β} {k : Nat} (hf : ∀ a, (f a).length ≤ k) : ∀ l : List α, (l.flatMap f).length ≤ k * l.length
  | [] => by simp
  | a :: l => by
    rw [List.flatMap_cons, List.length_append, List.length_cons, Nat.mul_add, Nat.mul_one]
    have := flatMap_few hf l
    have := hf a
    (first | exact Nat.le_trans (Nat.add_le_add this (by assumption)) (Nat.le_of_eq (Nat.add_comm _ _)) | lia)
theorem keyT_few {x : Str} (h : TextOk x) : (keyT x).length ≤ 2600 := by
  have h1 := flatMap_few partT_few (splitS x)
  have h2 := h.few (v := x)
  unfold keyT; (first | exact Nat.le_trans h1 (Nat.mul_le_mul_left 2 h2) | lia)

structure CvW (C : Cx) (p : Program) (a pt tb : Addr) : Prop where
  df : DefAt C p "_comparable_version" a .none .none
  pat : PatAt C.B pt
  gpat : C.mg "_twin_re_1" = some (.ref pt)
  gtab : C.mg "_ver_stages" = some (.ref tb)
  tab : ∃ f, C.B.MapOf (strKind C.prog C.w) tb f ∧ ∀ v, (f v = none ∧ stage v = 0) ∨ ∃ t, f v = some (.int (stage v) t)
  tabAt : ∃ o, C.B.get? tb = some o ∧ o.cls = .type "dict" ∧ o.dict = none
  tabNe : (tb == sysModules) = false
  int : Bi C "int" (.type "int")
  ve : Bi C "ValueError" (.type "ValueError")
structure AtomOk (sc : Kinds) (ρ : Vars) (e : Expr) (d : D) : Prop where
  ok : ∀ {C : Cx} {n : Nat} {O : List Ob} {Φ : D → List Ob → Prop}, Φ d O → WPe C n sc ρ O e Φ
  star : notStar e
  slice : notSlice e
  mark : ∀ op, behindInMarks op e = false
noncomputable def nameW (sc : Kinds) (ρ : Vars) (x : Str) (p : Pos) : (b : Bool) → (nameOkB sc x && !(x == ("__debug__" : Str))) = b → (o : Option D) → ρ.lookup x = o → Option (Subtype (AtomOk sc ρ (.Name x p)))
  | true, hb, some d, h => some ⟨d, fun k => WPe_var h (nameOk_of (Bool.and_eq_true_iff.mp hb).1) k ((Bool.not_eq_true' _).mp (Bool.and_eq_true_iff.mp hb).2), trivial, trivial, fun _ => rfl⟩
  | _, _, _, _ => none
noncomputable def atomW (sc : Kinds) (ρ : Vars) (e : Expr) : Option (Subtype (AtomOk sc ρ e)) := match e with
  | .Name x p => nameW sc ρ x p _ rfl _ rfl
  | .Constant c k p => match c with
    | .int i => some ⟨.val (.int i), fun k => WPe_int k, trivial, trivial, fun _ => rfl⟩
    | .str x => some ⟨.val (.str x), fun k => WPe_str k, trivial, trivial, fun _ => rfl⟩
    | .none => some ⟨.val .none, fun k => WPe_none k, trivial, trivial, fun _ => rfl⟩
    | _ => none
  | _ => none
noncomputable def atomsW (sc : Kinds) (ρ : Vars) : (es : List Expr) → Option { ds : List D // ∀ {C : Cx} {n : Nat} {O : List Ob} {Φ : List D → List Ob → Prop}, Φ ds O → WPl C n sc ρ O es Φ }
  | [] => some ⟨[], fun k => WPl_nil k⟩
  | e :: es => match atomW sc ρ e, atomsW sc ρ es with
    | some ⟨d, hd⟩, some ⟨ds, hs⟩ => some ⟨d :: ds, fun k => WPl_cons (hd.ok (hs k)) hd.star⟩
    | _, _ => none
noncomputable def outW {α : Type} {P : α → Prop} : Option (Subtype P) → Option α
  | some ⟨d, _⟩ => some d
  | none => none
theorem outW_ok {α : Type} {P : α → Prop} {d : α} : ∀ {o : Option (Subtype P)}, outW o = some d → P d
  | some ⟨_, h⟩, rfl => h
noncomputable def atomD (sc : Kinds) (ρ : Vars) (e : Expr) : Option D := outW (atomW sc ρ e)
noncomputable def atomsD (sc : Kinds) (ρ : Vars) (es : List Expr) : Option (List D) := outW (atomsW sc ρ es)
section
variable {C : Cx} {n : Nat} {sc : Kinds} {ρ : Vars} {O : List Ob} {Φ : D → List Ob → Prop}
theorem WPe_atom {e : Expr} {d : D} (h : some d = atomD sc ρ e) (k : Φ d O) : WPe C n sc ρ O e Φ := (outW_ok h.symm).ok k
theorem WPl_atoms {es : List Expr} {ds : List D} {Φ : List D → List Ob → Prop} (h : some ds = atomsD sc ρ es) (k : Φ ds O) : WPl C n sc ρ O es Φ := outW_ok h.symm k
theorem WPe_BinOp_a {l op r pos d₁ d₂} (hl : some d₁ = atomD sc ρ l) (hr : some d₂ = atomD sc ρ r) (h : WPt C n O [d₁, d₂] (fun vs => binaryOp op (vs.getD 0 .none) (vs.getD 1 .none)) Φ) : WPe C n sc ρ O (.BinOp l op r pos) Φ :=
  WPe_BinOp (WPe_atom hl (WPe_atom hr h))
theorem WPe_Compare_a {l op r pos d₁ d₂} (hl : some d₁ = atomD sc ρ l) (hr : some d₂ = atomD sc ρ r) (h : WPt C n O [d₁, d₂] (fun vs => compareOp op (vs.getD 0 .none) (vs.getD 1 .none)) Φ) : WPe C n sc ρ O (.Compare l [op] [r] pos) Φ :=
  WPe_Compare (WPe_atom hl (WPe_atom hr h)) ((outW_ok hr.symm).mark op)
theorem WPb_Compare_a {l op r pos d₁ d₂} {Ψ : Bool → List Ob → Prop} (hl : some d₁ = atomD sc ρ l) (hr : some d₂ = atomD sc ρ r) (h : WPt C n O [d₁, d₂] (fun vs => compareOp op (vs.getD 0 .none) (vs.getD 1 .none)) fun d O' => BoolP d fun b => Ψ b O') : WPb C n sc ρ O (.Compare l [op] [r] pos) Ψ :=
  WPb_Compare (WPe_atom hl (WPe_atom hr h)) ((outW_ok hr.symm).mark op)
theorem WPe_item_a {v i pos d₁ d₂} (hl : some d₁ = atomD sc ρ v) (hr : some d₂ = atomD sc ρ i) (h : ItemP O d₁ d₂ fun t => Φ (.val t) O) : WPe C n sc ρ O (.Subscript v i pos) Φ :=
  WPe_item (outW_ok hr.symm).slice (WPe_atom hl (WPe_atom hr h))
end
end Mine
end

section
set_option Elab.async false
set_option maxRecDepth 100000
set_option maxHeartbeats 1000000
set_option linter.unusedVariables false
namespace Mine
open PySem PySem.W PyProof.Rows

noncomputable def Kg {α : Type} (n : Nat) (c : Nat → Nat → Bool) : KasT α → (α → Prop) → Prop
  | .ret a, P => P a
  | .ask i j k, P => i < n ∧ j < n ∧ Kg n c (k (c i j)) P
theorem Kg_bind {α β : Type} {n : Nat} {c : Nat → Nat → Bool} {f : α → KasT β} {P : β → Prop} : ∀ (t : KasT α), Kg n c t (fun a => Kg n c (f a) P) → Kg n c (t.bind f) P
  | .ret a, h => h
  | .ask i j k, h => ⟨h.1, h.2.1, Kg_bind (k (c i j)) h.2.2⟩
theorem Kg_mono {α : Type} {n : Nat} {c : Nat → Nat → Bool} {P P' : α → Prop} (hp : ∀ a, P a → P' a) : ∀ (t : KasT α), Kg n c t P → Kg n c t P'
  | .ret a, h => hp a h
  | .ask i j k, h => ⟨h.1, h.2.1, Kg_mono hp (k (c i j)) h.2.2⟩

structure Weak (c : Nat → Nat → Bool) : Prop where
  irr : ∀ a, c a a = false
  asym : ∀ a b, c a b = true → c b a = false
  tr : ∀ a b d, c b a = false → c d b = false → c d a = false

noncomputable abbrev pv (p : Array Nat) (i : Nat) : Nat := p.getD i 0
structure Pm (n : Nat) (p : Array Nat) : Prop where
  perm : p.Perm (List.range n).toArray
theorem Pm.size {n : Nat} {p : Array Nat} (h : Pm n p) : p.size = n := by rw [h.perm.size_eq]; simp
theorem Pm.lt {n : Nat} {p : Array Nat} (h : Pm n p) {i : Nat} (hi : i < n) : pv p i < n := by
  have hs : i < p.size := by rw [h.size]; exact hi
  have e : pv p i = p[i] := by simp [pv, Array.getD, hs]
  have hm : p[i] ∈ (List.range n).toArray := h.perm.mem_iff.mp (Array.getElem_mem hs)
  rw [e]; simpa using hm
theorem pv_congr {p q : Array Nat} {i j : Nat} (h : p[i]? = q[j]?) : pv p i = pv q j := by simp [pv, h]
theorem pv_rev {p : Array Nat} {i j : Nat} (hj : j ≤ p.size) (k : Nat) : pv (kas_rev p i j) k = if i ≤ k ∧ k < j then pv p (i + j - 1 - k) else pv p k := by
  have e := getElem?_mirror_all (xs := p) (i := i) hj k
  by_cases h1 : i ≤ k ∧ k < j
  · rw [if_pos h1] at e ⊢; exact pv_congr e
  · rw [if_neg h1] at e ⊢; exact pv_congr e
theorem Pm.rev {n : Nat} {p : Array Nat} (h : Pm n p) (i j : Nat) : Pm n (kas_rev p i j) := ⟨(mirror_perm p i j _).trans h.perm⟩
theorem pv_bubble {p : Array Nat} {src d : Nat} (hs : src < p.size) (hd : d ≤ src) (k : Nat) : pv (bubble p src d) k = if k = src - d then pv p src else if src - d < k ∧ k ≤ src then pv p (k - 1) else pv p k := by
  have e := getElem?_bubble hs d hd k
  by_cases h1 : k = src - d
  · rw [if_pos h1] at e ⊢; exact pv_congr e
  · rw [if_neg h1] at e ⊢
    by_cases h2 : src - d < k ∧ k ≤ src
    · rw [if_pos h2] at e ⊢; exact pv_congr e
    · rw [if_neg h2] at e ⊢; exact pv_congr e
theorem Pm.bub {n : Nat} {p : Array Nat} (h : Pm n p) (i j : Nat) : Pm n (bubble p i j) := ⟨(bubble_perm p i j).trans h.perm⟩

theorem ltS {m f n : Nat} (h : m + (f + 1) ≤ n) : m < n := Nat.lt_of_lt_of_le (Nat.lt_add_of_pos_right (Nat.succ_pos f)) h
theorem lePS {m f n : Nat} (h : m + (f + 1) ≤ n) : m - 1 < n := Nat.lt_of_le_of_lt (Nat.sub_le _ _) (ltS h)
theorem leS {m f n : Nat} (h : m + (f + 1) ≤ n) : m + 1 + f ≤ n := by rw [Nat.add_right_comm]; exact h
theorem eqS {i m : Nat} (h : m ≤ i) (h2 : i < m + 1) : i = m := Nat.le_antisymm (Nat.le_of_lt_succ h2) h
theorem eq0 {i j : Nat} (h : i ≤ j) (h2 : j < 1) : i = 0 := Nat.lt_one_iff.mp (Nat.lt_of_le_of_lt h h2)
section
variable {n : Nat} {c : Nat → Nat → Bool} (W : Weak c)
noncomputable def Srt (c : Nat → Nat → Bool) (p : Array Nat) (k : Nat) : Prop := ∀ i j, i ≤ j → j < k → c (pv p j) (pv p i) = false
noncomputable def NonInc (c : Nat → Nat → Bool) (p : Array Nat) (k : Nat) : Prop := ∀ i j, i ≤ j → j < k → c (pv p i) (pv p j) = false
noncomputable def Alike (c : Nat → Nat → Bool) (p : Array Nat) (a b : Nat) : Prop := ∀ i j, a ≤ i → i < b → a ≤ j → j < b → c (pv p i) (pv p j) = false
include W
theorem Srt.succ {p : Array Nat} {k : Nat} (h : Srt c p k) (h1 : 1 ≤ k) (hk : c (pv p k) (pv p (k - 1)) = false) : Srt c p (k + 1) := fun i j hij hj => by
  by_cases e : j = k
  · subst e
    by_cases e2 : i = j
    · subst e2; exact W.irr _
    · exact W.tr _ _ _ (h i (j - 1) (by (first | exact Nat.le_sub_one_of_lt (Nat.lt_of_le_of_ne hij e2) | lia)) (by (first | exact Nat.sub_one_lt_of_lt h1 | omega))) hk
  · exact h i j hij (by (first | exact Nat.lt_of_le_of_ne (Nat.le_of_lt_succ hj) e | lia))
theorem NonInc.succ {p : Array Nat} {k : Nat} (h : NonInc c p k) (h1 : 1 ≤ k) (hk : c (pv p (k - 1)) (pv p k) = false) : NonInc c p (k + 1) := fun i j hij hj => by
  by_cases e : j = k
  · subst e
    by_cases e2 : i = j
    · subst e2; exact W.irr _
    · exact W.tr _ _ _ hk (h i (j - 1) (by (first | exact Nat.le_sub_one_of_lt (Nat.lt_of_le_of_ne hij e2) | lia)) (by (first | exact Nat.sub_one_lt_of_lt h1 | omega)))
  · exact h i j hij (by (first | exact Nat.lt_of_le_of_ne (Nat.le_of_lt_succ hj) e | lia))
theorem NonInc.revEq {p : Array Nat} {k a b : Nat} (h : NonInc c p k) (hb : b ≤ p.size) (ha : Alike c p a b) : NonInc c (kas_rev p a b) k := by
  have two : ∀ i, c (pv (kas_rev p a b) i) (pv p i) = false ∧ c (pv p i) (pv (kas_rev p a b) i) = false := fun i => by
    rw [pv_rev hb]
    split
    · exact ⟨ha _ _ (by (first | exact om50 (by assumption) | omega)) (by (first | exact om48 (by assumption) | omega)) (by lia) (by lia), ha _ _ (by lia) (by lia) (by (first | exact om50 (by assumption) | omega)) (by (first | exact om48 (by assumption) | omega))⟩
    · exact ⟨W.irr _, W.irr _⟩
  exact fun i j hij hj => W.tr _ _ _ (two j).2 (W.tr _ _ _ (h i j hij hj) (two i).1)
omit W in
theorem Srt.ofNonInc {p : Array Nat} {k : Nat} (h : NonInc c p k) (hk : k ≤ p.size) : Srt c (kas_rev p 0 k) k := fun i j hij hj => by
  rw [pv_rev hk, pv_rev hk, if_pos (by (first | exact ⟨Nat.zero_le _, hj⟩ | lia)), if_pos (by (first | exact ⟨Nat.zero_le _, Nat.lt_of_le_of_lt hij hj⟩ | lia))]
  exact h _ _ (by (first | exact Nat.sub_le_sub_left hij _ | omega)) (by (first | exact Nat.lt_of_le_of_lt (Nat.sub_le _ _) (Nat.lt_of_lt_of_eq (Nat.sub_one_lt_of_lt (Nat.lt_of_lt_of_le hj (Nat.le_add_left _ _))) (Nat.zero_add _)) | omega))

theorem g_asc {p : Array Nat} (hp : Pm n p) : ∀ (f m : Nat), 1 ≤ m → m + f ≤ n → Srt c p m → Kg n c (kas_asc p f m) fun m' => m ≤ m' ∧ m' ≤ m + f ∧ Srt c p m' ∧ (m' < m + f → c (pv p m') (pv p (m' - 1)) = true)
  | 0, m, h1, h2, hs => ⟨Nat.le_refl _, Nat.le_refl _, hs, fun h => absurd h (Nat.lt_irrefl _)⟩
  | f + 1, m, h1, h2, hs => by
    refine ⟨hp.lt (ltS h2), hp.lt (lePS h2), ?_⟩
    cases hc : c (pv p m) (pv p (m - 1)) with
    | true =>
      dsimp only
      rw [if_pos rfl]
      exact ⟨Nat.le_refl _, by (exact Nat.le_add_right _ _), hs, fun _ => hc⟩
    | false =>
      dsimp only
      rw [if_neg Bool.false_ne_true]
      exact Kg_mono (fun m' ⟨q1, q2, q3, q4⟩ => ⟨Nat.le_of_succ_le q1, Nat.le_trans q2 (Nat.le_of_eq zAs), q3, fun h => q4 (by (first | exact Nat.lt_of_lt_of_eq h zAs.symm | omega))⟩) _ (g_asc hp f (m + 1) (Nat.le_add_left _ _) (leS h2) (hs.succ W h1 hc))
theorem g_desc : ∀ (f : Nat) (p : Array Nat) (m q : Nat), Pm n p → q < m → m + f ≤ n → NonInc c p m → Alike c p (m - (q + 1)) m →
    Kg n c (kas_desc f p m q) fun r => Pm n r.1 ∧ m ≤ r.2.1 ∧ r.2.1 ≤ m + f ∧ r.2.2 < r.2.1 ∧ NonInc c r.1 r.2.1 ∧ Alike c r.1 (r.2.1 - (r.2.2 + 1)) r.2.1
  | 0, p, m, q, hp, h1, h2, hs, ha => ⟨hp, Nat.le_refl _, Nat.le_refl _, h1, hs, ha⟩
  | f + 1, p, m, q, hp, h1, h2, hs, ha => by
    have weaken : ∀ r : Array Nat × Nat × Nat, (Pm n r.1 ∧ m + 1 ≤ r.2.1 ∧ r.2.1 ≤ m + 1 + f ∧ r.2.2 < r.2.1 ∧ NonInc c r.1 r.2.1 ∧ Alike c r.1 (r.2.1 - (r.2.2 + 1)) r.2.1) →
        (Pm n r.1 ∧ m ≤ r.2.1 ∧ r.2.1 ≤ m + (f + 1) ∧ r.2.2 < r.2.1 ∧ NonInc c r.1 r.2.1 ∧ Alike c r.1 (r.2.1 - (r.2.2 + 1)) r.2.1) := fun r ⟨q1, q2, q3, q4⟩ => ⟨q1, Nat.le_of_succ_le q2, Nat.le_trans q3 (Nat.le_of_eq zAs), q4⟩
    have one : ∀ p' : Array Nat, Alike c p' m (m + 1) := fun p' i j hi hi2 hj hj2 => by
      have e1 := eqS hi hi2
      have e2 := eqS hj hj2
      subst e1; subst e2; exact W.irr _
    refine ⟨hp.lt (ltS h2), hp.lt (lePS h2), ?_⟩
    show Kg n c (if c (pv p m) (pv p (m - 1)) = true then (if q > 0 then kas_desc f (kas_rev p (m - (q + 1)) m) (m + 1) 0 else kas_desc f p (m + 1) 0) else .ask (pv p (m - 1)) (pv p m) fun d => if d = true then .ret (p, m, q) else kas_desc f p (m + 1) (q + 1)) _
    have hsz := hp.size
    cases hc : c (pv p m) (pv p (m - 1)) with
    | true =>
      try dsimp only
      rw [if_pos rfl]
      have hn := hs.succ W (Nat.lt_of_le_of_lt (Nat.zero_le _) h1) (W.asym _ _ hc)
      by_cases hq : q > 0
      · rw [if_pos hq]
        have hn' : NonInc c (kas_rev p (m - (q + 1)) m) (m + 1) := hn.revEq W (by (first | exact Nat.le_trans (Nat.le_of_add_right_le h2) (Nat.le_of_eq hsz.symm) | lia)) ha
        exact Kg_mono weaken _ (g_desc f _ (m + 1) 0 (hp.rev _ _) (Nat.succ_pos _) (leS h2) hn' (one _))
      · rw [if_neg hq]
        exact Kg_mono weaken _ (g_desc f p (m + 1) 0 hp (Nat.succ_pos _) (leS h2) hn (one _))
    | false =>
      try dsimp only
      rw [if_neg Bool.false_ne_true]
      refine ⟨hp.lt (lePS h2), hp.lt (ltS h2), ?_⟩
      cases hd : c (pv p (m - 1)) (pv p m) with
      | true =>
        try dsimp only
        rw [if_pos rfl]
        exact ⟨hp, Nat.le_refl _, Nat.le_add_right _ _, h1, hs, ha⟩
      | false =>
        try dsimp only
        rw [if_neg Bool.false_ne_true]
        refine Kg_mono weaken _ (g_desc f p (m + 1) (q + 1) hp (Nat.lt_succ_of_le h1) (leS h2) (hs.succ W (Nat.lt_of_le_of_lt (Nat.zero_le _) h1) hd) ?_)
        have l1 : ∀ i, m - (q + 1) ≤ i → i < m → c (pv p i) (pv p m) = false ∧ c (pv p m) (pv p i) = false := fun i hi hi2 =>
          ⟨W.tr _ _ _ hd (ha i (m - 1) hi hi2 (by (first | exact Nat.sub_le_sub_left (Nat.succ_le_succ (Nat.zero_le _)) _ | lia)) (by (first | exact Nat.sub_one_lt_of_lt h1 | lia))), W.tr _ _ _ (ha (m - 1) i (by (first | exact Nat.sub_le_sub_left (Nat.succ_le_succ (Nat.zero_le _)) _ | lia)) (by (first | exact Nat.sub_one_lt_of_lt h1 | lia)) hi hi2) hc⟩
        intro i j hi hi2 hj hj2
        by_cases e1 : i = m
        · by_cases e2 : j = m
          · subst e1; subst e2; exact W.irr _
          · subst e1; exact (l1 j (by (first | exact zEq (Nat.add_sub_add_right _ 1 _).symm hj | lia)) (by (first | exact Nat.lt_of_le_of_ne (Nat.le_of_lt_succ hj2) e2 | lia))).2
        · by_cases e2 : j = m
          · subst e2; exact (l1 i (by (first | exact zEq (Nat.add_sub_add_right _ 1 _).symm hi | lia)) (by (first | exact Nat.lt_of_le_of_ne (Nat.le_of_lt_succ hi2) e1 | lia))).1
          · exact ha i j (by (first | exact zEq (Nat.add_sub_add_right _ 1 _).symm hi | lia)) (by (first | exact Nat.lt_of_le_of_ne (Nat.le_of_lt_succ hi2) e1 | lia)) (by (first | exact zEq (Nat.add_sub_add_right _ 1 _).symm hj | lia)) (by (first | exact Nat.lt_of_le_of_ne (Nat.le_of_lt_succ hj2) e2 | lia))
noncomputable def RunOk (n : Nat) (c : Nat → Nat → Bool) (nrem : Nat) (r : Nat × Array Nat) : Prop := Pm n r.2 ∧ 1 ≤ r.1 ∧ r.1 ≤ nrem ∧ Srt c r.2 r.1
theorem g_tail3 {m nrem : Nat} {p : Array Nat} (hp : Pm n p) (h1 : 1 ≤ m) (h2 : m ≤ nrem) (h3 : nrem ≤ n) (hs : NonInc c p m) : Kg n c (kas_tail3 m nrem p) (RunOk n c nrem) := by
  have hsz := hp.size
  refine Kg_bind _ (Kg_mono (fun m' ⟨q1, q2, q3, q4⟩ => ?_) _ (g_asc W (hp.rev 0 m) (nrem - m) m h1 (by (first | exact zEq (Nat.add_sub_of_le h2) h3 | lia)) (Srt.ofNonInc hs (by (first | exact Nat.le_trans h2 (Nat.le_trans h3 (Nat.le_of_eq hsz.symm)) | lia)))))
  exact ⟨hp.rev 0 m, Nat.le_trans h1 q1, Nat.le_trans q2 (Nat.le_of_eq (Nat.add_sub_of_le h2)), q3⟩
theorem g_descPart {m nrem : Nat} {p : Array Nat} (hp : Pm n p) (h1 : 1 ≤ m) (h2 : m + 1 ≤ nrem) (h3 : nrem ≤ n) (hs : NonInc c p (m + 1)) : Kg n c (kas_descPart m nrem p) (RunOk n c nrem) := by
  refine Kg_bind _ (Kg_mono (fun r ⟨q1, q2, q3, q4, q5, q6⟩ => ?_) _ (g_desc W (nrem - (m + 1)) p (m + 1) 0 hp (by (exact Nat.succ_pos _)) (by (first | exact zEq (Nat.add_sub_of_le h2) h3 | omega)) hs (fun i j a1 a2 a3 a4 => by
    have e1 : i = m := eqS a1 a2
    have e2 : j = m := eqS a3 a4
    subst e1; subst e2; exact W.irr _)))
  have hsz := q1.size
  have o1 : 1 ≤ r.2.1 := Nat.le_trans (Nat.succ_le_succ (Nat.zero_le _)) q2
  have o2 : r.2.1 ≤ nrem := Nat.le_trans q3 (Nat.le_of_eq (Nat.add_sub_of_le h2))
  split
  · exact g_tail3 W (q1.rev _ _) o1 o2 h3 (q5.revEq W (Nat.le_trans o2 (Nat.le_trans h3 (Nat.le_of_eq hsz.symm))) q6)
  · exact g_tail3 W q1 o1 o2 h3 q5
theorem g_count {nrem : Nat} {p : Array Nat} (hp : Pm n p) (h1 : 1 ≤ nrem) (h3 : nrem ≤ n) : Kg n c (kas_count nrem p) (RunOk n c nrem) := by
  have hsz := hp.size
  refine Kg_bind _ (Kg_mono (fun m ⟨q1, q2, q3, q4⟩ => ?_) _ (g_asc W hp (nrem - 1) 1 (Nat.le_refl _) (by (first | exact zEq (Nat.add_sub_of_le h1) h3 | lia)) (fun i j hij hj => by
    have e1 := eq0 hij hj
    have e2 := eq0 (Nat.le_refl j) hj
    subst e1; subst e2; exact W.irr _)))
  have hle : m ≤ nrem := Nat.le_trans q2 (Nat.le_of_eq (Nat.add_sub_of_le h1))
  by_cases hm : m = nrem
  · rw [if_pos (by rw [hm]; exact beq_self_eq_true nrem)]
    exact ⟨hp, q1, by (exact Nat.le_of_eq hm), q3⟩
  · rw [if_neg (by simpa using hm)]
    have hml : m < nrem := Nat.lt_of_le_of_ne hle hm
    have hlast := q4 (Nat.lt_of_lt_of_eq hml (Nat.add_sub_of_le h1).symm)
    by_cases h2 : m > 1
    · rw [if_pos h2]
      refine ⟨hp.lt (by (first | exact Nat.lt_of_lt_of_le h1 h3 | lia)), hp.lt (Nat.lt_of_le_of_lt (Nat.sub_le _ _) (Nat.lt_of_lt_of_le hml h3)), ?_⟩
      cases hc : c (pv p 0) (pv p (m - 1)) with
      | true => dsimp only; rw [if_pos rfl]; exact ⟨hp, q1, hle, q3⟩
      | false =>
        try dsimp only
        rw [if_neg Bool.false_ne_true]
        have al : Alike c p 0 m := fun i j _ hi _ hj => W.tr _ _ _ (q3 j (m - 1) (by (exact Nat.le_sub_one_of_lt hj)) (by (first | exact Nat.sub_one_lt_of_lt h2 | omega))) (W.tr _ _ _ hc (q3 0 i (by (first | exact Nat.zero_le _ | omega)) hi))
        have hn : NonInc c p m := fun i j hij hj => al i j (by (exact Nat.le_add_left _ _)) (by (exact Nat.lt_of_le_of_lt hij hj)) (by (first | exact Nat.zero_le _ | lia)) hj
        have hn2 : NonInc c p (m + 1) := hn.succ W q1 (W.asym _ _ hlast)
        exact g_descPart W (hp.rev 0 m) q1 hml h3 (hn2.revEq W (Nat.le_trans hle (Nat.le_trans h3 (Nat.le_of_eq hsz.symm))) al)
    · rw [if_neg h2]
      have e : m = 1 := Nat.le_antisymm (Nat.le_of_not_lt h2) q1
      subst e
      refine g_descPart W hp (Nat.le_refl _) (by (first | exact Nat.lt_of_le_of_ne h1 hm | lia)) h3 ?_
      have hn : NonInc c p 1 := fun i j hij hj => by
        have e1 := eq0 hij hj
        have e2 := eq0 (Nat.le_refl j) hj
        subst e1; subst e2; exact W.irr _
      exact hn.succ W (Nat.succ_pos _) (W.asym _ _ hlast)
theorem g_place {p : Array Nat} (hp : Pm n p) {k : Nat} (hk : k < n) (hs : Srt c p k) : ∀ (f l r : Nat), r - l ≤ f → l ≤ r → r ≤ k → (∀ i, i < l → c (pv p k) (pv p i) = false) → (∀ i, r ≤ i → i < k → c (pv p k) (pv p i) = true) →
    Kg n c (kas_place p k f l r) fun l' => l' ≤ k ∧ (∀ i, i < l' → c (pv p k) (pv p i) = false) ∧ (∀ i, l' ≤ i → i < k → c (pv p k) (pv p i) = true)
  | 0, l, r, hf, hlr, hr, h1, h2 => by
    have e : l = r := by (first | exact Nat.le_antisymm hlr (Nat.le_of_sub_eq_zero (Nat.le_zero.mp hf)) | lia)
    subst e
    exact ⟨hr, h1, h2⟩
  | f + 1, l, r, hf, hlr, hr, h1, h2 => by
    show Kg n c (if l ≥ r then .ret l else .ask (pv p k) (pv p ((l + r) / 2)) fun b => if b = true then kas_place p k f l ((l + r) / 2) else kas_place p k f ((l + r) / 2 + 1) r) _
    by_cases hlt : l ≥ r
    · rw [if_pos hlt]
      have e : l = r := by (first | exact Nat.le_antisymm hlr hlt | lia)
      subst e
      exact ⟨hr, h1, h2⟩
    · rw [if_neg hlt]
      refine ⟨hp.lt hk, hp.lt (by (first | exact Nat.lt_of_lt_of_le (z28 (Nat.lt_of_not_le hlt)) (Nat.le_trans hr (Nat.le_of_lt hk)) | lia)), ?_⟩
      have m1 : l ≤ (l + r) / 2 := by (first | exact z40 (Nat.lt_of_not_le hlt) | lia)
      have m2 : (l + r) / 2 < r := by (first | exact z28 (Nat.lt_of_not_le hlt) | lia)
      generalize (l + r) / 2 = m at m1 m2
      cases hc : c (pv p k) (pv p m) with
      | true =>
        try dsimp only
        rw [if_pos rfl]
        refine g_place hp hk hs f l m (by (first | exact Nat.sub_le_iff_le_add.mpr (Nat.le_of_lt_succ (Nat.lt_of_lt_of_le m2 (Nat.le_trans (Nat.sub_le_iff_le_add.mp hf) (Nat.le_of_eq (Nat.add_right_comm _ 1 _))))) | lia)) m1 (by (exact Nat.le_of_lt (Nat.lt_of_lt_of_le m2 hr))) h1 fun i hi hi2 => ?_
        cases hci : c (pv p k) (pv p i) with
        | true => rfl
        | false => rw [W.tr _ _ _ (hs m i hi hi2) hci] at hc; cases hc
      | false =>
        try dsimp only
        rw [if_neg Bool.false_ne_true]
        refine g_place hp hk hs f (m + 1) r (by (first | exact Nat.pred_le_pred (Nat.le_trans (Nat.sub_le_sub_left m1 _) hf) | lia)) (by (exact m2)) hr (fun i hi => ?_) h2
        exact W.tr _ _ _ (hs i m (by (exact Nat.le_of_lt_succ hi)) (by (exact Nat.lt_of_lt_of_le m2 hr))) hc
theorem g_bin : ∀ (f : Nat) (p : Array Nat) (k : Nat), Pm n p → k + f ≤ n → Srt c p k → Kg n c (kas_bin f p k) fun p' => Pm n p' ∧ Srt c p' (k + f)
  | 0, p, k, hp, hk, hs => ⟨hp, hs⟩
  | f + 1, p, k, hp, hk, hs => by
    have hsz := hp.size
    refine Kg_bind _ (Kg_mono (fun l ⟨q1, q2, q3⟩ => ?_) _ (g_place W hp (by (first | exact Nat.lt_of_add_right_lt hk | lia)) hs k 0 k (by (exact Nat.le_refl _)) (by (first | exact Nat.zero_le _ | lia)) (Nat.le_refl _) (fun i h => absurd h (Nat.not_lt_zero _)) (fun i h h' => absurd h' (Nat.not_lt.mpr h))))
    have hb := fun i => pv_bubble (p := p) (src := k) (d := k - l) (by (first | exact Nat.lt_of_lt_of_eq (Nat.lt_of_add_right_lt hk) hsz.symm | lia)) (by (exact Nat.sub_le _ _)) i
    rw [Nat.sub_sub_self q1] at hb
    have hs' : Srt c (bubble p k (k - l)) (k + 1) := fun i j hij hj => by
      rw [hb i, hb j]
      by_cases ei : i = l
      · rw [if_pos ei]
        by_cases ej : j = l
        · rw [if_pos ej]; exact W.irr _
        · rw [if_neg ej, if_pos (by (first | exact ⟨Nat.lt_of_le_of_ne (zEq ei.symm hij) fun ze => ej ze.symm, Nat.le_of_lt_succ hj⟩ | lia))]
          exact W.asym _ _ (q3 (j - 1) (by (first | exact Nat.le_sub_one_of_lt (Nat.lt_of_le_of_ne (zEq ei.symm hij) fun ze => ej ze.symm) | lia)) (by (first | exact Nat.lt_of_lt_of_le (Nat.sub_one_lt_of_lt (Nat.lt_of_le_of_ne (zEq ei.symm hij) fun ze => ej ze.symm)) (Nat.le_of_lt_succ hj) | lia)))
      · rw [if_neg ei]
        by_cases ej : j = l
        · rw [if_pos ej, if_neg (by (first | exact fun zz => Nat.not_le_of_lt zz.1 (Nat.le_trans hij (Nat.le_of_eq ej)) | lia))]; exact q2 i (by (first | exact Nat.lt_of_le_of_ne (Nat.le_trans hij (Nat.le_of_eq ej)) ei | lia))
        · rw [if_neg ej]
          by_cases hi2 : l < i ∧ i ≤ k
          · rw [if_pos hi2, if_pos (by (first | exact ⟨Nat.lt_of_lt_of_le hi2.1 hij, Nat.le_of_lt_succ hj⟩ | lia))]; exact hs _ _ (by (first | exact Nat.sub_le_sub_right hij 1 | lia)) (by (first | exact Nat.lt_of_le_of_lt (Nat.sub_le_sub_right (Nat.le_of_lt_succ hj) 1) (Nat.sub_one_lt_of_lt (Nat.lt_of_lt_of_le hi2.1 hi2.2)) | lia))
          · rw [if_neg hi2]
            by_cases hj2 : l < j ∧ j ≤ k
            · rw [if_pos hj2]; exact hs _ _ (by (first | exact om19 hj2 hij hi2 | lia)) (by (first | exact Nat.lt_of_lt_of_le (Nat.sub_one_lt_of_lt hj2.1) hj2.2 | omega))
            · rw [if_neg hj2]; exact hs _ _ hij (Nat.lt_of_lt_of_le (Nat.lt_of_le_of_ne (Nat.le_of_not_lt fun zz => hj2 ⟨zz, Nat.le_of_lt_succ hj⟩) ej) q1)
    refine Kg_mono (fun p' ⟨a1, a2⟩ => ⟨a1, by rw [show k + (f + 1) = k + 1 + f by (first | exact zAs.symm | lia)]; exact a2⟩) _ (g_bin f _ (k + 1) (hp.bub _ _) (by (first | exact z18 hk | lia)) hs')
theorem g_sort (h1 : 1 ≤ n) : Kg n c (kas_sort n) fun p => Pm n p ∧ Srt c p n := by
  have p0 : Pm n (List.range n).toArray := ⟨Array.Perm.refl _⟩
  refine Kg_bind _ (Kg_mono (fun r ⟨q1, q2, q3, q4⟩ => ?_) _ (g_count W p0 h1 (Nat.le_refl _)))
  by_cases h : r.1 < n
  · rw [if_pos h]
    have hm : max r.1 1 = r.1 := by (first | exact Nat.max_eq_left q2 | lia)
    rw [hm]
    refine Kg_mono (fun p ⟨a1, a2⟩ => ⟨a1, by rw [show r.1 + (n - r.1) = n by (first | exact Nat.add_sub_of_le (Nat.le_of_lt h) | lia)] at a2; exact a2⟩) _ (g_bin W (n - r.1) r.2 r.1 q1 (by (first | exact Nat.le_of_eq (Nat.add_sub_of_le (Nat.le_of_lt h)) | lia)) q4)
  · rw [if_neg h]
    have e : r.1 = n := by (first | exact Nat.le_antisymm q3 (Nat.le_of_not_lt h) | lia)
    rw [e] at q4
    exact ⟨q1, q4⟩
end
end Mine
end

section
set_option Elab.async false
set_option maxRecDepth 100000
set_option maxHeartbeats 1000000
set_option linter.unusedVariables false
namespace Mine
open PySem PySem.W PyProof.Rows PySem.Calls

noncomputable def KeepBut (a : Addr) (h h' : Heap) : Prop := ∀ b o, b ≠ a → h.get? b = some o → h'.get? b = some o
theorem kasWp_of_Kg {α : Type} {n : Nat} {c : Nat → Nat → Bool} {cmp : Nat → Nat → (Bool → Shared → Prop) → Shared → Prop} {s : Shared} {Q : α → Shared → Prop} (hc : ∀ i j, i < n → j < n → ∀ C : Bool → Shared → Prop, C (c i j) s → cmp i j C s) : ∀ t : KasT α, Kg n c t (fun a => Q a s) → t.kasWp cmp Q s
  | .ret a, h => h
  | .ask i j k, h => hc i j h.1 h.2.1 _ (kasWp_of_Kg hc (k (c i j)) h.2.2)

section
variable {prog : Program} {w : World} {A : Around} {E : Value → Shared → Prop} {s : Shared}
theorem oneLt_den {H : PHeap} {ts us : List T} {v u : Value} {Q : Bool → Shared → Prop} (hs : ∀ a o, H a = some o → s.heap.get? a = some o) (h1 : Den H (.list ts) v) (h2 : Den H (.list us) u) (d1 : datTs ts = true) (d2 : datTs us = true) (hc : cmpTs ts us = true)
    (hu : A.units + depTs ts + 1 < cLine) (h : Q (ltTs ts us) s) : wpAny (model prog w) A (oneLt' true v u) Q E s := by
  unfold Den at h1 h2
  obtain ⟨a, vs, n, rfl, hH, dl⟩ := h1
  obtain ⟨b, ws, m, rfl, hH', dl'⟩ := h2
  rw [oneLt'_eq]
  simp only [if_true]
  refine wpAny_bind (wpAny_cRoomFor (by (first | exact Nat.lt_of_le_of_lt (Nat.le_trans (Nat.le_add_right _ _) (Nat.le_succ _)) hu | lia)) ?_)
  refine wpAny_bind (wpAny_callSpecialIfBound?_slot (T := "list") ⟨_, hs _ _ hH, rfl⟩ F.slot_list_lt ?_)
  rw [← ltGo_all ts us] at h
  have e1 := dl.size
  have e2 := dl'.size
  rw [← e1, ← e2] at h
  refine call_meets F.slot_list_lt ⟨_, hs _ _ hH, rfl⟩ F.entry_list_lt (F.args_list_lt_2 _ _) (list_ltAt a b vs ws n m none none #[] #[] (fun j => eqT (ts.getD j .none) (us.getD j .none)) (fun j => ltT (ts.getD j .none) (us.getD j .none)))
    ⟨hs _ _ hH, hs _ _ hH', fun j j1 j2 => ?_, fun j j1 j2 hp he => ?_, ?_⟩
  · have jt : j < ts.length := by (first | exact Nat.lt_of_lt_of_eq j1 e1 | lia)
    have ju : j < us.length := by (first | exact Nat.lt_of_lt_of_eq j2 e2 | lia)
    refine eqAt_den _ _ _ (Nat.le_refl _) A.in1 s _ _ hs (dl.getD j1) (dl'.getD j2) (datTs_get d1 jt) (datTs_get d2 ju) ?_
    have := depTs_get jt
    show A.units + 1 + _ < _
    (first | exact om134 hu this | lia)
  · have jt : j < ts.length := by (first | exact Nat.lt_of_lt_of_eq j1 e1 | lia)
    have ju : j < us.length := by (first | exact Nat.lt_of_lt_of_eq j2 e2 | lia)
    refine ltAt_den _ _ _ (Nat.le_refl _) A.in1 s _ _ hs (dl.getD j1) (dl'.getD j2) (datTs_get d1 jt) (datTs_get d2 ju) (cmpTs_get hc jt ju hp he) ?_
    have := depTs_get jt
    show A.units + 1 + _ < _
    (first | exact om134 hu this | lia)
  · exact wpAny_truthy_bool h

theorem sort_core {a : Addr} {n : Nat} {vs : List Value} {P : PySem.Fin → Shared → Prop} {c : Nat → Nat → Bool} (ho : s.heap.get? a = some (listO vs.toArray n)) (h64 : vs.length < 64) (W : Weak c)
    (hT : ∀ h', KeepBut a s.heap h' → ∀ v ∈ vs, ∀ s' : Shared, s'.heap = h' → s'.TypeIs v "list")
    (hcmp : ∀ h', KeepBut a s.heap h' → ∀ i j, i < vs.length → j < vs.length → ∀ (s' : Shared) (C : Bool → Shared → Prop) (E' : Value → Shared → Prop), s'.heap = h' → C (c i j) s' → wpAny (model prog w) A (oneLt' true (vs.getD i Value.none) (vs.getD j Value.none)) C E' s')
    (h : ∀ p h' k, Pm vs.length p → Srt c p vs.length → h'.get? a = some (listO (p.toList.map fun i => vs.getD i Value.none).toArray k) → KeepBut a s.heap h' → P (.done (.ret .none)) { s with heap := h' }) :
    wpAny (model prog w) A (Builtin.«list.sort» ⟨[.ref a], []⟩) P E s := by
  have ha : a < s.heap.objs.size := Heap.lt_size ho
  have hsz : vs.toArray.size = vs.length := by simp
  rw [list_sort_plain]
  refine wpAny_bind (listItems_at ho rfl ?_)
  refine wpAny_bind (listUpdate_at ho rfl ?_ (by rw [hsz, sizeLine_eq]; (exact (Nat.le_trans (Nat.le_of_lt h64) (by decide)))) (Nat.zero_le _))
  obtain ⟨e1, ho1⟩ : ∃ e1, (s.heap.update a (Obj.mapSeq fun _ => (#[] : Array Value))).get? a = some (listO #[] e1) := ⟨_, get?_update_seq ho fun _ => #[]⟩
  refine wpAny_bind (seqEpoch_at ho1 rfl ?_)
  refine wpAny_bind (wpAny_newTuple ?_ (by show vs.length ≤ _; rw [sizeLine_eq]; (first | exact zLe (Nat.le_of_lt h64) rfl | lia)))
  refine wpAny_bind (wpAny_newList ?_ (Nat.zero_le _))
  refine wpAny_holding ?_
  show wpAny (model prog w) A _ P E { s with heap := ((s.heap.update a (Obj.mapSeq fun _ => (#[] : Array Value))).push (seqObj "tuple" vs.toArray 0)).push (seqObj "list" #[] 0) }
  have ho3 : (((s.heap.update a (Obj.mapSeq fun _ => (#[] : Array Value))).push (seqObj "tuple" vs.toArray 0)).push (seqObj "list" #[] 0)).get? a = some (listO #[] e1) := Heap.get?_push_of_some _ (Heap.get?_push_of_some _ ho1)
  have k3 : KeepBut a s.heap (((s.heap.update a (Obj.mapSeq fun _ => (#[] : Array Value))).push (seqObj "tuple" vs.toArray 0)).push (seqObj "list" #[] 0)) := fun b o nb e =>
    Heap.get?_push_of_some _ (Heap.get?_push_of_some _ (by rw [Heap.get?_update_ne _ _ _ _ nb]; exact e))
  generalize ((s.heap.update a (Obj.mapSeq fun _ => (#[] : Array Value))).push (seqObj "tuple" vs.toArray 0)).push (seqObj "list" #[] 0) = h3 at ho3 k3 ⊢
  dsimp only
  -- the end, the same for both roads
  have fin : ∀ (st' : SortSt) (p : Array Nat), Pm vs.length p → Srt c p vs.length → arrOf st' = p.map (kas_item (pairsOf vs)) → failedOf st' = none →
      wpAny (model prog w) A (do
        let touched := (← seqEpoch a) != e1
        Builtin.List.listUpdate (.ref a) fun _ => (arrOf st').map (·.2)
        if let some e := failedOf st' then rule "list.sort.comparison-raised"; throw e
        if touched then rule "list.sort.modified"; raiseError "ValueError" "list modified during sort"
        ret .none) P E { s with heap := h3 } := fun st' p hp hs har hf => by
    have hout : (arrOf st').map (·.2) = List.toArray (p.toList.map fun i => vs.getD i Value.none) := by
      apply Array.toList_inj.mp
      rw [har, Array.map_map, Array.toList_map]
      exact List.map_congr_left fun i _ => by show (kas_item (pairsOf vs) i).2 = _; rw [kas_item_eq]
    have hsz2 : (List.toArray (p.toList.map fun i => vs.getD i Value.none)).size = vs.length := by rw [List.size_toArray, List.length_map, Array.length_toList, hp.size]
    rw [hout, hf]
    refine wpAny_bind (seqEpoch_at ho3 rfl ?_)
    refine wpAny_bind (listUpdate_at ho3 rfl ?_ (Nat.zero_le _) (Nat.le_trans (Nat.le_of_eq hsz2) (by rw [sizeLine_eq]; (exact (Nat.le_trans (Nat.le_of_lt h64) (by decide))))))
    simp only [bne_self_eq_false, Bool.false_eq_true, if_false]
    obtain ⟨k, hk⟩ : ∃ k, (h3.update a (Obj.mapSeq fun _ => List.toArray (p.toList.map fun i => vs.getD i Value.none))).get? a = some (listO (List.toArray (p.toList.map fun i => vs.getD i Value.none)) k) := ⟨_, get?_update_seq ho3 fun _ => List.toArray (p.toList.map fun i => vs.getD i Value.none)⟩
    exact wpAny_pure (h p _ k hp hs hk fun b o nb e => by
      show (h3.update a _).get? b = some o
      rw [Heap.get?_update_ne _ _ _ _ nb]; exact k3 b o nb e)
  by_cases h2 : vs.toArray.size < 2
  · rw [if_pos h2, if_pos h2]
    refine wpAny_bind (wpAny_pure ?_)
    rw [StateT.run_pure]
    refine wpAny_bind (wpAny_pure ?_)
    refine fin (SortSt.mk' general' (vs.toArray.zip vs.toArray) #[] 7 none) (List.range vs.length).toArray ⟨Array.Perm.refl _⟩ (fun i j hij hj => ?_) ?_ rfl
    · have e : i = j := by lia
      subst e; exact W.irr _
    · have e := kas_range (pairsOf vs)
      rw [pairsOf_size] at e
      exact e.symm
  · rw [if_neg h2, if_neg h2]
    have h2' : 2 ≤ vs.length := by (exact Nat.le_of_not_lt h2)
    refine wpAny_bind (kas_kind (T := .type "list") h2' (fun v hv A' Q' E' s' hk hq => ?_) (by rfl) (by rfl) ?_)
    · exact wpAny_typeOf (hT s'.heap (fun b o nb e => hk b o (k3 b o nb e)) v hv s' rfl) hq
    · have est : SortSt.mk' oneType' (vs.toArray.zip vs.toArray) #[] 7 none = kas_st oneType' (pairsOf vs) (List.toArray (List.range vs.length)) := by
        have e := kas_range (pairsOf vs)
        rw [pairsOf_size] at e
        show SortSt.mk' oneType' (pairsOf vs) #[] 7 none = SortSt.mk' oneType' ((List.toArray (List.range vs.length)).map (kas_item (pairsOf vs))) #[] 7 none
        rw [e]
      have ask : (kas_sort vs.length).kasWp (kas_cmp prog w A oneType' (pairsOf vs)) (fun p s' => s' = { s with heap := h3 } ∧ Pm vs.length p ∧ Srt c p vs.length) { s with heap := h3 } := by
        refine kasWp_of_Kg (c := c) (fun i j hi hj C hC => ?_) _ (Kg_mono (fun p hp => ⟨rfl, hp⟩) _ (g_sort W (by (exact Nat.le_of_succ_le h2'))))
        rw [← kas_ask_eq]
        unfold kas_ask
        rw [keyLt'_oneType]
        exact hcmp h3 k3 i j hi hj _ _ _ rfl hC
      have run := kas_runs (E := E) (Q := fun _ st' s' => s' = { s with heap := h3 } ∧ ∃ p : Array Nat, Pm vs.length p ∧ Srt c p vs.length ∧ arrOf st' = p.map (kas_item (pairsOf vs)) ∧ failedOf st' = none)
        h2' h64 (fun p' st' s' a1 a2 a3 a4 => ⟨a4.1, p', a4.2.1, a4.2.2, a2, a3⟩) ask
      rw [← est] at run
      refine wpAny_bind (wpAny_mono run ?_ fun _ _ e => e)
      rintro ⟨⟨⟩, st'⟩ s' ⟨rfl, p, hp, hs, har, hf⟩
      exact fin st' p hp hs har hf
end
end Mine
end

section
set_option Elab.async false
set_option maxRecDepth 100000
set_option maxHeartbeats 1000000
set_option linter.unusedVariables false
namespace Mine
open PySem PySem.W PyProof.Rows PySem.Calls

theorem eqT_comm (a b : T) : eqT a b = eqT b a := by
  cases h : eqT a b with
  | true => obtain rfl := eqT_eq a b h; exact h.symm
  | false =>
    cases h2 : eqT b a with
    | true => obtain rfl := eqT_eq b a h2; exact h.symm.trans h2
    | false => rfl
inductive Two : T → T → Prop
  | int (a b) : Two (.int a) (.int b)
  | str (a b) : Two (.str a) (.str b)
  | list (ts us) : Two (.list ts) (.list us)
theorem cmpT_two {a b : T} (h : cmpT a b = true) : Two a b := by
  cases a with
  | int a => cases b with
    | int b => exact .int a b
    | _ => cases h
  | str a => cases b with
    | str b => exact .str a b
    | _ => cases h
  | list a => cases b with
    | list b => exact .list a b
    | _ => cases h
  | _ => cases h
theorem ltT_two {a b : T} (h : ltT a b = true) : Two a b := by
  cases a with
  | int a => cases b with
    | int b => exact .int a b
    | _ => cases h
  | str a => cases b with
    | str b => exact .str a b
    | _ => cases h
  | list a => cases b with
    | list b => exact .list a b
    | _ => cases h
  | _ => cases h
theorem ltTs_eq {t u : T} (ts us : List T) (e : eqT t u = true) : ltTs (t :: ts) (u :: us) = ltTs ts us := by rw [ltTs, if_pos e]
theorem ltTs_ne {t u : T} (ts us : List T) (e : eqT t u = false) : ltTs (t :: ts) (u :: us) = ltT t u := by rw [ltTs, if_neg (by rw [e]; decide)]
theorem cmpTs_eq {t u : T} (ts us : List T) (e : eqT t u = true) : cmpTs (t :: ts) (u :: us) = cmpTs ts us := by rw [cmpTs, if_pos e]
theorem cmpTs_ne {t u : T} (ts us : List T) (e : eqT t u = false) : cmpTs (t :: ts) (u :: us) = cmpT t u := by rw [cmpTs, if_neg (by rw [e]; decide)]
theorem ltT_list (ts us : List T) : ltT (.list ts) (.list us) = ltTs ts us := by rw [ltT]
theorem cmpT_list (ts us : List T) : cmpT (.list ts) (.list us) = cmpTs ts us := by rw [cmpT]
theorem ltT_int (a b : Int) : ltT (.int a) (.int b) = decide (a < b) := by rw [ltT]
theorem ltT_str (a b : Str) : ltT (.str a) (.str b) = decide (a.cps.toList < b.cps.toList) := by rw [ltT]

theorem sizeOf_list {ts : List T} {k : Nat} (h : sizeOf (T.list ts) < k + 1) : sizeOf ts < k := by simp at h; (first | exact Nat.lt_of_succ_lt_succ (Nat.lt_of_le_of_lt (Nat.le_of_eq (Nat.add_comm _ 1)) h) | lia)
theorem sizeOf_cons {t : T} {ts : List T} {k : Nat} (h : sizeOf (t :: ts) < k) : sizeOf t < k ∧ sizeOf ts < k := by simp at h; (first | exact ⟨Nat.lt_of_le_of_lt (Nat.le_trans (Nat.le_add_left _ 1) (Nat.le_add_right _ _)) h, Nat.lt_of_le_of_lt (Nat.le_add_left _ _) h⟩ | lia)

theorem ltT_irr_k : ∀ (k : Nat) (a : T), sizeOf a < k → ltT a a = false
  | 0, _, h => absurd h (Nat.not_lt_zero _)
  | k + 1, a, h => by
    cases hl : ltT a a with
    | false => rfl
    | true =>
      cases ltT_two hl with
      | int a => rw [ltT_int] at hl; exact absurd (of_decide_eq_true hl) (Int.lt_irrefl a)
      | str a => rw [ltT_str] at hl; exact absurd (of_decide_eq_true hl) (List.lt_irrefl _)
      | list ts =>
        have hk := sizeOf_list h
        have go : ∀ ts : List T, sizeOf ts < k → ltTs ts ts = false := fun ts => by
          induction ts with
          | nil => exact fun _ => rfl
          | cons t ts ih =>
            intro hk
            cases e : eqT t t with
            | true => exact (ltTs_eq ts ts e).trans (ih (sizeOf_cons hk).2)
            | false => exact (ltTs_ne ts ts e).trans (ltT_irr_k k t (sizeOf_cons hk).1)
        exact absurd ((ltT_list ts ts).symm.trans hl) (by rw [go ts hk]; decide)
theorem ltT_irr (a : T) : ltT a a = false := ltT_irr_k _ a (Nat.lt_succ_self _)
theorem ltTs_irr (a : List T) : ltTs a a = false := (ltT_list a a).symm.trans (ltT_irr (.list a))
theorem ltT_asym_k : ∀ (k : Nat) (a b : T), sizeOf a < k → ltT a b = true → ltT b a = false
  | 0, _, _, h, _ => absurd h (Nat.not_lt_zero _)
  | k + 1, a, b, h, hl => by
    cases ltT_two hl with
    | int a b => rw [ltT_int] at hl ⊢; exact decide_eq_false (Int.lt_asymm (of_decide_eq_true hl))
    | str a b => rw [ltT_str] at hl ⊢; exact decide_eq_false (List.lt_asymm (of_decide_eq_true hl))
    | list ts us =>
      have go : ∀ ts us : List T, sizeOf ts < k → ltTs ts us = true → ltTs us ts = false := fun ts => by
        induction ts with
        | nil => intro us _ h; cases us with
          | nil => cases h
          | cons u us => rfl
        | cons t ts ih =>
          intro us hk h
          cases us with
          | nil => cases h
          | cons u us =>
            cases e : eqT t u with
            | true => exact (ltTs_eq us ts ((eqT_comm u t).trans e)).trans (ih us (sizeOf_cons hk).2 ((ltTs_eq ts us e).symm.trans h))
            | false => exact (ltTs_ne us ts ((eqT_comm u t).trans e)).trans (ltT_asym_k k t u (sizeOf_cons hk).1 ((ltTs_ne ts us e).symm.trans h))
      exact (ltT_list us ts).trans (go ts us (sizeOf_list h) ((ltT_list ts us).symm.trans hl))
theorem ltT_asym (a b : T) (h : ltT a b = true) : ltT b a = false := ltT_asym_k _ a b (Nat.lt_succ_self _) h
theorem ltTs_asym (a b : List T) (h : ltTs a b = true) : ltTs b a = false := (ltT_list b a).symm.trans (ltT_asym (.list a) (.list b) ((ltT_list a b).trans h))
theorem ltT_total_k : ∀ (k : Nat) (a b : T), sizeOf a < k → cmpT a b = true → ltT a b = false → ltT b a = false → eqT a b = true
  | 0, _, _, h, _, _, _ => absurd h (Nat.not_lt_zero _)
  | k + 1, a, b, h, hc, h1, h2 => by
    cases cmpT_two hc with
    | int a b =>
      rw [ltT_int] at h1 h2
      have e : a = b := Int.le_antisymm (Int.not_lt.mp (of_decide_eq_false h2)) (Int.not_lt.mp (of_decide_eq_false h1))
      rw [eqT, e]; exact beq_self_eq_true b
    | str a b =>
      rw [ltT_str] at h1 h2
      have e : a.cps.toList = b.cps.toList := List.le_antisymm (List.not_lt.mp (of_decide_eq_false h2)) (List.not_lt.mp (of_decide_eq_false h1))
      have e2 : a = b := by
        cases a; cases b
        congr 1
        exact Array.toList_inj.mp e
      rw [eqT, e2]; exact beq_self_eq_true b
    | list ts us =>
      have go : ∀ ts us : List T, sizeOf ts < k → cmpTs ts us = true → ltTs ts us = false → ltTs us ts = false → eqTs ts us = true := fun ts => by
        induction ts with
        | nil => intro us _ _ h1 _; cases us with
          | nil => rfl
          | cons u us => cases h1
        | cons t ts ih =>
          intro us hk hc h1 h2
          cases us with
          | nil => cases h2
          | cons u us =>
            cases e : eqT t u with
            | true =>
              rw [eqTs, e, ih us (sizeOf_cons hk).2 ((cmpTs_eq ts us e).symm.trans hc) ((ltTs_eq ts us e).symm.trans h1) ((ltTs_eq us ts ((eqT_comm u t).trans e)).symm.trans h2)]; rfl
            | false =>
              exact absurd (ltT_total_k k t u (sizeOf_cons hk).1 ((cmpTs_ne ts us e).symm.trans hc) ((ltTs_ne ts us e).symm.trans h1) ((ltTs_ne us ts ((eqT_comm u t).trans e)).symm.trans h2)) (by rw [e]; decide)
      rw [eqT]
      exact go ts us (sizeOf_list h) ((cmpT_list ts us).symm.trans hc) ((ltT_list ts us).symm.trans h1) ((ltT_list us ts).symm.trans h2)
theorem ltT_total (a b : T) (hc : cmpT a b = true) (h1 : ltT a b = false) (h2 : ltT b a = false) : eqT a b = true := ltT_total_k _ a b (Nat.lt_succ_self _) hc h1 h2
theorem cmpT_comm_k : ∀ (k : Nat) (a b : T), sizeOf a < k → cmpT a b = true → cmpT b a = true
  | 0, _, _, h, _ => absurd h (Nat.not_lt_zero _)
  | k + 1, a, b, h, hc => by
    cases cmpT_two hc with
    | int a b => rfl
    | str a b => rfl
    | list ts us =>
      have go : ∀ ts us : List T, sizeOf ts < k → cmpTs ts us = true → cmpTs us ts = true := fun ts => by
        induction ts with
        | nil => intro us _ _; cases us <;> rfl
        | cons t ts ih =>
          intro us hk hc
          cases us with
          | nil => rfl
          | cons u us =>
            cases e : eqT t u with
            | true => exact (cmpTs_eq us ts ((eqT_comm u t).trans e)).trans (ih us (sizeOf_cons hk).2 ((cmpTs_eq ts us e).symm.trans hc))
            | false => exact (cmpTs_ne us ts ((eqT_comm u t).trans e)).trans (cmpT_comm_k k t u (sizeOf_cons hk).1 ((cmpTs_ne ts us e).symm.trans hc))
      exact (cmpT_list us ts).trans (go ts us (sizeOf_list h) ((cmpT_list ts us).symm.trans hc))
theorem cmpT_comm (a b : T) (h : cmpT a b = true) : cmpT b a = true := cmpT_comm_k _ a b (Nat.lt_succ_self _) h
theorem leT_trans : ∀ (k : Nat) (a b d : T), sizeOf a < k → cmpT a b = true → cmpT b d = true → cmpT a d = true → ltT b a = false → ltT d b = false → ltT d a = false
  | 0, _, _, _, h, _, _, _, _, _ => absurd h (Nat.not_lt_zero _)
  | k + 1, a, b, d, hk, c1, c2, c3, h1, h2 => by
    cases cmpT_two c1 with
    | int a b => cases cmpT_two c2 with
      | int _ d =>
        rw [ltT_int] at h1 h2 ⊢
        exact decide_eq_false (Int.not_lt.mpr (Int.le_trans (Int.not_lt.mp (of_decide_eq_false h1)) (Int.not_lt.mp (of_decide_eq_false h2))))
    | str a b => cases cmpT_two c2 with
      | str _ d =>
        rw [ltT_str] at h1 h2 ⊢
        exact decide_eq_false (List.not_lt.mpr (List.le_trans (List.not_lt.mp (of_decide_eq_false h1)) (List.not_lt.mp (of_decide_eq_false h2))))
    | list ts us => cases cmpT_two c2 with
      | list _ vs =>
        -- along the lists
        have go : ∀ ts us vs : List T, sizeOf ts < k → cmpTs ts us = true → cmpTs us vs = true → cmpTs ts vs = true → ltTs us ts = false → ltTs vs us = false → ltTs vs ts = false := fun ts => by
          induction ts with
          | nil => intro us vs _ _ _ _ _ _; cases vs <;> rfl
          | cons t ts ih =>
            intro us vs hk c1 c2 c3 h1 h2
            cases us with
            | nil => cases h1
            | cons u us =>
              cases vs with
              | nil => cases h2
              | cons v vs =>
                cases e1 : eqT t u with
                | true =>
                  obtain rfl := eqT_eq t u e1
                  cases e2 : eqT t v with
                  | true =>
                    have e2' := (eqT_comm v t).trans e2
                    exact (ltTs_eq vs ts e2').trans (ih us vs (sizeOf_cons hk).2 ((cmpTs_eq ts us e1).symm.trans c1) ((cmpTs_eq us vs e2).symm.trans c2) ((cmpTs_eq ts vs e2).symm.trans c3) ((ltTs_eq us ts e1).symm.trans h1) ((ltTs_eq vs us e2').symm.trans h2))
                  | false =>
                    have e2' := (eqT_comm v t).trans e2
                    exact (ltTs_ne vs ts e2').trans ((ltTs_ne vs us e2').symm.trans h2)
                | false =>
                  have e1' := (eqT_comm u t).trans e1
                  cases e2 : eqT u v with
                  | true =>
                    obtain rfl := eqT_eq u v e2
                    exact (ltTs_ne vs ts e1').trans ((ltTs_ne us ts e1').symm.trans h1)
                  | false =>
                    have e2' := (eqT_comm v u).trans e2
                    have h1' := (ltTs_ne us ts e1').symm.trans h1
                    have h2' := (ltTs_ne vs us e2').symm.trans h2
                    have c1' := (cmpTs_ne ts us e1).symm.trans c1
                    cases e3 : eqT t v with
                    | true =>
                      obtain rfl := eqT_eq t v e3
                      exact absurd (ltT_total t u c1' h2' h1') (by rw [e1]; decide)
                    | false =>
                      exact (ltTs_ne vs ts ((eqT_comm v t).trans e3)).trans (leT_trans k t u v (sizeOf_cons hk).1 c1' ((cmpTs_ne us vs e2).symm.trans c2) ((cmpTs_ne ts vs e3).symm.trans c3) h1' h2')
        exact (ltT_list vs ts).trans (go ts us vs (sizeOf_list hk) ((cmpT_list ts us).symm.trans c1) ((cmpT_list us vs).symm.trans c2) ((cmpT_list ts vs).symm.trans c3) ((ltT_list us ts).symm.trans h1) ((ltT_list vs us).symm.trans h2))
theorem leT_tr {a b d : T} (c1 : cmpT a b = true) (c2 : cmpT b d = true) (c3 : cmpT a d = true) (h1 : ltT b a = false) (h2 : ltT d b = false) : ltT d a = false := leT_trans _ a b d (Nat.lt_succ_self _) c1 c2 c3 h1 h2

noncomputable def Fam (ts : List T) : Prop := ∀ a ∈ ts, ∀ b ∈ ts, cmpT a b = true
noncomputable def Up (ts : List T) : Prop := ts.Pairwise fun a b => ltT b a = false

section
variable {C : Cx} {n : Nat} {O : List Ob} {Φ : D → List Ob → Prop}
theorem getD_mem {ts : List T} {d : T} (i : Nat) : ts.getD i d ∈ ts ∨ ts.getD i d = d := by
  rw [List.getD_eq_getElem?_getD]
  cases h : ts[i]? with
  | none => exact .inr rfl
  | some t => exact .inl (List.mem_of_getElem? h)
theorem map_range_getD {α : Type} : ∀ (ts : List α) (d : α), (List.range ts.length).map (fun i => ts.getD i d) = ts := fun ts d => by
  refine List.ext_getElem (by simp) fun i h1 h2 => ?_
  simp [h2]
theorem DenL.mapIdx {H : PHeap} {ts : List T} {vs : List Value} (h : DenL H ts vs) : ∀ (is : List Nat), (∀ i ∈ is, i < ts.length) → DenL H (is.map fun i => ts.getD i .none) (is.map fun i => vs.getD i Value.none)
  | [], _ => .nil
  | i :: is, hi => by
    have hl := h.length
    have h1 := hi i (List.mem_cons_self ..)
    obtain ⟨v, e, d⟩ := h.get (i := i) (t := ts[i]) (List.getElem?_eq_getElem h1)
    refine .cons ?_ (DenL.mapIdx h is fun j hj => hi j (List.mem_cons_of_mem _ hj))
    show Den H (ts.getD i .none) (vs.getD i Value.none)
    rw [List.getD_eq_getElem?_getD, List.getD_eq_getElem?_getD, e, List.getElem?_eq_getElem h1]
    exact d

theorem F_sorted {d : D} {ts : List T} (hd : listD O d = some ts) (h64 : ts.length < 64) (hl : ∀ t ∈ ts, ∃ us, t = .list us) (hdat : datTs ts = true) (hdep : depTs ts ≤ 40) (hf : Fam ts)
    (h : ∀ us, us.Perm ts → Up us → Φ (.val (.list us)) O) : ConB C n (.builtin "sorted") O [d] [] Φ := ConB_1 fun A H as s E v rm M d1 => by
  obtain ⟨a, items, k, rfl, g, dl⟩ := listD_at M hd d1
  have hlen : items.toList.length = ts.length := dl.length
  have hu := rm.units
  have hcl : cLine = 9996 ∨ 9100 < cLine := by first | exact .inl (by decide +kernel) | exact .inr (by decide +kernel)
  have hcl' : 9100 < cLine := by (exact Nat.le_add_left _ _)
  have hg : s.heap.IsList a items.toList.toArray := by rw [Array.toArray_toList]; exact isList_of g
  refine Calls.call_function_entry kind_sorted plain_sorted entry_sorted (args_sorted1 _) ?_
  unfold Builtin.«sorted»
  refine wpAny_bind (m := checkCount "sorted" 1 1 _) (wpAny_pure ?_)
  refine wpAny_bind (collect_list hg ?_ (by rw [sizeLine_eq]; (first | exact zLe (zEq hlen (Nat.le_of_lt h64)) rfl | lia)))
  refine wpAny_bind (wpAny_newList ?_ (by rw [sizeLine_eq]; (first | exact zLe (zEq hlen (Nat.le_of_lt h64)) rfl | lia)))
  have hsz : ((s.heap.push (seqObj "list" #[] 0)).update s.heap.objs.size (Obj.mapSeq (· ++ items.toList.toArray))).objs.size = s.heap.objs.size + 1 := by
    rw [Heap.size_update, size_push']
  have hoL : (((s.heap.push (seqObj "list" #[] 0)).update s.heap.objs.size (Obj.mapSeq (· ++ items.toList.toArray))).push (seqObj "list" items.toList.toArray 0)).get? (s.heap.objs.size + 1) = some (listO items.toList.toArray 0) := by
    rw [← hsz]; exact Heap.get?_push_size _ rfl
  have keep : ∀ b o, s.heap.get? b = some o → (((s.heap.push (seqObj "list" #[] 0)).update s.heap.objs.size (Obj.mapSeq (· ++ items.toList.toArray))).push (seqObj "list" items.toList.toArray 0)).get? b = some o := fun b o q => by
    have hlt : b < s.heap.objs.size := Heap.lt_size q
    refine Heap.get?_push_of_some _ ?_
    rw [Heap.get?_update_ne _ _ _ _ (Nat.ne_of_lt hlt)]
    exact Heap.get?_push_of_some _ q
  show wpAny _ _ _ _ _ { s with heap := ((s.heap.push (seqObj "list" #[] 0)).update s.heap.objs.size (Obj.mapSeq (· ++ items.toList.toArray))).push (seqObj "list" items.toList.toArray 0) }
  rw [hsz]
  generalize ((s.heap.push (seqObj "list" #[] 0)).update s.heap.objs.size (Obj.mapSeq (· ++ items.toList.toArray))).push (seqObj "list" items.toList.toArray 0) = h₁ at hoL keep ⊢
  have hnew : s.heap.get? (s.heap.objs.size + 1) = none := Heap.get?_none_of_le (Nat.le_succ _)
  have hH : ∀ h', KeepBut (s.heap.objs.size + 1) h₁ h' → ∀ b o, H b = some o → h'.get? b = some o := fun h' kb b o e => by
    have e' := M.sat _ _ e
    exact kb b o (fun q => by rw [q, hnew] at e'; cases e') (keep b o e')
  let t0 : T := ts.headD (.list [])
  have mem0 : ∀ i, (ts.getD i t0) ∈ ts ∨ (ts = [] ∧ ts.getD i t0 = .list []) := fun i => by
    rcases getD_mem (ts := ts) (d := t0) i with q | q
    · exact .inl q
    · cases ts with
      | nil => exact .inr ⟨rfl, q⟩
      | cons x xs => refine .inl ?_; rw [q]; exact List.mem_cons_self ..
  have cm : ∀ i j, cmpT (ts.getD i t0) (ts.getD j t0) = true := fun i j => by
    rcases mem0 i with q | ⟨e, q⟩
    · rcases mem0 j with r | ⟨e, r⟩
      · exact hf _ q _ r
      · rw [e] at q; cases q
    · subst e; rfl
  have W : Weak fun i j => ltT (ts.getD i t0) (ts.getD j t0) := ⟨fun i => ltT_irr _, fun i j => ltT_asym _ _, fun i j l => leT_tr (cm i j) (cm j l) (cm i l)⟩
  have getv : ∀ i, i < ts.length → ∃ us, ts.getD i t0 = .list us ∧ Den H (.list us) (items.toList.getD i Value.none) ∧ datTs us = true ∧ depTs us + 1 ≤ 40 := fun i hi => by
    obtain ⟨v, e, d⟩ := dl.get (i := i) (t := ts[i]) (List.getElem?_eq_getElem hi)
    have em : ts.getD i t0 = ts[i] := by simp [hi]
    obtain ⟨us, eu⟩ := hl ts[i] (List.getElem_mem hi)
    have hdt : datT ts[i] = true := by
      have := datTs_get (ts := ts) (j := i) hdat hi
      rw [List.getD_eq_getElem?_getD, List.getElem?_eq_getElem hi] at this; exact this
    have hdp : depT ts[i] ≤ depTs ts := by
      have := depTs_get (ts := ts) (j := i) hi
      rw [List.getD_eq_getElem?_getD, List.getElem?_eq_getElem hi] at this; exact this
    refine ⟨us, by rw [em, eu], ?_, ?_, ?_⟩
    · rw [List.getD_eq_getElem?_getD, e, ← eu]; exact d
    · rw [eu] at hdt; unfold datT at hdt; exact hdt
    · rw [eu] at hdp; unfold depT at hdp; (exact Nat.le_trans hdp hdep)
  refine wpAny_bind (wpAny_holding (wpAny_call_entry slot_list_sort ⟨_, hoL, rfl⟩ entry_list_sort ?body (args_list_sort _)))
  case body =>
    refine sort_core (s := { s with heap := h₁ }) hoL (by (first | exact zEq (congrArg Nat.succ hlen) h64 | lia)) W (fun h' kb v hv s' es => ?_) (fun h' kb i j hi hj s' C' E' es hC => ?_) fun p h' k' hp hs hg' kb => ?_
    · obtain ⟨i, hi, rfl⟩ := List.getElem_of_mem hv
      obtain ⟨us, e1, e2, _⟩ := getv i (by (first | exact Nat.lt_of_lt_of_eq hi hlen | lia))
      have e3 : items.toList.getD i Value.none = items.toList[i] := by rw [List.getD_eq_getElem?_getD, List.getElem?_eq_getElem hi]; rfl
      rw [e3] at e2
      unfold Den at e2
      obtain ⟨b, ws, n', eb, hb, _⟩ := e2
      rw [eb]
      exact ⟨_, by rw [es]; exact hH h' kb _ _ hb, rfl⟩
    · obtain ⟨us, e1, e2, e3, e4⟩ := getv i (by (first | exact Nat.lt_of_lt_of_eq hi hlen | lia))
      obtain ⟨us', f1, f2, f3, f4⟩ := getv j (by (first | exact Nat.lt_of_lt_of_eq hj hlen | lia))
      have hc := cm i j
      rw [e1, f1] at hc hC
      unfold cmpT at hc
      unfold ltT at hC
      exact oneLt_den (fun b o e => by rw [es]; exact hH h' kb b o e) e2 f2 e3 f3 hc (by show A.units + 1 + 1 + _ + 1 < _; (first | exact Nat.lt_of_le_of_lt (zLe (Nat.succ_le_succ (Nat.add_le_add (Nat.succ_le_succ (Nat.succ_le_succ (Nat.le_of_add_right_le hu))) (Nat.le_of_succ_le e4))) rfl) hcl' | lia)) hC
    · have hpl : ∀ i ∈ p.toList, i < ts.length := fun i hi => by
        have := hp.perm.mem_iff.mp (Array.mem_toList_iff.mp hi)
        rw [List.mem_toArray, List.mem_range] at this; (first | exact Nat.lt_of_lt_of_eq this hlen | lia)
      have hperm : (p.toList.map fun i => ts.getD i .none).Perm ts := by
        have := (Array.perm_iff_toList_perm.mp hp.perm).map (fun i => ts.getD i T.none)
        rw [List.toList_toArray, hlen] at this
        exact this.trans (by rw [map_range_getD])
      have hup : Up (p.toList.map fun i => ts.getD i .none) := by
        unfold Up
        rw [List.pairwise_iff_getElem]
        intro i j hi hj hij
        have hps := hp.size
        rw [List.length_map, Array.length_toList] at hi hj
        have := hs i j (by (exact Nat.le_of_lt hij)) (by (first | exact Nat.lt_of_lt_of_eq hj hps | lia))
        simp only [List.getElem_map, Array.getElem_toList]
        have e1 : pv p i = p[i] := by simp [pv, Array.getD, hi]
        have e2 : pv p j = p[j] := by simp [pv, Array.getD, hj]
        rw [e1, e2] at this
        have l1 : p[i] < ts.length := hpl _ (Array.mem_toList_iff.mpr (Array.getElem_mem hi))
        have l2 : p[j] < ts.length := hpl _ (Array.mem_toList_iff.mpr (Array.getElem_mem hj))
        have g1 : ∀ i (hi : i < ts.length), ts.getD i .none = ts.getD i t0 := fun i hi => by simp [hi]
        rw [g1 _ l1, g1 _ l2]
        exact this
      obtain ⟨M₂, R₂⟩ := M.put (a := s.heap.objs.size + 1) (o := listO (p.toList.map fun i => items.toList.getD i Value.none).toArray k') (s' := { s with heap := h' }) hnew hg' (fun b o e => kb b o (fun q => by rw [q, hnew] at e; cases e) (keep b o e)) rfl rfl
      refine ⟨_, rfl, wpAny_pure ⟨_, rfl, ?_⟩⟩
      refine ⟨_, O, _, as, h _ hperm hup, M₂, ?_, R₂ _⟩
      unfold DenD Den
      exact ⟨_, _, k', rfl, PHeap.put_self, DenL.mono (R₂ []).mono _ _ (by rw [List.toList_toArray]; exact dl.mapIdx _ hpl)⟩
end
end Mine
end

section
set_option Elab.async false
set_option maxRecDepth 100000
set_option linter.unusedVariables false
namespace Mine
open PySem PySem.W PyProof.Rows PySem.Calls

theorem pick_runT {α : Type} (xs : List α) : ∀ (n a : Nat), a + n ≤ xs.length → ((List.range n).map (a + ·)).filterMap (xs[·]?) = (xs.drop a).take n
  | 0, a, h => by simp
  | n + 1, a, h => by
    have h1 : xs[a]? = some xs[a] := List.getElem?_eq_getElem (by (first | exact Nat.lt_of_add_right_lt h | omega))
    have e : (List.range (n + 1)).map (a + ·) = a :: (List.range n).map ((a + 1) + ·) := by
      rw [List.range_succ_eq_map, List.map_cons, List.map_map]
      congr 1
      refine List.map_congr_left fun x _ => ?_
      show a + (x + 1) = a + 1 + x
      (first | exact zAs.symm | lia)
    rw [e, List.filterMap_cons, h1]
    dsimp only
    rw [pick_runT xs n (a + 1) (by (first | exact z18 h | lia)), List.drop_eq_getElem_cons (by (first | exact Nat.lt_of_add_right_lt h | omega) : a < xs.length), List.take_succ_cons]
theorem sliceT_mid {α : Type} {xs : List α} {a b : Nat} (hb : b ≤ xs.length) (hab : a ≤ b) : sliceT xs (some a) (some b) none = (xs.drop a).take (b - a) := by
  unfold sliceT
  rw [sliceBounds_plain]
  show (sliceRange ((clipAt xs.length (a : Int) : Nat) : Int) ((clipAt xs.length (b : Int) : Nat) : Int) 1).filterMap (xs[·]?) = _
  rw [clipAt_nat, clipAt_nat, Nat.min_eq_left (by (exact Nat.le_trans hab hb)), Nat.min_eq_left hb, sliceRange_one, pick_runT _ _ _ (by (first | exact zEq (Nat.add_sub_of_le hab) hb | lia))]
theorem sliceT_take {α : Type} {xs : List α} {b : Nat} (hb : b ≤ xs.length) : sliceT xs none (some b) none = xs.take b := by
  unfold sliceT
  rw [sliceBounds_plain]
  show (sliceRange ((0 : Nat) : Int) ((clipAt xs.length (b : Int) : Nat) : Int) 1).filterMap (xs[·]?) = _
  rw [clipAt_nat, Nat.min_eq_left hb, sliceRange_one, pick_runT _ _ _ (by (first | exact zEq (Nat.zero_add _) hb | lia))]
  simp
theorem sliceT_drop {α : Type} {xs : List α} {a : Nat} (ha : a ≤ xs.length) : sliceT xs (some a) none none = xs.drop a := by
  unfold sliceT
  rw [sliceBounds_plain]
  show (sliceRange ((clipAt xs.length (a : Int) : Nat) : Int) ((xs.length : Nat) : Int) 1).filterMap (xs[·]?) = _
  rw [clipAt_nat, Nat.min_eq_left ha, sliceRange_one, pick_runT _ _ _ (by (first | exact Nat.le_of_eq (Nat.add_sub_of_le ha) | lia))]
  rw [List.take_of_length_le (by rw [List.length_drop]; (exact Nat.le_refl _))]
end Mine
end

section
set_option Elab.async false
set_option maxRecDepth 100000
set_option maxHeartbeats 1000000
set_option linter.unusedVariables false
namespace Mine
open PySem PySem.W PyProof.Rows PySem.Calls

noncomputable abbrev comp2 (a b : Str) (p1 p2 p3 p4 : Pos) (iter : Expr) (scope : Scope) (pos : Pos) : Expr := .ListComp (.Name b p1) [⟨.Name a p2, iter, [], 0⟩, ⟨.Name b p3, .Name a p4, [], 0⟩] scope pos
theorem comp2_in (a b : Str) (p1 p2 p3 p4 : Pos) (iter : Expr) (scope : Scope) (pos : Pos) (it acc : Value) (env : Env) :
    compTurn (comp2 a b p1 p2 p3 p4 iter scope pos) 1 it acc env = (standAt p4 >>= fun _ => pyNext it >>= fun r => match r with
      | none => pure (.done .next)
      | some v => letOwnedTupleGo (.Name b p3) it v >>= fun _ => assign (.Name b p3) env v >>= fun _ =>
        (eval (.Name b p1) env >>= fun x => call (.builtin "list.append") [acc, x] >>= fun _ => pure ()) >>= fun _ =>
          again (.compLoop (comp2 a b p1 p2 p3 p4 iter scope pos) 1 it acc env)) := by rfl
theorem comp2_out (a b : Str) (p1 p2 p3 p4 : Pos) (iter : Expr) (scope : Scope) (pos : Pos) (it acc : Value) (env : Env) :
    compTurn (comp2 a b p1 p2 p3 p4 iter scope pos) 0 it acc env = (standAt iter.pos >>= fun _ => pyNext it >>= fun r => match r with
      | none => pure (.done .next)
      | some v => letOwnedTupleGo (.Name a p2) it v >>= fun _ => assign (.Name a p2) env v >>= fun _ =>
        (eval (.Name a p4) env >>= fun x => standAt p4 >>= fun _ => foldedSetIterable (.Name a p4) env x >>= fun x => holding [x] (pyIter x) >>= fun it2 => runOwn (.compStart (comp2 a b p1 p2 p3 p4 iter scope pos) 1 it2 acc env) env >>= fun _ =>
          again (.compLoop (comp2 a b p1 p2 p3 p4 iter scope pos) 0 it acc env))) := by rfl

section
variable {prog : Program} {w : World} {A : Around} {R : Result → Shared → Prop} {s : Shared} {env : Env}
theorem codeC_compStart2 {a b p1 p2 p3 p4 iter scope pos it acc}
    (h0 : codeC (model prog w) A (.compLoop (comp2 a b p1 p2 p3 p4 iter scope pos) 1 it acc env) R s)
    (h : wpAny (model prog w) A (pyIter it) (fun it' s' => codeC (model prog w) A (.compLoop (comp2 a b p1 p2 p3 p4 iter scope pos) 1 it' acc env) R s')
      (notedBy (model prog w) A env fun x s' => R (.error x) s') s) :
    codeC (model prog w) A (.compStart (comp2 a b p1 p2 p3 p4 iter scope pos) 1 it acc env) R s := by
  refine codeC_of_tree ?_
  show wpC _ _ ((compStart (comp2 a b p1 p2 p3 p4 iter scope pos) 1 it acc env).onRaise (fun x => do noteFrame x env; standAt theWindowsPlace)) _ _ s
  refine wpC_notedAt ?_
  unfold compStart
  refine .of ?_
  show wpAny _ _ (ask >>= _) _ _ s
  refine wpAny_bind (wpAny_askSetting (wpAny_ite ?_))
  split
  · first
      | exact wpAny_bind (wpAny_pure (wpAny_pure (And.intro rfl h0)))
      | exact wpAny_pure (And.intro rfl h0)
  · first
      | exact wpAny_bind (wpAny_rule (wpAny_bind (wpAny_standAt (wpAny_bind (wpAny_mono h (fun it' s' h' => wpAny_pure (And.intro rfl h')) fun _ _ x => x)))))
      | (refine wpAny_bind (wpAny_rule ?_); show wpAny _ _ (standAt _ >>= _) _ _ s; exact wpAny_bind (wpAny_standAt (wpAny_bind (wpAny_mono h (fun it' s' h' => wpAny_pure (And.intro rfl h')) fun _ _ x => x))))
end

theorem Rel.touchX {X H as s H' as' s'} (r : Rel X H as s H' as' s') {a : Addr} {h' : Heap} {tk : Nat} (ha : a ∈ X) (hl : Live h' a) (hs : Heap.ExtBut a s'.heap h') : Rel X H as s H' as' { s' with heap := h', toks := tk } :=
  ⟨r.mono, r.fresh, fun b o e hX hb => (r.keep b o e hX hb).trans fun o' e' => .inl (hs b o' (fun q => hX (q ▸ ha)) e'), fun b l => by
    by_cases q : b = a
    · subst q; exact hl
    · obtain ⟨o, e⟩ := r.alive b l; exact ⟨o, hs b o q e⟩, r.ext⟩

section
variable {C : Cx} {n : Nat} {sc : Kinds} {ρ : Vars} {O : List Ob} {A : Around} {E : Value → Shared → Prop}
inductive InS (C : Cx) (A : Around) (ρ : Vars) (O : List Ob) (env : Env) (X : List Addr) (H₀ : PHeap) (as₀ : List Addr) (s₀ : Shared) (as : List Addr) (I Da : Addr) {α : Type} (g : α → T) (fl : List α → List T) (all : List T) (m : Nat) (s' : Shared) : Prop
  | intro (ts' : List α) (acc' : List T) (H' : PHeap) (vs' : Array Value) (k' : Nat) (e : ts'.length = m) (he : acc' ++ fl ts' = all) (M : Mem C A H' as O s') (l : Loc H' as env ρ s') (hit : ItAt H' as O s'.heap I (ts'.map g)) (I2 : H' I = none) (D2 : H' Da = none)
      (a : s'.heap.get? Da = some (listO vs' k')) (den : DenL H' acc' vs'.toList) (R : Rel X H₀ as₀ s₀ H' as s')
inductive InD (C : Cx) (A : Around) (ρ : Vars) (O : List Ob) (env : Env) (X : List Addr) (H₀ : PHeap) (as₀ : List Addr) (s₀ : Shared) (as : List Addr) (Da : Addr) (all : List T) (s' : Shared) : Prop
  | intro (H' : PHeap) (vs' : Array Value) (k' : Nat) (M : Mem C A H' as O s') (l : Loc H' as env ρ s') (R : Rel X H₀ as₀ s₀ H' as s') (a : s'.heap.get? Da = some (listO vs' k')) (den : DenL H' all vs'.toList) (D2 : H' Da = none)
inductive SameD (C : Cx) (A : Around) (O : List Ob) (H : PHeap) (as : List Addr) (s : Shared) (t : T) (v : Value) (s' : Shared) : Prop
  | intro (H' : PHeap) (M : Mem C A H' as O s') (D : Den H' t v) (R : Rel [] H as s H' as s')
theorem var_same {env H as s x pos t} (eo : EnvOk sc env) (hx : nameOk sc x) (hd : (x == ("__debug__" : Str)) = false) (rm : Room n A) (M : Mem C A H as O s) (l : Loc H as env ((x, .val t) :: ρ) s) :
    wpC (model C.prog C.w) A (eval (.Name x pos) env) (SameD C A O H as s t) E s := by
  have hw := WPe_var (C := C) (n := n) (sc := sc) (ρ := (x, .val t) :: ρ) (O := O) (x := x) (pos := pos) (d := .val t) (Φ := fun d O' => d = .val t ∧ O' = O) (by rw [List.lookup_cons, beq_self_eq_true]) hx ⟨rfl, rfl⟩ hd
  refine wpC_mono (hw A env H as s _ rm eo M l) (fun v s' qq => qq.out fun d O' H' as' hq M' D' R' => ?_) fun _ _ x => x
  obtain ⟨rfl, rfl⟩ := hq
  obtain rfl := same_as M M' R'
  exact ⟨H', M', D', R'⟩
theorem sub_new {a : Str} (h : ρ.lookup a = none) (d : D) : Sub ρ ((a, d) :: ρ) := fun x e hx => by
  rw [lookup_cons_ne]; exact hx
  rintro rfl; rw [h] at hx; cases hx
theorem inner_code {env : Env} {H as s s₀ H₀ a b p1 p2 p3 p4 iter scope pos I Da Y ts acc vs k} (rm : Room n A) (h0n : 0 < n) (eo : EnvOk sc env) (hb : nameOk sc b) (hbd : (b == ("__debug__" : Str)) = false) (hρ : ρ.lookup b = none)
    (M : Mem C A H as O s) (l : Loc H as env ρ s) (hit : ItAt H as O s.heap I ts) (hne : I ≠ Da) (I0 : s₀.heap.get? I = none) (I1 : I ∉ as) (I2 : H I = none) (I3 : I ∉ slots env) (D1 : Da ∉ as) (D2 : H Da = none) (D3 : Da ∉ slots env)
    (hYb : TgtIn env Y (.Name b p3)) (IY : I ∉ Y) (DY : Da ∉ Y) (R : Rel (Da :: Y) H₀ as s₀ H as s) (hacc : s.heap.get? Da = some (listO vs k)) (hden : DenL H acc vs.toList) (hsz : acc.length + ts.length ≤ sizeLine) :
    codeC (model C.prog C.w) A (.compLoop (comp2 a b p1 p2 p3 p4 iter scope pos) 1 (.ref I) (.ref Da) env)
      (fun r s' => match r with | .ok f => InD C A ρ O env (Da :: Y) H₀ as s₀ as Da (acc ++ ts) s' | .error e => False) s := by
  refine codeC_loop rfl (InS C A ρ O env (Da :: Y) H₀ as s₀ as I Da id id (acc ++ ts)) (fun m s' hq => ?_) ts.length ⟨ts, acc, H, vs, k, rfl, rfl, M, l, by rw [List.map_id]; exact hit, I2, D2, hacc, hden, R⟩
  clear M l hit I2 D2 hacc hden R
  obtain ⟨ts', acc', H', vs', k', em, he, M, l, hit, I2, D2, hacc, hden, R⟩ := hq
  rw [List.map_id] at hit
  show wpC _ A ((compTurn (comp2 a b p1 p2 p3 p4 iter scope pos) 1 (.ref I) (.ref Da) env).onRaise (fun x => do noteFrame x env; theTreesLotGoes x)) _ _ s'
  refine wpC_noted ?_
  rw [comp2_in]
  refine wpC_bind (wpC_standAt (wpC_bind ?_))
  cases ts' with
  | nil => exact .of (ItAt.end rm h0n M hit fun h' hs => wpC_pure ⟨H', vs', k', M.touch I2 I1 hs hit.nd, l.touch I3 hs, R.touch I0 hs, hs Da _ (Ne.symm hne) hacc, by rw [← he]; exact (List.append_nil acc').symm ▸ hden, D2⟩)
  | cons t ts' =>
    have em : ts'.length < m := em ▸ Nat.lt_succ_self _
    have he : (acc' ++ [t]) ++ ts' = acc ++ ts := by rw [List.append_assoc]; exact he
    have hlen : vs'.size ≤ sizeLine := by
      rw [← Array.length_toList, hden.length]
      have := congrArg List.length he
      simp at this; (first | exact Nat.le_trans (Nat.le_trans (Nat.le_add_right _ _) (Nat.le_of_eq this)) hsz | lia)
    refine .of (ItAt.next rm M I1 I2 hit fun v h' tk hv hit' hs => ?_)
    refine wpC_bind (.of (letOwned_it (C := C) (s := { s' with heap := h', toks := tk }) (.name hb) hit' ?_))
    have M1 := M.touch (tk := tk) I2 I1 hs.extBut hit.nd
    have l1 := l.touch (tk := tk) I3 hs.extBut
    have R1 := R.touch (tk := tk) I0 hs.extBut
    have a1 : ({ s' with heap := h', toks := tk } : Shared).heap.get? Da = some (listO vs' k') := hs.extBut Da _ (Ne.symm hne) hacc
    have hit' : ItAt H' as O ({ s' with heap := h', toks := tk } : Shared).heap I ts' := hit'
    clear M l R hacc hs hit
    generalize ({ s' with heap := h', toks := tk } : Shared) = s1 at M1 l1 R1 a1 hit' ⊢
    refine wpC_bind (.of (assign_ (tgt := .Name b p3) (ρ' := (b, .val t) :: ρ) rm h0n eo M1 l1 hv (.name hb) .name fun s2 M2 l2 R2' => ?_))
    have R2 := R2' Y hYb
    have hit2 : ItAt H' as O s2.heap I ts' := hit'.rel (s := s1) R2 I1 IY
    have a2 := (R2.keep _ _ a1 DY D1).list
    have R12 := R1.trans (R2.weaken (Y := Da :: Y) fun _ h => List.mem_cons_of_mem _ h)
    clear R1 R2 R2' M1 l1 a1 hit' hv
    refine wpC_bind (wpC_bind (wpC_mono (var_same eo hb hbd rm M2 l2) (fun v4 s4 qq => qq.casesOn fun H4 M4 D4 R4 => ?_) fun _ _ x => x))
    have a4 := (R4.keep _ _ a2 List.not_mem_nil D1).list
    have offI4 := R4.off hit2.live I1 I2
    have offD4 := R4.off ⟨_, a2⟩ D1 D2
    refine wpC_bind (.of (wpAny_list_append_plain (items := vs') ⟨k', a4⟩ (fun h5 ⟨k5, g5⟩ hs5 => wpC_pure (wpC_pure (.inl ⟨rfl, ts'.length, em, ts', acc' ++ [t], H4, vs'.push v4, k5, rfl, he,
      M4.touch (tk := s4.toks) offD4.2 D1 hs5.extBut (fun o es n e q => by rw [a4] at e; cases e; cases q), ((l2.rel R4).touch (tk := s4.toks) D3 hs5.extBut).sub (sub_new hρ _), by rw [List.map_id]; exact (hit2.rel R4 I1 List.not_mem_nil).keep (fun o e => hs5.extBut I o hne e), offI4.2, offD4.2, g5,
      by rw [Array.toList_push]; exact (DenL.mono R4.mono _ _ hden).append (.cons D4 .nil), (R12.trans (R4.weaken (Y := Da :: Y) (by simp))).touchX (tk := s4.toks) (List.mem_cons_self ..) ⟨_, g5⟩ hs5.extBut⟩))) hlen))

theorem outer_code {env : Env} {H as as₀ s s₀ H₀ a b p1 p2 p3 p4 iter scope pos I Da Y ts acc vs k} (rm : Room n A) (h0n : 0 < n) (eo : EnvOk sc env) (ha : nameOk sc a) (hb : nameOk sc b) (had : (a == ("__debug__" : Str)) = false) (hbd : (b == ("__debug__" : Str)) = false)
    (hρa : ρ.lookup a = none) (hρb : ρ.lookup b = none) (hab : b ≠ a) (uss : List (List T)) (hts : ts = uss.map T.list)
    (M : Mem C A H as O s) (l : Loc H as env ρ s) (hit : ItAt H as O s.heap I ts) (hne : I ≠ Da) (I0 : s₀.heap.get? I = none) (D0 : s₀.heap.get? Da = none) (Y0 : ∀ c ∈ Y, s₀.heap.get? c = none) (I1 : I ∉ as) (I2 : H I = none) (I3 : I ∉ slots env) (D1 : Da ∉ as) (D2 : H Da = none) (D3 : Da ∉ slots env)
    (YS : ∀ c ∈ Y, c ∈ slots env) (hYa : TgtIn env Y (.Name a p2)) (hYb : TgtIn env Y (.Name b p3)) (IY : I ∉ Y) (DY : Da ∉ Y) (R : Rel [] H₀ as₀ s₀ H as s) (hacc : s.heap.get? Da = some (listO vs k)) (hden : DenL H acc vs.toList) (hsz : acc.length + uss.flatten.length ≤ sizeLine) :
    codeC (model C.prog C.w) A (.compLoop (comp2 a b p1 p2 p3 p4 iter scope pos) 0 (.ref I) (.ref Da) env)
      (fun r s' => match r with | .ok f => InD C A ρ O env [] H₀ as₀ s₀ as Da (acc ++ uss.flatten) s' | .error e => False) s := by
  refine codeC_loop rfl (InS C A ρ O env [] H₀ as₀ s₀ as I Da T.list List.flatten (acc ++ uss.flatten)) (fun m s' hq => ?_) uss.length ⟨uss, acc, H, vs, k, rfl, rfl, M, l, hts ▸ hit, I2, D2, hacc, hden, R⟩
  clear M l hit I2 D2 hacc hden R
  obtain ⟨us', acc', H', vs', k', em, he, M, l, hit, I2, D2, hacc, hden, R⟩ := hq
  show wpC _ A ((compTurn (comp2 a b p1 p2 p3 p4 iter scope pos) 0 (.ref I) (.ref Da) env).onRaise (fun x => do noteFrame x env; theTreesLotGoes x)) _ _ s'
  refine wpC_noted ?_
  rw [comp2_out]
  refine wpC_bind (wpC_standAt (wpC_bind ?_))
  cases us' with
  | nil => exact .of (ItAt.end rm h0n M hit fun h' hs => wpC_pure ⟨H', vs', k', M.touch I2 I1 hs hit.nd, l.touch I3 hs, R.touch I0 hs, hs Da _ (Ne.symm hne) hacc, by rw [← he]; exact (List.append_nil acc').symm ▸ hden, D2⟩)
  | cons u us' =>
    have em : us'.length < m := em ▸ Nat.lt_succ_self _
    have he : (acc' ++ u) ++ us'.flatten = acc ++ uss.flatten := by rw [List.append_assoc]; exact he
    have hlen : acc'.length + u.length ≤ sizeLine := by
      have := congrArg List.length he
      simp only [List.length_append] at this; (first | exact Nat.le_trans (Nat.le_trans (Nat.le_add_right _ _) (Nat.le_of_eq this)) hsz | lia)
    have hit : ItAt H' as O s'.heap I (.list u :: us'.map T.list) := hit
    refine .of (ItAt.next rm M I1 I2 hit fun v h' tk hv hit' hs => ?_)
    refine wpC_bind (.of (letOwned_it (C := C) (s := { s' with heap := h', toks := tk }) (.name ha) hit' ?_))
    have M1 := M.touch (tk := tk) I2 I1 hs.extBut hit.nd
    have l1 := l.touch (tk := tk) I3 hs.extBut
    have R1 := R.touch (tk := tk) I0 hs.extBut
    have a1 : ({ s' with heap := h', toks := tk } : Shared).heap.get? Da = some (listO vs' k') := hs.extBut Da _ (Ne.symm hne) hacc
    have hit' : ItAt H' as O ({ s' with heap := h', toks := tk } : Shared).heap I (us'.map T.list) := hit'
    clear M l R hacc hs hit
    generalize ({ s' with heap := h', toks := tk } : Shared) = s1 at M1 l1 R1 a1 hit' ⊢
    refine wpC_bind (.of (assign_ (tgt := .Name a p2) (ρ' := (a, .val (.list u)) :: ρ) rm h0n eo M1 l1 hv (.name ha) .name fun s2 M2 l2 R2' => ?_))
    have R2 := R2' Y hYa
    have hit2 : ItAt H' as O s2.heap I (us'.map T.list) := hit'.rel (s := s1) R2 I1 IY
    have a2 := (R2.keep _ _ a1 DY D1).list
    -- what the targets' slots and the list hold is no one else's
    have R12 : Rel [] H₀ as₀ s₀ H' as s2 := R1.own Y0 R2
    clear R1 R2 R2' M1 l1 a1 hit' hv
    refine wpC_bind (wpC_mono (var_same eo ha had rm M2 l2) (fun v4 s4 qq => qq.casesOn fun H4 M4 D4 R4 => ?_) fun _ _ x => x)
    have l4 := l2.rel R4
    have hit4 := hit2.rel R4 I1 List.not_mem_nil
    have a4 := (R4.keep _ _ a2 List.not_mem_nil D1).list
    have offI4 := R4.off hit2.live I1 I2
    have offD4 := R4.off ⟨_, a2⟩ D1 D2
    have den4 := DenL.mono R4.mono _ _ hden
    have R14 := R12.trans R4
    clear R12 R4 M2 l2 a2 hit2 hden
    refine wpC_bind (wpC_standAt (wpC_bind (wpC_of_eq (a := v4) rfl (wpC_bind (wpC_holding (.of ?_))))))
    refine iter_ rm M4 (d := .val (.list u)) (ts := u) rfl D4 fun J s5 hJ M5 R5 hk5 J1 J2 Jl hitJ _ => ?_
    have a5 := (R5.keep _ _ a4 List.not_mem_nil D1).list
    have hJD : J ≠ Da := fun q => by subst q; rw [a4] at hJ; cases hJ
    have hJS : J ∉ slots env := fun hm => (l4.off J hm).2.2.not_none hJ
    have hJY : J ∉ Y := fun hm => hJS (YS _ hm)
    have start := inner_code (C := C) (ρ := (a, .val (.list u)) :: ρ) (s₀ := s4) (H₀ := H4) (a := a) (p1 := p1) (p2 := p2) (p3 := p3) (p4 := p4) (iter := iter) (scope := scope) (pos := pos) (acc := acc') rm h0n eo hb hbd (by rw [lookup_cons_ne hab]; exact hρb) M5 (l4.rel R5) hitJ hJD hJ J1 J2 hJS D1 offD4.2 D3 hYb hJY DY
      (R5.weaken (Y := Da :: Y) (by simp)) a5 den4 hlen
    refine wpC_bind (wpC_runOwn (A := A) (env := env) (c := .compStart (comp2 a b p1 p2 p3 p4 iter scope pos) 1 (.ref J) (.ref Da) env) ?_ (by intro x; cases x))
    refine codeC_mono (codeC_compStart2 start (itself_ M5 hitJ start)) fun r s6 h => ?_
    cases r with
    | error e => exact h.elim
    | ok f =>
      refine wpC_pure (.inl ⟨rfl, us'.length, em, InD.casesOn h fun H6 vs6 k6 M6 l6 R6 g6 den6 n6 => ?_⟩)
      have IX : I ∉ Da :: Y := fun hm => (List.mem_cons.mp hm).elim hne IY
      exact ⟨us', acc' ++ u, H6, vs6, k6, rfl, he, M6, l6.sub (sub_new hρa _), hit4.rel R6 I1 IX, (R6.off hit4.live I1 offI4.2).2, n6, g6, den6, R14.own (X := Da :: Y) (fun c hc => (List.mem_cons.mp hc).elim (fun q => q ▸ D0) (Y0 c)) R6⟩

inductive Comp2I (O : List Ob) (d : D) (P : List T → Prop) : Prop
  | intro (uss : List (List T)) (h : itemsD O d = some (uss.map T.list)) (l : uss.flatten.length ≤ sizeLine) (k : P uss.flatten)
theorem WPe_Comp2 {a b p1 p2 p3 p4 iter scope pos} {Φ : D → List Ob → Prop} (ok : CompOk sc scope (.Tuple [.Name a p2, .Name b p3] 0 p2)) (ha : nameOk (relab sc scope.names) a) (hb : nameOk (relab sc scope.names) b) (hfa : scope.names.lookup a ≠ some .free) (hfb : scope.names.lookup b ≠ some .free) (had : (a == ("__debug__" : Str)) = false) (hbd : (b == ("__debug__" : Str)) = false) (hab : b ≠ a)
    (h : WPe C n sc ρ O iter fun d O' => Comp2I O' d fun us => Φ (.val (.list us)) O')
    (hs : ∀ (env : Env) x, foldedSetIterable iter env x = pure x) (h0n : 0 < n) : WPe C n sc ρ O (comp2 a b p1 p2 p3 p4 iter scope pos) Φ := fun A env H as s E rm eo M l => by
  rw [eval_ListComp]
  have hnames : ∀ x ∈ scope.names, x.2 = .local → scope.names.lookup x.1 = some .local := fun x hx e => by
    obtain ⟨y, k⟩ := x
    dsimp only at e; subst e
    exact lookup_nodup ok.nodup hx
  refine wpC_comprehension (g := ⟨.Name a p2, iter, [], 0⟩) (gs := [⟨.Name b p3, .Name a p4, [], 0⟩]) rfl (hs env) (comp_clos ok eo) ok.kind hnames (wpC_mono (h A env H as s E rm eo M l) (fun v s₁ qq => qq.out fun d O₁ H₁ as₁ hq M₁ D₁ R₁ => ?_) fun _ _ x => x)
  obtain ⟨uss, hi, hsz, hF⟩ := hq
  have l₁ := l.rel R₁
  refine iter_ rm M₁ hi D₁ fun I s₂ hI M₂ R₂ hk₂ h1 h2 hl hit _ => ?_
  have l₂ := l₁.rel R₂
  refine wpAny_newObj_type ?_ (by show ([] : List Value).toArray.size ≤ sizeLine; simp)
  have hDn := get?_size s₂.heap
  obtain ⟨M₃, R₃⟩ := M₂.same (s' := { s₂ with heap := s₂.heap.push (listO #[] 0) }) (fun b o e => Heap.get?_push_of_some _ e) rfl rfl
  have R₃ := R₃ []
  have l₃ := l₂.rel R₃
  have hit₃ := hit.rel R₃ h1 (by simp)
  obtain ⟨Y, eo', tok', loc', hkeep, hY, hYt, hslot, hLY⟩ := comp_env ok eo M₃ l₃
  refine newCompEnv (env := env) ?_
  have RR₃ := (R₁.trans R₂).trans R₃
  obtain ⟨M₄, R₄⟩ := M₃.same (s' := { s₂ with heap := pushCells ((s₂.heap.push (listO #[] 0)).push { cls := .type "dict", data := .dict #[] }) scope.names }) hkeep rfl rfl
  have R₄ := R₄ []
  have hsI : s.heap.get? I = none := R₁.back hI
  have hsD : s.heap.get? s₂.heap.objs.size = none := R₁.back (R₂.back hDn)
  have hsY : ∀ a ∈ Y, s.heap.get? a = none := fun a ha => RR₃.back (hY a ha)
  have hID : I ≠ s₂.heap.objs.size := by obtain ⟨o, e⟩ := hl; exact Nat.ne_of_lt (Heap.lt_size e)
  have live3 : ∀ a, Live s₂.heap a → ∀ b ∈ Y, a ≠ b := fun a ⟨o, e⟩ b hb q => by
    subst q
    have := hY a hb
    rw [Heap.get?_push_of_some _ e] at this; cases this
  have D3live : ({ s₂ with heap := s₂.heap.push (listO #[] 0) } : Shared).heap.get? s₂.heap.objs.size = some (listO #[] 0) := Heap.get?_push_size _ rfl
  have hDY : s₂.heap.objs.size ∉ Y := fun hm => by have := hY _ hm; rw [D3live] at this; cases this
  have hIY : I ∉ Y := fun hm => live3 I hl I hm rfl
  generalize hcenv : compEnv' (relabel scope env) (cellsFrom ((s₂.heap.push (listO #[] 0)).objs.size + 1) scope.names (closL env.cells scope.names [])) (s₂.heap.push (listO #[] 0)).objs.size env = cenv at eo' loc' hYt hslot hLY
  have notSlot : ∀ a, a ∉ Y → s.heap.get? a = none → a ∈ slots cenv → False := fun a hnY hn q => by
    rcases hslot a q with h | h
    · exact hnY h
    · obtain ⟨_, _, o, e⟩ := l.off a h
      rw [hn] at e; cases e
  have D1 : s₂.heap.objs.size ∉ as₁ := fun hm => (M₂.live _ hm).not_none hDn
  have D2 : H₁ s₂.heap.objs.size = none := M₂.fresh_none hDn
  have hLc : s.heap.get? (s₂.heap.push (listO #[] 0)).objs.size = none := RR₃.back (get?_size _)
  have nofree : ∀ x, scope.names.lookup x ≠ some .free → (capt scope.names ρ).lookup x = none := fun x hx => by
    cases q : (capt scope.names ρ).lookup x with
    | none => rfl
    | some d => exact absurd (capt_lookup q).1 hx
  let Y' := (slots cenv).filter fun c => decide (c ∈ Y)
  have memY' : ∀ c, c ∈ slots cenv → c ∈ Y → c ∈ Y' := fun c h1 h2 => List.mem_filter.mpr ⟨h1, by simpa using h2⟩
  have both : ∀ x, SlotIn cenv x Y → SlotIn cenv x Y' := fun x q =>
    ⟨fun h => memY' _ (SlotIn.all.1 h) (q.1 h), fun c h hc => memY' c (SlotIn.all.2 c h hc) (q.2 c h hc)⟩
  have loop := outer_code (C := C) (s₀ := s) (H₀ := H) (O := O₁) (ρ := capt scope.names ρ) (a := a) (b := b) (p1 := p1) (p2 := p2) (p3 := p3) (p4 := p4) (iter := iter) (scope := scope) (pos := pos) (I := I) (Da := s₂.heap.objs.size) (Y := Y') (acc := []) (vs := #[]) (k := 0)
    rm h0n eo' ha hb had hbd (nofree a hfa) (nofree b hfb) hab uss rfl M₄ loc' (hit₃.rel R₄ h1 (by simp)) hID hsI hsD (fun c hc => hsY c (by simpa using (List.mem_filter.mp hc).2)) h1 h2 (notSlot I hIY hsI) D1 D2 (notSlot _ hDY hsD)
    (fun c hc => (List.mem_filter.mp hc).1) (.name (both a hYt.of_pair.1)) (.name (both b hYt.of_pair.2)) (fun hm => hIY (by simpa using (List.mem_filter.mp hm).2)) (fun hm => hDY (by simpa using (List.mem_filter.mp hm).2))
    (RR₃.trans R₄) (hkeep _ _ D3live) .nil (by simpa using hsz)
  have done := codeC_mono (R' := fun r s' => compPostC (model C.prog C.w) A E none (After C A [] H as s Φ) (.ref s₂.heap.objs.size) (s₂.heap.push (listO #[] 0)).objs.size r s') loop fun r s' hr => by
    cases r with
    | error e => exact hr.elim
    | ok f =>
      obtain ⟨H', vs', k', M', L', R', g', den', hn'⟩ := hr
      have M'' := M'.lay hn' D1 g' (by intro _ _ q; cases q)
      have R'' := R'.lay (o := listO vs' k') hn' hsD
      have hloc : cenv.locals = (s₂.heap.push (listO #[] 0)).objs.size := by rw [← hcenv]; rfl
      have hLoff := L'.off _ (List.mem_cons_self ..)
      rw [hloc] at hLoff
      have hLne : (s₂.heap.push (listO #[] 0)).objs.size ≠ s₂.heap.objs.size := by rw [Heap.size_push]; exact Nat.ne_of_gt (Nat.lt_succ_self _)
      refine ⟨_, by rw [← hloc]; exact L'.ns.choose_spec.1, fun h'' hs'' => ?_⟩
      have hHL : (H'.put s₂.heap.objs.size (listO vs' k')) (s₂.heap.push (listO #[] 0)).objs.size = none := by
        unfold PHeap.put
        rw [if_neg hLne]; exact hLoff.2.1
      refine ⟨_, O₁, _, as₁, hF, M''.touchA hHL hLoff.1 hs''.extBut (M.apart_new hLc), ?_, R''.touch hLc hs''.extBut⟩
      unfold DenD Den
      rw [List.nil_append] at den'
      exact ⟨_, vs', k', rfl, PHeap.put_self, DenL.mono (put_mono' hn') _ _ den'⟩
  subst hcenv
  exact codeC_compStart_list done (itself_ M₄ (hit₃.rel R₄ h1 (by simp)) done)
end
end Mine
end

section
set_option compiler.extract_closed false
set_option Elab.async false
set_option maxRecDepth 100000
set_option maxHeartbeats 4000000
set_option linter.unusedVariables false
namespace Mine
open PySem PySem.W PyProof.Rows PySem.Calls PySem.NumText
local macro_rules | `(tactic| walk_at "m.body") => `(tactic| ((conv => (arg 3; whnf)); (conv => (arg 6; whnf)); try dsimp only [List.zip_cons_cons, List.zip_nil_left]))
local macro_rules | `(tactic| walk_at "m.red") => `(tactic| try dsimp only [List.nil_append, List.cons_append, List.length_nil, List.length_cons, List.set_cons_zero, List.set_cons_succ, List.getD_cons_zero, List.getD_cons_succ])
local macro_rules | `(tactic| walk_at "e1") => `(tactic| first
  | (with_reducible show WPe ..); first | refine WPe_atom rfl ?_ | refine WPe_BinOp_a rfl rfl ?_ | refine WPe_Compare_a rfl rfl ?_ | refine WPe_item_a rfl rfl ?_ | refine WPe_Compare ?_ rfl | refine WPe_item trivial ?_ | with_reducible (first | apply WPe_BinOp | apply WPe_UnaryOp | apply WPe_slice)
  | (with_reducible show WPl ..); first | refine WPl_atoms rfl ?_ | refine WPl_cons ?_ trivial
  | (with_reducible show WPb ..); first | refine WPb_Compare_a rfl rfl ?_ | refine WPb_Compare ?_ rfl
  | (with_reducible show WPo ..); dsimp only [WPo]
  | with_reducible (first | apply WPk_nil | apply WPk_cons))
local macro_rules | `(tactic| walk_at "m1") => `(tactic| first
  | walk_at "e1"
  | with_reducible apply WPs_nil
  | (with_reducible apply WPs_cons); first
      | refine WPx_Assign (nameOk_of rfl) ?_ fun _ _ => rfl
      | refine WPx_Expr ?_ fun _ _ => rfl
      | with_reducible (first | apply WPx_If | apply WPx_Return))
local macro_rules | `(tactic| walk_at "m") => `(tactic| repeat (walk_at "m1"; try walk_at "m.red"))
local macro_rules | `(tactic| walk_at "e") => `(tactic| repeat (walk_at "e1"; try walk_at "m.red"))
local macro_rules | `(tactic| walk_at "asg") => `(tactic| (refine WPs_cons ?_; refine WPx_Assign (nameOk_of rfl) ?_ fun _ _ => rfl; walk_at "e"))

section
noncomputable abbrev PW : Program := PySem.Challenge.pw_wn0033_02


theorem con_cv {C : Cx} {a pt tb} (W : CvW C PW a pt tb) {x : Str} (hx : TextOk x) {n : Nat} {O : List Ob} (hO : noDicts O) : Con C (n + 3) (.ref a) O [.val (.str x)] [] fun d O' => RetD O O' d fun t => t = .list (keyT x) := by
  refine Con_fn ["version"] W.df hO (by simp) rfl (by decide +kernel) (fun pm cd doc => vs1 fun _ => rfl) ?_
  intro Ψr hΨr
  walk_at "m.body"
  refine WPs_cons (WPx_Assign (.inl rfl) (WPe_glob W.gpat rfl ?_ rfl) (by intro env eo; rfl))
  walk_at "m.red"
  refine WPs_cons (WPx_Assign (.inl rfl) (WPe_ListOwn (WPl_nil ⟨rfl, [], rfl, ?_⟩)) (by intro env eo; rfl))
  walk_at "m.red"
  refine WPs_cons (WPx_For (.name (nameOk_of rfl)) ?_ (fun _ _ => rfl) (Nat.succ_pos _))
  refine WPe_CallM (fun _ _ => rfl) (ns_of rfl) (by decide) rfl plainAttrs_rePattern slot_split type_split ?_
  walk_at "m"
  refine ⟨tyPat W.pat, ?_⟩
  walk_at "m"
  refine ConB.con (F_split W.pat (by have := hx.short; (exact Nat.le_trans this (Nat.le_add_left _ _))) ?_)
  refine ⟨_, _, rfl, rfl, ?_⟩
  refine ForP_map (σ := List T) T.str (fun r => [("result", .ref 0), ("component_re", .val (.static (.ref pt))), ("version", .val (.str x))]) (fun r => [.list r]) (fun vs r => r ++ vs.flatMap partT = keyT x ∧ ∀ v ∈ vs, v ∈ splitS x) 1 (fun _ => rfl) (fun _ => rfl) ?_ ?_ _ [] _ ?_ ?_
  · rintro v vs r ⟨hr, hs⟩
    have hvo := hx.piece (hs v (List.mem_cons_self ..))
    have hlen : r.length ≤ 2600 := by
      have := congrArg List.length hr
      have := keyT_few hx
      simp at *; (first | exact Nat.le_trans (Nat.le_trans (Nat.le_add_right _ _) (Nat.le_of_eq this)) (by assumption) | lia)
    refine ⟨_, .name, fun Ψl hΨl => ?_⟩
    walk_at "m"
    refine C_notInS ?_
    refine ⟨_, rfl, ?_⟩
    split
    · rename_i hb
      have hb' : inSigns v = false := by unfold inSigns; rw [Bool.not_eq_false']; exact hb
      cases hi : PySem.intText? v with
      | none =>
        have hp : partT v = [.int (stage v), .str v] := by unfold partT; rw [hb', hi]; rfl
        obtain ⟨f, hf1, hf2⟩ := W.tab
        obtain ⟨ot, ht1, ht2, ht3⟩ := W.tabAt
        refine WPs_cons (WPx_TryCatch (X := "ValueError") (T' := "ValueError") (WPxr_Assign (WPer_CallB (.inr ⟨_, rfl⟩) (ns_of rfl) (WPe_builtin W.int.1 W.int.2 rfl ⟨rfl, ?_⟩ rfl)) (by intro env eo; rfl)) rfl W.ve.1 W.ve.2 (by rw [isSubtype_type]; kernel_rfl) (by first | (rw [isSubtype_type]; kernel_rfl) | kernel_rfl) (by rw [isSubtype_type]; kernel_rfl) ?_ rfl)
        · walk_at "m"
          exact ⟨rfl, R_int10 (Nat.le_trans (seen_length v) (by have := hvo.short; show v.cps.size ≤ 640; (exact Nat.le_trans this (Nat.le_add_left _ _)))) hi (by have h1 := StrLaws.reprText_len v hvo.signs; have h2 := hvo.short; have h3 : v.length = v.cps.size := rfl; (first | exact zLe (Nat.le_trans h1 (Nat.add_le_add_right (Nat.mul_le_mul_left 10 (zEq h3 h2)) 2)) rfl | lia)) (Nat.succ_pos _)⟩
        · walk_at "m"
          refine WPe_CallM (fun _ _ => rfl) (ns_of rfl) (by decide) rfl F.plainAttrs_dict F.slot_dict_get F.type_dict_get (WPe_glob W.gtab rfl ⟨tyDictB ht1 ht2 ht3, ?_⟩ rfl)
          walk_at "m"
          refine ConB.con (F_getStr hf1 W.tabNe (hf2 v) ?_)
          walk_at "m"
          refine WPe_CallM (fun _ _ => rfl) (ns_of rfl) (by decide) rfl F.plainAttrs_list F.slot_list_extend F.type_list_extend ?_
          walk_at "m"
          refine ⟨tyList rfl, ?_⟩
          refine WPl_cons (WPe_Tuple ?_) trivial
          walk_at "m"
          refine ⟨rfl, _, rfl, ?_⟩
          walk_at "m"
          refine ConB.con (F_extendT rfl (by rw [sizeLine_eq]; simp; (exact Nat.le_trans hlen (Nat.le_add_left _ _))) ?_)
          walk_at "m"
          refine ⟨rfl, ?_⟩
          walk_at "m"
          refine (hΨl _ _ ?_).1
          refine ⟨r ++ [.int (stage v), .str v], [], ⟨?_, fun u hu => hs u (List.mem_cons_of_mem _ hu)⟩, ?_, rfl⟩
          · rw [List.flatMap_cons, hp] at hr; rw [List.append_assoc]; exact hr
          · exact Sub.cons rfl (Sub.cons rfl (Sub.cons rfl Sub.nil))
      | some i =>
        have hp : partT v = [.int 100, .int i] := by unfold partT; rw [hb', hi]; rfl
        refine WPs_cons (WPx_TryCalm ?_)
        walk_at "m"
        refine WPe_CallB (.inr ⟨_, rfl⟩) (ns_of rfl) (WPe_builtin W.int.1 W.int.2 rfl ⟨rfl, ?_⟩ rfl)
        walk_at "m"
        refine ConB.con (F_int10 (Nat.le_trans (seen_length v) (by have := hvo.short; show v.cps.size ≤ 640; (exact Nat.le_trans this (Nat.le_add_left _ _)))) hi ?_)
        walk_at "m"
        refine WPe_CallM (fun _ _ => rfl) (ns_of rfl) (by decide) rfl F.plainAttrs_list F.slot_list_extend F.type_list_extend ?_
        walk_at "m"
        refine ⟨tyList rfl, ?_⟩
        refine WPl_cons (WPe_Tuple ?_) trivial
        walk_at "m"
        refine ⟨rfl, _, rfl, ?_⟩
        walk_at "m"
        refine ConB.con (F_extendT rfl (by rw [sizeLine_eq]; simp; (exact Nat.le_trans hlen (Nat.le_add_left _ _))) ?_)
        walk_at "m"
        refine ⟨rfl, ?_⟩
        walk_at "m"
        refine (hΨl _ _ ?_).1
        refine ⟨r ++ [.int 100, .int i], [], ⟨?_, fun u hu => hs u (List.mem_cons_of_mem _ hu)⟩, ?_, rfl⟩
        · rw [List.flatMap_cons, hp] at hr; rw [List.append_assoc]; exact hr
        · exact Sub.cons rfl (Sub.cons rfl (Sub.cons rfl Sub.nil))
    · rename_i hb
      have hb' : inSigns v = true := by unfold inSigns; rw [Bool.not_eq_true']; exact Bool.eq_false_iff.mpr hb
      have hp : partT v = [] := by unfold partT; rw [hb']; rfl
      walk_at "m"
      refine (hΨl _ _ ?_).1
      refine ⟨r, [], ⟨?_, fun u hu => hs u (List.mem_cons_of_mem _ hu)⟩, ?_, rfl⟩
      · rw [List.flatMap_cons, hp] at hr; exact hr
      · exact Sub.cons rfl (Sub.cons rfl (Sub.cons rfl Sub.nil))
  · rintro r ρ ⟨hr, hs⟩ hsub
    rw [List.flatMap_nil, List.append_nil] at hr
    subst hr
    refine WPs.sub (WPs_freeze (i := 0) rfl ?_) hsub
    walk_at "m"
    exact hΨr _ _ rfl
  · exact ⟨rfl, fun v hv => hv⟩
  · exact Sub.cons rfl (Sub.cons rfl (Sub.cons rfl Sub.nil))
end

section
structure BisD (C : Cx) (dt kd : Addr) : Prop where
  tup : ∃ o t k, C.B.get? dt = some o ∧ o.data = .seq #[.int 0 t, .none] k
  kw : ∃ m, C.B.Ns kd m ∧ m "key" = some .none
structure KeyAt (C : Cx) (n : Nat) (ka : Addr) (ok : T → Prop) (kf : T → T) : Prop where
  fn : ∃ fd body, FnOk C ka fd body
  con : ∀ t, ok t → ∀ O, noDicts O → Con C n (.ref ka) O [.val t] [] fun d O' => RetD O O' d fun u => u = kf t
structure BisW (C : Cx) (p : Program) (bi ins dt kd dt' kd' : Addr) : Prop where
  bi : DefAt C p "bisect_left" bi (.ref dt) (.ref kd)
  ins : DefAt C p "insort_left" ins (.ref dt') (.ref kd')
  d1 : BisD C dt kd
  d2 : BisD C dt' kd'
  len : Bi C "len" (.builtin "len")
noncomputable def BisTo (kf : T → T) (x : T) (ts : List T) (lo hi p : Nat) : Prop :=
  lo ≤ p ∧ p ≤ hi ∧ (∀ i t, lo ≤ i → i < p → ts[i]? = some t → ltT (kf t) x = true) ∧ (∀ i t, p ≤ i → i < hi → ts[i]? = some t → ltT (kf t) x = false)
noncomputable def Rises (kf : T → T) (x : T) (ts : List T) (lo hi : Nat) : Prop :=
  ∀ i j t u, lo ≤ i → i ≤ j → j < hi → ts[i]? = some t → ts[j]? = some u → ltT (kf u) x = true → ltT (kf t) x = true
noncomputable def CmpOk (kf : T → T) (x : T) (ts : List T) : Prop := datT x = true ∧ ∀ t ∈ ts, datT (kf t) = true ∧ cmpT (kf t) x = true ∧ depT (kf t) ≤ 60
section
variable {C : Cx} {A : Around} {H : PHeap} {as : List Addr} {O : List Ob} {s : Shared}
noncomputable def bisXs : List Str := ["a", "x", "lo", "hi", "key"]
theorem bind_b3 {pm cd doc : Value} {dt kd} (W : BisD C dt kd) (M : Mem C A H as O s) (va vx vl vh vk : Value) : BindsTo s (fdOf PW "bisect_left" pm cd doc (.ref dt) (.ref kd)) ⟨[va, vx, vl, vh], [("key", vk)]⟩ (bisXs.zip [va, vx, vl, vh, vk]) := by
  obtain ⟨o, t, k, h1, h2⟩ := W.tup
  exact BindsTo.of_defaults rfl (M.keepB _ _ h1) h2 rfl rfl
theorem bind_i3 {pm cd doc : Value} {dt kd} (W : BisD C dt kd) (M : Mem C A H as O s) (va vx vl vh vk : Value) : BindsTo s (fdOf PW "insort_left" pm cd doc (.ref dt) (.ref kd)) ⟨[va, vx, vl, vh], [("key", vk)]⟩ (bisXs.zip [va, vx, vl, vh, vk]) := by
  obtain ⟨o, t, k, h1, h2⟩ := W.tup
  exact BindsTo.of_defaults rfl (M.keepB _ _ h1) h2 rfl rfl
theorem bind_b2 {pm cd doc : Value} {dt kd} (W : BisD C dt kd) (M : Mem C A H as O s) (va vx vk : Value) : ∃ t, BindsTo s (fdOf PW "insort_left" pm cd doc (.ref dt) (.ref kd)) ⟨[va, vx], [("key", vk)]⟩ (bisXs.zip [va, vx, .int 0 t, .none, vk]) := by
  obtain ⟨o, t, k, h1, h2⟩ := W.tup
  exact ⟨t, BindsTo.of_defaults rfl (M.keepB _ _ h1) h2 rfl rfl⟩


noncomputable abbrev bisV (ka : Addr) (x : T) (l h : Nat) : Vars := [("a", .ref 0), ("x", .val x), ("lo", .val (.int l)), ("hi", .val (.int h)), ("key", .val (.static (.ref ka)))]
theorem con_bis {n : Nat} {bi ins dt kd dt' kd' ka : Addr} {ok kf} (W : BisW C PW bi ins dt kd dt' kd') (K : KeyAt C n ka ok kf) (h0n : 0 < n) {ts : List T} {x : T} {lo hi : Nat} {hiD : D} (hhd : (hiD = .val .none ∧ hi = ts.length) ∨ hiD = .val (.int hi))
    (hlh : lo ≤ hi) (hhi : hi ≤ ts.length) (hsz : ts.length ≤ sizeLine) (hok : ∀ t ∈ ts, ok t) (hc : CmpOk kf x ts) (hr : Rises kf x ts lo hi) :
    Con C (n + 1) (.ref bi) [.list ts] [.ref 0, .val x, .val (.int lo), hiD] [("key", .val (.static (.ref ka)))] fun d O' => ∃ p : Nat, d = .val (.int p) ∧ O' = [.list ts] ∧ BisTo kf x ts lo hi p := by
  refine Con_at W.bi (ρ₀ := bisXs.zip [.ref 0, .val x, .val (.int lo), hiD, .val (.static (.ref ka))]) (by show textOkB PW "bisect_left" bisXs = true; decide +kernel) (fun pm cd doc A H as s vs kvs M h1 h2 h3 => ?_) ?_
  · obtain ⟨va, vx, vl, vh, rfl, q1, q2, q3, q4⟩ := dens4 h1
    obtain ⟨vk, rfl, q5⟩ := kw1 h2 h3
    exact ⟨_, bind_b3 W.d1 M va vx vl vh vk, .of rfl ⟨q1, q2, q3, q4, q5, trivial⟩⟩
  · walk_at "m.body"
    dsimp only [bisXs, List.zip_cons_cons, List.zip_nil_left]
    walk_at "m"
    refine C_ltI (.neg (by simp) ?_)
    refine WPs_nil ?_
    walk_at "m.red"
    refine WPs_seq (bisXs.zip [.ref 0, .val x, .val (.int lo), .val (.int hi), .val (.static (.ref ka))]) [.list ts] ?_ ?_
    · refine WPx_If ?_
      walk_at "m"
      rcases hhd with ⟨e, e2⟩ | e
      · subst e
        refine C_isNone (by intro u q; cases q) (.pos (by rfl) ?_)
        walk_at "m"
        refine WPe_CallB (.inl ⟨_, rfl⟩) (ns_of rfl) (WPe_builtin W.len.1 W.len.2 rfl ⟨rfl, ?_⟩ rfl)
        walk_at "m"
        refine ConB.con (F_len rfl (by rw [sizeLine_eq] at hsz; (exact Nat.lt_of_le_of_lt hsz (by decide))) ?_)
        walk_at "m"
        refine ⟨?_, rfl⟩
        rw [e2]
        exact Sub.cons rfl (Sub.cons rfl (Sub.cons rfl (Sub.cons rfl (Sub.cons rfl Sub.nil))))
      · subst e
        refine C_isNone (by intro u q; cases q) (.neg (by simp [isNoneD]) ?_)
        walk_at "m"
        exact ⟨Sub.refl, rfl⟩
    · dsimp only [bisXs, List.zip_cons_cons, List.zip_nil_left]
      walk_at "m"
      refine C_isNone (by intro u q; cases q; simp) (.neg (by simp [isNoneD]) ?_)
      refine WPs_cons (WPx_While (k := hi - lo) (fun k ρ O => ∃ l h : Nat, ρ = ([("a", .ref 0), ("x", .val x), ("lo", .val (.int l)), ("hi", .val (.int h)), ("key", .val (.static (.ref ka)))] : Vars) ∧ O = [.list ts] ∧ k = h - l ∧ lo ≤ l ∧ l ≤ h ∧ h ≤ hi ∧
          (∀ i t, lo ≤ i → i < l → ts[i]? = some t → ltT (kf t) x = true) ∧ (∀ i t, h ≤ i → i < hi → ts[i]? = some t → ltT (kf t) x = false)) ⟨_, Sub.refl, lo, hi, rfl, rfl, rfl, Nat.le_refl _, hlh, Nat.le_refl _, fun i t h1 h2 => by lia, fun i t h1 h2 => by lia⟩ ?_)
      rintro k ρ O ⟨l, h, rfl, rfl, rfl, q1, q2, q3, q4, q5⟩
      walk_at "m"
      refine C_ltI ⟨_, rfl, ?_⟩
      by_cases hlt : l < h
      · rw [if_pos (by simpa using hlt)]
        walk_at "m"
        refine B_add ?_
        walk_at "m"
        refine B_floordiv (by decide) (by decide) ?_
        have emid : Int.fdiv ((l : Int) + (h : Int)) 2 = (((l + h) / 2 : Nat) : Int) := by
          rw [Int.fdiv_eq_ediv_of_nonneg _ (by decide)]; rfl
        rw [emid]
        have hm1 : l ≤ (l + h) / 2 := by (first | exact z40 hlt | lia)
        have hm2 : (l + h) / 2 < h := by (first | exact z28 hlt | lia)
        generalize (l + h) / 2 = mid at hm1 hm2
        obtain ⟨t, ht⟩ : ∃ t, ts[mid]? = some t := ⟨ts[mid]'(by (first | exact Nat.lt_of_lt_of_le hm2 (Nat.le_trans q3 hhi) | lia)), List.getElem?_eq_getElem (by (first | exact Nat.lt_of_lt_of_le hm2 (Nat.le_trans q3 hhi) | lia))⟩
        have htm : t ∈ ts := List.mem_of_getElem? ht
        obtain ⟨fd, body, Fk⟩ := K.fn
        walk_at "m"
        refine WPe_Call Fk (ns_of rfl) (by decide) ?_
        walk_at "m"
        refine ⟨rfl, ?_⟩
        walk_at "m"
        refine ⟨ts, mid, t, rfl, rfl, by (first | exact Int.natCast_nonneg _ | lia), by rw [sizeLine_eq] at hsz; (first | exact z63 (Nat.le_trans (Nat.le_of_lt hm2) (Nat.le_trans q3 (Nat.le_trans hhi hsz))) rfl | lia), by simpa using ht, ?_⟩
        walk_at "m"
        refine ⟨rfl, (K.con t (hok t htm) [.list ts] ⟨trivial, trivial⟩).retE ?_⟩
        walk_at "m"
        obtain ⟨c1, c2, c3⟩ := hc.2 t htm
        refine C_lt c1 hc.1 c2 c3 ⟨_, rfl, ?_⟩
        cases hb : ltT (kf t) x with
        | true =>
          rw [if_pos rfl]
          walk_at "m"
          refine B_add ?_
          walk_at "m"
          refine ⟨h - (mid + 1), bisV ka x (mid + 1) h, by (first | exact Nat.sub_lt_sub_left hlt (Nat.lt_succ_of_le hm1) | omega), Sub.cons rfl (Sub.cons rfl (Sub.cons rfl (Sub.cons rfl (Sub.cons rfl Sub.nil)))), mid + 1, h, ?_, rfl, rfl, by (first | exact Nat.le_succ_of_le (Nat.le_trans q1 hm1) | lia), by (exact hm2), q3, ?_, q5⟩
          · rfl
          · intro i u hi1 hi2 hu
            exact hr i mid u t hi1 (by (exact Nat.le_of_lt_succ hi2)) (by (exact Nat.lt_of_lt_of_le hm2 q3)) hu ht hb
        | false =>
          rw [if_neg Bool.false_ne_true]
          walk_at "m"
          refine ⟨mid - l, bisV ka x l mid, by (first | exact om4 hm2 hlt | lia), Sub.cons rfl (Sub.cons rfl (Sub.cons rfl (Sub.cons rfl (Sub.cons rfl Sub.nil)))), l, mid, rfl, rfl, rfl, q1, by omega, by (exact Nat.le_of_lt (Nat.lt_of_lt_of_le hm2 q3)), q4, ?_⟩
          intro i u hi1 hi2 hu
          cases hlu : ltT (kf u) x with
          | false => rfl
          | true => rw [hr mid i t u (by (exact Nat.le_trans q1 hm1)) hi1 hi2 ht hu hlu] at hb; cases hb
      · rw [if_neg (by simpa using hlt)]
        walk_at "m"
        exact ⟨l, rfl, rfl, q1, by (exact Nat.le_trans q2 q3), q4, fun i t h1 h2 hu => q5 i t (by (first | exact Nat.le_trans (Nat.le_of_not_lt hlt) h1 | lia)) h2 hu⟩

theorem ins_body {n : Nat} {bi ins dt kd dt' kd' ka : Addr} {ok kf} (W : BisW C PW bi ins dt kd dt' kd') (K : KeyAt C n ka ok kf) (h0n : 0 < n) {ts : List T} {x : T} {lo hi : Nat} {hiD : D} (hhd : (hiD = .val .none ∧ hi = ts.length) ∨ hiD = .val (.int hi))
    (hlh : lo ≤ hi) (hhi : hi ≤ ts.length) (hsz : ts.length ≤ sizeLine) (hok : ∀ t ∈ ts, ok t) (hx : ok x) (hc : CmpOk kf (kf x) ts) (hr : Rises kf (kf x) ts lo hi) :
    WPs C (n + 1) (fnScope PW "insort_left").names (bisXs.zip [.ref 0, .val x, .val (.int lo), hiD, .val (.static (.ref ka))]) [.list ts] (fnBody PW "insort_left") fun o => ∃ p ρ, BisTo kf (kf x) ts lo hi p ∧ o = .next ρ [.list (insT ts p x)] := by
  walk_at "m.body"
  dsimp only [bisXs, List.zip_cons_cons, List.zip_nil_left]
  walk_at "m"
  refine C_isNone (by intro u q; cases q; simp) (.neg (by simp [isNoneD]) ?_)
  obtain ⟨fd, body, Fk⟩ := K.fn
  obtain ⟨fdb, bodyb, Fb⟩ := W.bi.fn (by decide +kernel)
  walk_at "m"
  refine WPe_Call Fb (ns_of rfl) (by decide) (WPe_glob W.bi.glob rfl ⟨rfl, ?_⟩ rfl)
  walk_at "m"
  refine WPe_Call Fk (ns_of rfl) (by decide) ?_
  walk_at "m"
  refine ⟨rfl, ?_⟩
  walk_at "m"
  refine ⟨rfl, ((K.con x hx [.list ts] ⟨trivial, trivial⟩).le (Nat.le_succ n)).retE ?_⟩
  walk_at "m"
  refine ⟨rfl, (con_bis W K h0n hhd hlh hhi hsz hok hc hr).mono ?_⟩
  rintro d O' ⟨p, rfl, rfl, hp⟩
  walk_at "m"
  refine WPe_CallM (fun _ _ => rfl) (ns_of rfl) (by decide) rfl F.plainAttrs_list F.slot_list_insert F.type_list_insert ?_
  walk_at "m"
  refine ⟨tyList rfl, ?_⟩
  walk_at "m"
  refine ConB.con (F_insert rfl (by (first | exact Int.natCast_nonneg _ | lia)) (by have := hp.2.1; (first | exact Int.ofNat_le.mpr (Nat.le_trans this hhi) | lia)) hsz ?_)
  walk_at "m"
  refine ⟨rfl, ?_⟩
  walk_at "m"
  exact ⟨p, _, hp, rfl⟩

theorem con_ins2 {n : Nat} {bi ins dt kd dt' kd' ka : Addr} {ok kf} (W : BisW C PW bi ins dt kd dt' kd') (K : KeyAt C n ka ok kf) (h0n : 0 < n) {ts : List T} {x : T}
    (hsz : ts.length ≤ sizeLine) (hok : ∀ t ∈ ts, ok t) (hx : ok x) (hc : CmpOk kf (kf x) ts) (hr : Rises kf (kf x) ts 0 ts.length) :
    Con C (n + 2) (.ref ins) [.list ts] [.ref 0, .val x] [("key", .val (.static (.ref ka)))] fun d O' => ∃ p : Nat, d = .val .none ∧ O' = [.list (insT ts p x)] ∧ BisTo kf (kf x) ts 0 ts.length p := by
  refine Con_at W.ins (ρ₀ := bisXs.zip [.ref 0, .val x, .val (.int (0 : Nat)), .val .none, .val (.static (.ref ka))]) (by show textOkB PW "insort_left" bisXs = true; decide +kernel) (fun pm cd doc A H as s vs kvs M h1 h2 h3 => ?_) ((ins_body W K h0n (.inl ⟨rfl, rfl⟩) (Nat.zero_le _) (Nat.le_refl _) hsz hok hx hc hr).mono ?_)
  · obtain ⟨va, vx, rfl, q1, q2⟩ := dens2 h1
    obtain ⟨vk, rfl, q5⟩ := kw1 h2 h3
    obtain ⟨t, hb⟩ := bind_b2 W.d2 M va vx vk
    exact ⟨_, hb, .of rfl ⟨q1, q2, isInt, isNone, q5, trivial⟩⟩
  · rintro o ⟨p, ρ, hp, rfl⟩
    exact ⟨p, rfl, rfl, hp⟩
theorem con_ins4 {n : Nat} {bi ins dt kd dt' kd' ka : Addr} {ok kf} (W : BisW C PW bi ins dt kd dt' kd') (K : KeyAt C n ka ok kf) (h0n : 0 < n) {ts : List T} {x : T} {lo hi : Nat}
    (hlh : lo ≤ hi) (hhi : hi ≤ ts.length) (hsz : ts.length ≤ sizeLine) (hok : ∀ t ∈ ts, ok t) (hx : ok x) (hc : CmpOk kf (kf x) ts) (hr : Rises kf (kf x) ts lo hi) :
    Con C (n + 2) (.ref ins) [.list ts] [.ref 0, .val x, .val (.int lo), .val (.int hi)] [("key", .val (.static (.ref ka)))] fun d O' => ∃ p : Nat, d = .val .none ∧ O' = [.list (insT ts p x)] ∧ BisTo kf (kf x) ts lo hi p := by
  refine Con_at W.ins (ρ₀ := bisXs.zip [.ref 0, .val x, .val (.int lo), .val (.int hi), .val (.static (.ref ka))]) (by show textOkB PW "insort_left" bisXs = true; decide +kernel) (fun pm cd doc A H as s vs kvs M h1 h2 h3 => ?_) ((ins_body W K h0n (.inr rfl) hlh hhi hsz hok hx hc hr).mono ?_)
  · obtain ⟨va, vx, vl, vh, rfl, q1, q2, q3, q4⟩ := dens4 h1
    obtain ⟨vk, rfl, q5⟩ := kw1 h2 h3
    exact ⟨_, bind_i3 W.d2 M va vx vl vh vk, .of rfl ⟨q1, q2, q3, q4, q5, trivial⟩⟩
  · rintro o ⟨p, ρ, hp, rfl⟩
    exact ⟨p, rfl, rfl, hp⟩
end
end

section
structure SubW (C : Cx) (p : Program) (a : Addr) : Prop where
  df : DefAt C p "_substitution_cost" a .none .none
  mc : ∃ t, C.mg "_MOVE_COST" = some (.int 2 t)
  cc : ∃ t, C.mg "_CASE_COST" = some (.int 1 t)
noncomputable def costT (x y : Str) : Int := if x == y then 0 else if Txt.lower x == Txt.lower y then 1 else 2
noncomputable def LowOk (x : Str) : Prop := Builtin.Str.tooLong (Txt.lower x).length = false

section
variable {C : Cx} {n : Nat}
theorem con_sub {a} (W : SubW C PW a) {x y : Str} (hx : LowOk x) (hy : LowOk y) {O : List Ob} (hO : noDicts O) : Con C (n + 1) (.ref a) O [.val (.str x), .val (.str y)] [] fun d O' => RetD O O' d fun t => t = .int (costT x y) := by
  refine Con_fn ["ch_a", "ch_b"] W.df hO (by simp) rfl (by decide +kernel) (fun pm cd doc => vs2 fun _ _ => rfl) ?_
  intro Ψr hΨr
  obtain ⟨tm, hm⟩ := W.mc
  obtain ⟨tc, hcc⟩ := W.cc
  walk_at "m.body"
  walk_at "m"
  refine C_eqS ⟨_, rfl, ?_⟩
  cases e1 : x == y with
  | true =>
    rw [if_pos rfl]
    walk_at "m"
    exact hΨr _ _ (by unfold costT; rw [e1]; rfl)
  | false =>
    rw [if_neg Bool.false_ne_true]
    refine WPs_nil ?_
    walk_at "m.red"
    walk_at "m"
    refine WPe_CallM (fun _ _ => rfl) (ns_of rfl) (by decide) rfl F.plainAttrs_str F.slot_str_lower F.type_str_lower ?_
    walk_at "m"
    refine ⟨tyStr, ?_⟩
    walk_at "m"
    refine ConB.con (F_lower hx ?_)
    walk_at "m"
    refine WPe_CallM (fun _ _ => rfl) (ns_of rfl) (by decide) rfl F.plainAttrs_str F.slot_str_lower F.type_str_lower ?_
    walk_at "m"
    refine ⟨tyStr, ?_⟩
    walk_at "m"
    refine ConB.con (F_lower hy ?_)
    refine C_eqS ⟨_, rfl, ?_⟩
    cases e2 : Txt.lower x == Txt.lower y with
    | true =>
      rw [if_pos rfl]
      walk_at "m"
      refine WPe_glob_int hcc rfl ?_ rfl
      exact hΨr _ _ (by unfold costT; rw [e1, e2]; rfl)
    | false =>
      rw [if_neg Bool.false_ne_true]
      refine WPs_nil ?_
      walk_at "m.red"
      walk_at "m"
      refine WPe_glob_int hm rfl ?_ rfl
      exact hΨr _ _ (by unfold costT; rw [e1, e2]; rfl)

noncomputable def headT : T → T
  | .list (t :: _) => t
  | t => t
theorem con_first {a} (W : DefAt C PW "_law_first" a .none .none) {t : T} {ts : List T} {O : List Ob} (hO : noDicts O) : Con C (n + 1) (.ref a) O [.val (.list (t :: ts))] [] fun d O' => RetD O O' d fun u => u = t := by
  refine Con_fn ["item"] W hO (by simp) rfl (by decide +kernel) (fun pm cd doc => vs1 fun _ => rfl) ?_
  intro Ψr hΨr
  walk_at "m.body"
  walk_at "m"
  exact ⟨_, 0, t, rfl, rfl, by decide, by decide, rfl, hΨr _ _ rfl⟩
theorem key_first {a} (W : DefAt C PW "_law_first" a .none .none) : KeyAt C (n + 1) a (fun t => ∃ u us, t = .list (u :: us)) headT :=
  ⟨W.fn (by decide +kernel), fun t ⟨u, us, e⟩ O hO => by subst e; exact con_first W hO⟩
noncomputable def keyV : T → T
  | .str x => .list (keyT x)
  | t => t
theorem key_cv {a pt tb} (W : CvW C PW a pt tb) : KeyAt C (n + 3) a (fun t => ∃ x, t = .str x ∧ TextOk x) keyV :=
  ⟨W.df.fn (by decide +kernel), fun t ⟨x, e, hx⟩ O hO => by subst e; exact con_cv W hx hO⟩
end
end

section
structure Pr where
  r0 : Int
  w0 : Str
  r1 : Int
  w1 : Str
  deriving Inhabited
noncomputable def tabW : List Pr := [⟨0, "A", 20, "a"⟩, ⟨0, "ALPHA", 20, "alpha"⟩, ⟨0, "B", 30, "b"⟩, ⟨0, "BETA", 30, "beta"⟩, ⟨0, "C", 40, "c"⟩, ⟨0, "DEV", 10, "dev"⟩, ⟨50, "RC", 50, "rc"⟩, ⟨0, "P", 200, "p"⟩, ⟨0, "PL", 200, "pl"⟩, ⟨0, "X", 0, "x"⟩, ⟨0, "SS", 0, "ss"⟩, ⟨0, "ß", 0, "ẞ"⟩]
noncomputable def Pr.t (p : Pr) : T := .list [.list [.int p.r0, .str p.w0], .list [.int p.r1, .str p.w1]]

section
variable {C : Cx} {n : Nat}
theorem bind_pairs (pm cd doc : Value) : bindArgs (fdOf PW "_law_pairs" pm cd doc .none .none) ⟨[], []⟩ = pure [] := rfl
theorem con_pairs {a} (W : DefAt C PW "_law_pairs" a .none .none) {O : List Ob} (hO : noDicts O) : Con C (n + 1) (.ref a) O [] [] fun d O' => d = .ref O.length ∧ O' = O ++ [.list (tabW.map Pr.t)] := by
  refine Con.frame0 hO (by simp) (by simp) ?_
  refine Con_plain (ds := []) [] W rfl (by decide +kernel) (fun pm cd doc => vs0 (bind_pairs pm cd doc)) ?_
  walk_at "m.body"
  refine WPs_cons ?_
  refine WPx_Return ?_
  walk_at "m.red"
  refine WPe_ListOwn ?_
  have step : ∀ {sc : Kinds} {ρ : Vars} {k1 k2 k3 k4 : Nat} {p1 p2 p3 p4 p5 p6 p7 : Pos} {i j : Int} {u v : Str} {Φ : D → List Ob → Prop}, Φ (.val (Pr.t ⟨i, u, j, v⟩)) [] →
      WPe C n sc ρ [] (.List [.List [.Constant (.int i) k1 p1, .Constant (.str u) k2 p2] p3, .List [.Constant (.int j) k3 p4, .Constant (.str v) k4 p5] p6] p7) Φ := by
    intro sc ρ k1 k2 k3 k4 p1 p2 p3 p4 p5 p6 p7 i j u v Φ h
    refine WPe_List ?_
    refine WPl_cons ?_ trivial
    refine WPe_List ?_
    walk_at "m"
    refine ⟨rfl, _, rfl, ?_⟩
    refine WPl_cons ?_ trivial
    refine WPe_List ?_
    walk_at "m"
    refine ⟨rfl, _, rfl, ?_⟩
    refine WPl_nil ?_
    exact ⟨rfl, _, rfl, h⟩
  iterate 12 (refine WPl_cons ?_ trivial; refine step ?_)
  refine WPl_nil ?_
  refine ⟨rfl, _, rfl, ?_⟩
  exact ⟨rfl, rfl⟩

theorem rangeT_length : ∀ (x c : Int) (n : Nat), (rangeT x c n).length = n
  | _, _, 0 => rfl
  | x, c, n + 1 => by simp [rangeT, rangeT_length (x + c) c n]
theorem itemsD_one {O : List Ob} {a b : Int} (h1 : -(2 ^ 62) ≤ a) (h2 : a < 2 ^ 62) (h3 : -(2 ^ 62) ≤ b) (h4 : b < 2 ^ 62) : itemsD O (.val (.range a b 1)) = some (rangeT a 1 (b - a).toNat) := by
  have e : Builtin.Range.rangeSize a b 1 = ((b - a).toNat : Nat) := by
    rw [rangeSize_one]; split <;> lia
  unfold itemsD
  dsimp only
  rw [if_pos ⟨small_one h1 h2 h3 h4, by rw [e]; exact Int.natCast_nonneg _⟩, e, Int.toNat_natCast]
theorem itemsD_range {O : List Ob} {a b : Nat} (h : b < 2 ^ 61) (hab : a ≤ b) : itemsD O (.val (.range a b 1)) = some (rangeT a 1 (b - a)) := by
  rw [itemsD_one (by (first | exact Int.le_trans (by decide) (Int.natCast_nonneg _) | lia)) (by (first | exact z62 (Nat.le_trans hab (Nat.le_of_lt h)) rfl | lia)) (by (first | exact Int.le_trans (by decide) (Int.natCast_nonneg _) | lia)) (by (first | exact z62 (Nat.le_of_lt h) rfl | lia))]
  congr 2
  (first | exact Int.toNat_sub _ _ | lia)
theorem rangeT_cons {t : T} {ts : List T} {x : Int} {m : Nat} (h : t :: ts = rangeT x 1 m) : t = .int x ∧ ∃ m', m = m' + 1 ∧ ts = rangeT (x + 1) 1 m' := by
  cases m with
  | zero => cases h
  | succ m => rw [rangeT] at h; cases h; exact ⟨rfl, m, rfl, rfl⟩
noncomputable def intsT (ns : List Int) : List T := ns.map T.int
theorem intsT_get {ns : List Int} {i : Nat} (h : i < ns.length) : (intsT ns)[i]? = some (.int (ns.getD i 0)) := by
  unfold intsT
  rw [List.getElem?_map, List.getElem?_eq_getElem h, List.getD_eq_getElem?_getD, List.getElem?_eq_getElem h]; rfl
theorem intsT_length {ns : List Int} : (intsT ns).length = ns.length := by unfold intsT; rw [List.length_map]
theorem intsT_set {ns : List Int} {i : Nat} {x : Int} : (intsT ns).set i (.int x) = intsT (ns.set i x) := by unfold intsT; rw [List.map_set]

theorem fmod_nat (k m : Nat) (hm : 0 < m) : Int.fmod (k : Int) (m : Int) = ((k % m : Nat) : Int) := by
  rw [Int.fmod_eq_emod_of_nonneg _ (by (first | exact Int.natCast_nonneg _ | lia))]; rfl
theorem con_cells {a} (W : DefAt C PW "_law_cells" a .none .none) (hlen : Bi C "len" (.builtin "len")) (hran : Bi C "range" (.type "range")) {O : List Ob} (hO : noDicts O) {ns : List Int} (hns : ns.length ≤ 63) :
    Con C (n + 2) (.ref a) O [.val (.list (intsT ns))] [] fun d O' => RetD O O' d fun t => ∃ cs : List Int, cs.length = 6 ∧ t = .list (intsT cs) := by
  refine Con_fn ["script"] W hO (by simp) rfl (by decide +kernel) (fun pm cd doc => vs1 fun _ => rfl) ?_
  intro Ψr hΨr
  walk_at "m.body"
  refine WPs_cons ?_
  refine WPx_Assign (nameOk_of rfl) ?_ (by intro env eo; rfl)
  refine WPe_ListOwn ?_
  walk_at "m"
  refine ⟨rfl, _, rfl, ?_⟩
  walk_at "m.red"
  refine WPs_cons ?_
  refine WPx_For (.name (nameOk_of rfl)) ?_ (fun _ _ => rfl) (Nat.succ_pos _)
  refine WPe_CallB (.inr ⟨_, rfl⟩) (ns_of rfl) (WPe_builtin hran.1 hran.2 rfl ⟨rfl, ?_⟩ rfl)
  walk_at "m"
  refine WPe_CallB (.inl ⟨_, rfl⟩) (ns_of rfl) (WPe_builtin hlen.1 hlen.2 rfl ⟨rfl, ?_⟩ rfl)
  walk_at "m"
  refine ConB.con (F_len rfl (by rw [intsT_length]; (exact Nat.lt_of_le_of_lt hns (by decide))) ?_)
  walk_at "m"
  refine ConB.con (F_range1 ?_)
  rw [intsT_length]
  refine ⟨_, rangeT 0 1 ns.length, rfl, itemsD_range (a := 0) (by (exact Nat.lt_of_le_of_lt hns (by decide))) (by (exact Nat.le_add_left _ _)), ?_⟩
  refine ForP_rng (σ := List Int) (fun cs => [("cells", .ref 0), ("script", .val (.list (intsT ns)))]) (fun cs => [.list (intsT cs)]) (fun k m cs => cs.length = 6 ∧ k + m = ns.length) 1 (fun _ => rfl) (fun _ => rfl) ?_ ?_ 0 ns.length [4, 11, 60, 85, 47, 7530] _ ⟨rfl, by (exact Nat.add_comm _ _)⟩ (Sub.cons rfl (Sub.cons rfl Sub.nil))
  · rintro k m' cs ⟨h6, hkm⟩
    refine ⟨_, .name, fun Ψl hΨl => ?_⟩
    have e6 : Int.fmod (k : Int) 6 = ((k % 6 : Nat) : Int) := fmod_nat k 6 (by decide)
    have hk6 : k % 6 < cs.length := by (first | exact Nat.lt_of_lt_of_eq (Nat.mod_lt _ (Nat.succ_pos 5)) h6.symm | lia)
    refine WPs_cons ?_
    refine WPx_setL ?_ (by intro env eo; rfl)
    walk_at "m"
    refine B_mod (by decide) ?_
    rw [e6]
    refine ⟨_, _, _, rfl, rfl, by (first | exact Int.natCast_nonneg _ | lia), by (first | exact z63 (Nat.le_of_lt (Nat.mod_lt _ (Nat.succ_pos 5))) rfl | lia), by rw [Int.toNat_natCast]; exact intsT_get hk6, ?_⟩
    walk_at "m"
    refine ⟨_, _, _, rfl, rfl, by (first | exact Int.natCast_nonneg _ | lia), by (first | exact z63 (Nat.le_trans (Nat.le_of_lt (ltA hkm)) hns) rfl | lia), by rw [Int.toNat_natCast]; exact intsT_get (show k < ns.length by (exact ltA hkm)), ?_⟩
    refine B_add ?_
    walk_at "m"
    refine B_mod (by decide) ?_
    rw [e6]
    refine ⟨0, _, _, _, rfl, rfl, rfl, by (first | exact Int.natCast_nonneg _ | lia), by (first | exact z63 (Nat.le_of_lt (Nat.mod_lt _ (Nat.succ_pos 5))) rfl | lia), ?_, rfl, ?_⟩
    · rw [intsT_length, Int.toNat_natCast]; exact hk6
    walk_at "m"
    rw [intsT_set, Int.toNat_natCast]
    refine (hΨl _ _ ?_).1
    exact ⟨_, [], ⟨by rw [List.length_set]; exact h6, by (exact nxA hkm)⟩, Sub.cons rfl (Sub.cons rfl Sub.nil), rfl⟩
  · rintro _ cs ρ ⟨h6, _⟩ hsub
    refine WPs.sub (WPs_freeze (i := 0) rfl ?_) hsub
    walk_at "m"
    exact hΨr _ _ ⟨cs, h6, rfl⟩
end
end

section
section
variable {C : Cx} {n : Nat} {sc : Kinds} {ρ : Vars} {O : List Ob}

noncomputable def Pr.rank (p : Pr) (s : Nat) : Int := if s = 0 then p.r0 else p.r1
noncomputable def Pr.word (p : Pr) (s : Nat) : Str := if s = 0 then p.w0 else p.w1
theorem fmodN (a : Int) (m : Nat) (hm : 0 < m) : ∃ k : Nat, k < m ∧ Int.fmod a (m : Int) = k := by
  have h1 := Int.fmod_nonneg_of_pos a (b := (m : Int)) (by (first | exact Int.natCast_pos.mpr hm | lia))
  have h2 := Int.fmod_lt_of_pos a (b := (m : Int)) (by (first | exact Int.natCast_pos.mpr hm | lia))
  exact ⟨(Int.fmod a m).toNat, by (first | exact (Int.toNat_lt h1).mpr h2 | omega), by (first | exact Int.eq_natCast_toNat.mpr h1 | omega)⟩
theorem eraseIdx_mapL {α β : Type} (f : α → β) : ∀ (l : List α) (q : Nat), (l.map f).eraseIdx q = (l.eraseIdx q).map f
  | [], q => by simp
  | a :: l, 0 => by simp
  | a :: l, q + 1 => by simp [eraseIdx_mapL f l q]
theorem split_at {α : Type} {l : List α} {q : Nat} {a : α} (h : l[q]? = some a) : l = l.take q ++ a :: l.drop (q + 1) := by
  obtain ⟨h1, h2⟩ := List.getElem?_eq_some_iff.mp h
  rw [← h2, ← List.drop_eq_getElem_cons h1, List.take_append_drop]
noncomputable def insW {α : Type} (lt : α → α → Bool) (x : α) (xs : List α) : List α := xs.takeWhile (fun y => lt y x) ++ x :: xs.dropWhile (fun y => lt y x)
theorem take_while_at {α : Type} {p : α → Bool} : ∀ {xs : List α} {k : Nat}, k ≤ xs.length → (∀ i t, i < k → xs[i]? = some t → p t = true) → (∀ i t, k ≤ i → i < xs.length → xs[i]? = some t → p t = false) → xs.takeWhile p = xs.take k ∧ xs.dropWhile p = xs.drop k
  | [], k, hk, _, _ => by simp
  | x :: xs, 0, hk, h1, h2 => by
    have := h2 0 x (Nat.le_refl _) (by simp) (by simp)
    simp [this]
  | x :: xs, k + 1, hk, h1, h2 => by
    have h0 := h1 0 x (by (exact Nat.succ_pos _)) (by simp)
    obtain ⟨e1, e2⟩ := take_while_at (xs := xs) (k := k) (by simpa using hk) (fun i t hi ht => h1 (i + 1) t (by (exact Nat.lt_succ_of_le hi)) (by simpa using ht)) (fun i t hi hi2 ht => h2 (i + 1) t (by (exact Nat.succ_le_succ hi)) (by simp; omega) (by simpa using ht))
    simp [h0, e1, e2]
theorem insT_eq {kf : T → T} {x : T} {ts : List T} {p : Nat} (h : BisTo kf (kf x) ts 0 ts.length p) : insT ts p x = insW (fun a b => ltT (kf a) (kf b)) x ts := by
  obtain ⟨_, h1, h2, h3⟩ := h
  obtain ⟨e1, e2⟩ := take_while_at (p := fun y => ltT (kf y) (kf x)) h1 (fun i t hi ht => h2 i t (Nat.zero_le _) hi ht) (fun i t hi hi2 ht => h3 i t hi hi2 ht)
  unfold insW insT
  rw [e1, e2]
theorem insW_perm {α : Type} {lt : α → α → Bool} {x : α} {xs : List α} : (insW lt x xs).Perm (x :: xs) := by
  unfold insW
  refine List.perm_middle.trans ?_
  rw [List.takeWhile_append_dropWhile]
theorem insW_map {α β : Type} {lt : β → β → Bool} {f : α → β} {x : α} {xs : List α} : insW lt (f x) (xs.map f) = (insW (fun a b => lt (f a) (f b)) x xs).map f := by
  unfold insW
  rw [List.takeWhile_map, List.dropWhile_map, List.map_append, List.map_cons]
  rfl
noncomputable def UpBy (kf : T → T) (ts : List T) : Prop := ts.Pairwise fun a b => ltT (kf b) (kf a) = false
theorem UpBy.rises {kf : T → T} {ts : List T} {x : T} (h : UpBy kf ts) (hc : ∀ a ∈ ts, ∀ b ∈ ts, cmpT (kf a) (kf b) = true) (hx : ∀ a ∈ ts, cmpT (kf a) x = true) (lo hi : Nat) : Rises kf x ts lo hi := fun i j t u _ hij _ ht hu hl => by
  by_cases e : i = j
  · subst e; rw [ht] at hu; cases hu; exact hl
  · have hi2 := (List.getElem?_eq_some_iff.mp ht)
    have hj2 := (List.getElem?_eq_some_iff.mp hu)
    obtain ⟨i1, i2⟩ := hi2
    obtain ⟨j1, j2⟩ := hj2
    have hle := List.pairwise_iff_getElem.mp h i j i1 j1 (by (first | exact Nat.lt_of_le_of_ne hij e | lia))
    rw [i2, j2] at hle
    have mt : t ∈ ts := List.mem_of_getElem? ht
    have mu : u ∈ ts := List.mem_of_getElem? hu
    cases q : ltT (kf t) x with
    | true => rfl
    | false =>
      -- x ≤ t ≤ u, so not u < x
      have := leT_tr (a := x) (b := kf t) (d := kf u) (cmpT_comm _ _ (hx t mt)) (hc t mt u mu) (cmpT_comm _ _ (hx u mu)) q hle
      rw [this] at hl; cases hl
theorem call_ins {bi ins dt kd dt' kd' ka : Addr} {ok kf} (W : BisW C PW bi ins dt kd dt' kd') (K : KeyAt C n ka ok kf) (h0n : 0 < n) {O : List Ob} (hO : noDicts O) {i : Nat} {ts : List T} {x : T} (hi : O[i]? = some (.list ts))
    (hsz : ts.length ≤ sizeLine) (hok : ∀ t ∈ ts, ok t) (hx : ok x) (hd : ∀ t, ok t → datT (kf t) = true ∧ depT (kf t) ≤ 60) (hf : ∀ a, ok a → ∀ b, ok b → cmpT (kf a) (kf b) = true) (hup : UpBy kf ts) :
    Con C (n + 2) (.ref ins) O [.ref i, .val x] [("key", .val (.static (.ref ka)))] fun d O' => d = .val .none ∧ O' = O.set i (.list (insW (fun a b => ltT (kf a) (kf b)) x ts)) := by
  have h := con_ins2 W K h0n (ts := ts) (x := x) hsz hok hx ⟨(hd x hx).1, fun t ht => ⟨(hd t (hok t ht)).1, hf t (hok t ht) x hx, (hd t (hok t ht)).2⟩⟩
    (hup.rises (fun a ha b hb => hf a (hok a ha) b (hok b hb)) (fun a ha => hf a (hok a ha) x hx) 0 ts.length)
  refine Con.frame1 (ds := [.ref 0, .val x]) hO hi (by simp) (by simp) (h.mono ?_)
  rintro d O' ⟨p, rfl, rfl, hp⟩
  exact ⟨_, [], rfl, rfl, by rw [insT_eq hp, List.append_nil]⟩
noncomputable def compOkB (sc : Kinds) (scope : Scope) (xs : List Str) : Bool :=
  isFun scope.kind && nodupB (scope.names.map (·.1)) && scope.names.all (fun p => match p.2 with
    | .free => (match sc.lookup p.1 with | some .cell => true | _ => false)
    | _ => true) && xs.all (nameOkB scope.names)
theorem compOk_parts {sc scope xs} (h : compOkB sc scope xs = true) : scope.kind = .function ∧ (scope.names.map (·.1)).Nodup ∧ (∀ p ∈ scope.names, p.2 = .free → sc.lookup p.1 = some .cell) ∧ ∀ x ∈ xs, nameOk scope.names x := by
  unfold compOkB at h
  simp only [Bool.and_eq_true] at h
  obtain ⟨⟨⟨h1, h2⟩, h3⟩, h4⟩ := h
  refine ⟨isFun_of h1, nodup_of h2, fun p hp e => ?_, fun x hx => nameOk_of (List.all_eq_true.mp h4 x hx)⟩
  have := List.all_eq_true.mp h3 p hp
  rw [e] at this
  dsimp only at this
  split at this
  · assumption
  · cases this
theorem CompOk.name {sc scope x p} (h : compOkB sc scope [x] = true) : CompOk sc scope (.Name x p) := by
  obtain ⟨h1, h2, h3, h4⟩ := compOk_parts h
  exact ⟨h1, h2, h3, .name (h4 x (by simp))⟩
theorem CompOk.pair {sc scope x y p q k r} (h : compOkB sc scope [x, y] = true) : CompOk sc scope (.Tuple [.Name x p, .Name y q] k r) := by
  obtain ⟨h1, h2, h3, h4⟩ := compOk_parts h
  exact ⟨h1, h2, h3, .pair (h4 x (by simp)) (h4 y (by simp))⟩
noncomputable def Small (t : T) : Prop := (∃ i : Int, t = .int i ∧ i.natAbs ≤ 1000) ∨ ∃ x, t = .str x
noncomputable def strT : T → T
  | .int i => .str (Str.ofString (toString i))
  | t => t
theorem eqT_iff {t u : T} (hd : datT t = true) : eqT t u = true ↔ t = u := ⟨eqT_eq t u, fun h => h ▸ eqT_refl t hd⟩
theorem KeyAt.weaken {m ka} {ok ok' : T → Prop} {kf} (K : KeyAt C m ka ok kf) (h : ∀ t, ok' t → ok t) : KeyAt C m ka ok' kf := ⟨K.fn, fun t ht => K.con t (h t ht)⟩
theorem insW_congr {α : Type} {lt lt' : α → α → Bool} {x : α} : ∀ {xs : List α}, (∀ y ∈ xs, lt y x = lt' y x) → insW lt x xs = insW lt' x xs := fun {xs} h => by
  have h1 : ∀ {xs : List α}, (∀ y ∈ xs, lt y x = lt' y x) → xs.takeWhile (fun y => lt y x) = xs.takeWhile (fun y => lt' y x) ∧ xs.dropWhile (fun y => lt y x) = xs.dropWhile (fun y => lt' y x) := by
    intro xs
    induction xs with
    | nil => intro _; exact ⟨rfl, rfl⟩
    | cons y ys ih =>
      intro h
      obtain ⟨e1, e2⟩ := ih fun z hz => h z (List.mem_cons_of_mem _ hz)
      have e := h y (List.mem_cons_self ..)
      rw [List.takeWhile_cons, List.takeWhile_cons, List.dropWhile_cons, List.dropWhile_cons, e, e1, e2]
      exact ⟨rfl, rfl⟩
  unfold insW
  rw [(h1 h).1, (h1 h).2]
theorem insW_length {α : Type} {lt : α → α → Bool} {x : α} {xs : List α} : (insW lt x xs).length = xs.length + 1 := insW_perm.length_eq
theorem insT_between {kf : T → T} {x s e : T} {mid : List T} {p : Nat} (h : BisTo kf (kf x) (s :: (mid ++ [e])) 1 (mid.length + 1) p) : insT (s :: (mid ++ [e])) p x = s :: (insW (fun a b => ltT (kf a) (kf b)) x mid ++ [e]) := by
  obtain ⟨h0, h1, h2, h3⟩ := h
  obtain ⟨q, rfl⟩ : ∃ q, p = q + 1 := ⟨p - 1, by (first | exact (Nat.sub_add_cancel h0).symm | lia)⟩
  obtain ⟨e1, e2⟩ := take_while_at (xs := mid) (p := fun y => ltT (kf y) (kf x)) (k := q) (by (exact Nat.le_of_lt_succ h1)) (fun i t hi ht => h2 (i + 1) t (by (exact Nat.le_add_left _ _)) (by (exact Nat.lt_succ_of_le hi)) (by
      rw [List.getElem?_cons_succ, List.getElem?_append_left (by have := (List.getElem?_eq_some_iff.mp ht).1; exact this)]; exact ht))
    (fun i t hi hi2 ht => h3 (i + 1) t (by (exact Nat.succ_le_succ hi)) (by (exact Nat.lt_succ_of_le hi2)) (by rw [List.getElem?_cons_succ, List.getElem?_append_left hi2]; exact ht))
  unfold insT insW
  rw [e1, e2, List.take_succ_cons, List.drop_succ_cons, List.take_append_of_le_length (by (exact Nat.le_of_lt_succ h1)), List.drop_append_of_le_length (by (exact Nat.le_of_lt_succ h1))]
  simp
theorem strsT_map {α : Type} (f : α → Str) : ∀ l : List α, strsT (l.map fun a => .str (f a)) = some (l.map f)
  | [] => rfl
  | a :: l => by rw [List.map_cons, strsT, strsT_map f l]; rfl
theorem cmp_one {i : Int} {us : List T} (h : us = [] ∨ ∃ j r, us = .int j :: r) : cmpTs [.int i] us = true := by
  rcases h with rfl | ⟨j, r, rfl⟩
  · rfl
  · unfold cmpTs
    split
    · cases r <;> rfl
    · rfl
theorem rises_between {kf : T → T} {s e : T} {mid : List T} {x : T} (h : Rises kf x mid 0 mid.length) : Rises kf x (s :: (mid ++ [e])) 1 (mid.length + 1) := fun i j t u hi hij hj ht hu hl => by
  obtain ⟨i', rfl⟩ : ∃ i', i = i' + 1 := ⟨i - 1, by (first | exact (Nat.sub_add_cancel hi).symm | lia)⟩
  obtain ⟨j', rfl⟩ : ∃ j', j = j' + 1 := ⟨j - 1, by (first | exact (Nat.sub_add_cancel (Nat.le_trans (Nat.succ_le_succ (Nat.zero_le _)) hij)).symm | lia)⟩
  rw [List.getElem?_cons_succ, List.getElem?_append_left (by lia)] at ht hu
  exact h i' j' t u (by (exact Nat.le_add_left _ _)) (by (exact Nat.le_of_lt_succ hij)) (by lia) ht hu hl
theorem insW_up {α : Type} {lt : α → α → Bool} {P : α → Prop} (asym : ∀ a b, lt a b = true → lt b a = false) (tr : ∀ a b d, P a → P b → P d → lt b a = false → lt d b = false → lt d a = false) {x : α} (px : P x) :
    ∀ {xs : List α}, (∀ y ∈ xs, P y) → xs.Pairwise (fun a b => lt b a = false) → (insW lt x xs).Pairwise fun a b => lt b a = false
  | [], _, _ => by simp [insW]
  | y :: ys, hp, h => by
    obtain ⟨h1, h2⟩ := List.pairwise_cons.mp h
    cases hy : lt y x with
    | true =>
      have e : insW lt x (y :: ys) = y :: insW lt x ys := by simp [insW, hy]
      rw [e]
      refine List.pairwise_cons.mpr ⟨fun z hz => ?_, insW_up asym tr px (fun z hz => hp z (List.mem_cons_of_mem _ hz)) h2⟩
      rcases List.mem_cons.mp (insW_perm.mem_iff.mp hz) with rfl | hz
      · exact asym _ _ hy
      · exact h1 z hz
    | false =>
      have e : insW lt x (y :: ys) = x :: y :: ys := by simp [insW, hy]
      rw [e]
      refine List.pairwise_cons.mpr ⟨fun z hz => ?_, h⟩
      rcases List.mem_cons.mp hz with rfl | hz
      · exact hy
      · exact tr x y z px (hp y (List.mem_cons_self ..)) (hp z (List.mem_cons_of_mem _ hz)) hy (h1 z hz)
theorem leTs_tr {a b d : List T} (c1 : cmpTs a b = true) (c2 : cmpTs b d = true) (c3 : cmpTs a d = true) (h1 : ltTs b a = false) (h2 : ltTs d b = false) : ltTs d a = false := by
  have := leT_tr (a := .list a) (b := .list b) (d := .list d) (by rw [cmpT]; exact c1) (by rw [cmpT]; exact c2) (by rw [cmpT]; exact c3) (by rw [ltT]; exact h1) (by rw [ltT]; exact h2)
  rw [ltT] at this; exact this
theorem split_drop {α : Type} {l : List α} {k : Nat} {a : α} (h : l[k]? = some a) : l.drop k = a :: l.drop (k + 1) := by
  obtain ⟨h1, h2⟩ := List.getElem?_eq_some_iff.mp h
  rw [List.drop_eq_getElem_cons h1, h2]
theorem swaps_cell {sc : Kinds} {env : Env} {e gs scope cp x px l} (eo : EnvOk sc env) (h : sc.lookup x = some .cell) : swapsWith (.ListComp e gs scope cp) (some (.Name x px)) l env = pure false := by
  have hk : env.kindOf x = some .cell := by unfold Env.kindOf; rw [eo.names]; exact h
  unfold swapsWith
  dsimp only
  rw [hk]
  have : ((some NameKind.cell == some NameKind.local) = false) := rfl
  simp only [this, Bool.and_false, Bool.false_and]
theorem rangeT_map : ∀ (k m : Nat), rangeT k 1 m = (List.range' k m).map fun (i : Nat) => T.int (i : Int)
  | _, 0 => rfl
  | k, m + 1 => by rw [rangeT, List.range'_succ, List.map_cons, ← rangeT_map (k + 1) m]; rfl
theorem CompP_of {α : Type} {tgt elt} {Φ : D → List Ob → Prop} (g h : α → T) : ∀ (l : List α) (acc : List T), (∀ a ∈ l, BindP tgt (g a) ρ fun ρ₁ => WPe C n sc ρ₁ O elt fun d O' => O' = O ∧ d = .val (h a)) →
    Φ (.val (.list (acc ++ l.map h))) O → CompP C n sc tgt [] elt ρ O Φ (l.map g) acc
  | [], acc, hh, hΦ => by simpa [CompP] using hΦ
  | a :: l, acc, hh, hΦ => by
    obtain ⟨ρ₁, hb, hw⟩ := hh a (List.mem_cons_self ..)
    refine ⟨ρ₁, hb, ?_⟩
    show (if true = true then WPe C n sc ρ₁ O elt fun d O' => EltP O O' d fun t' => CompP C n sc tgt [] elt ρ O Φ (l.map g) (acc ++ [t']) else CompP C n sc tgt [] elt ρ O Φ (l.map g) acc)
    rw [if_pos rfl]
    refine hw.mono fun d O' ⟨e1, e2⟩ => ⟨e1, h a, e2, CompP_of g h l (acc ++ [h a]) (fun u hu => hh u (List.mem_cons_of_mem _ hu)) ?_⟩
    simpa using hΦ
theorem CompP_ofIf {α : Type} {tgt elt c} {Φ : D → List Ob → Prop} (g h : α → T) (p : α → Bool) : ∀ (l : List α) (acc : List T), (∀ a ∈ l, BindP tgt (g a) ρ fun ρ₁ => WPb C n sc ρ₁ O c (fun b O' => O' = O ∧ b = p a) ∧ (p a = true → WPe C n sc ρ₁ O elt fun d O' => O' = O ∧ d = .val (h a))) →
    Φ (.val (.list (acc ++ (l.filter p).map h))) O → CompP C n sc tgt [c] elt ρ O Φ (l.map g) acc
  | [], acc, hh, hΦ => by simpa [CompP] using hΦ
  | a :: l, acc, hh, hΦ => by
    obtain ⟨ρ₁, hb, hc, hw⟩ := hh a (List.mem_cons_self ..)
    refine ⟨ρ₁, hb, ?_⟩
    show WPb C n sc ρ₁ O c _
    refine hc.mono fun b O' ⟨e1, e2⟩ => ⟨e1, ?_⟩
    subst e2
    cases hp : p a with
    | false =>
      rw [if_neg Bool.false_ne_true]
      refine CompP_ofIf g h p l acc (fun u hu => hh u (List.mem_cons_of_mem _ hu)) ?_
      rw [List.filter_cons, if_neg (by simp [hp])] at hΦ
      exact hΦ
    | true =>
      rw [if_pos rfl]
      refine (hw hp).mono fun d O' ⟨e1, e2⟩ => ⟨e1, h a, e2, CompP_ofIf g h p l (acc ++ [h a]) (fun u hu => hh u (List.mem_cons_of_mem _ hu)) ?_⟩
      rw [List.filter_cons, if_pos hp] at hΦ
      simpa using hΦ
theorem swaps_local {sc : Kinds} {env : Env} {e gs scope cp x px l} (eo : EnvOk sc env) (h : sc.lookup x = some .local) (hl : (px.line == cp.line) = true) (hn : (scope.names.any fun (p : Str × NameKind) => p.1 == x && (p.2 == .local || p.2 == .cell)) = false) : swapsWith (.ListComp e gs scope cp) (some (.Name x px)) l env = pure true := by
  have hk : env.kindOf x = some .local := by unfold Env.kindOf; rw [eo.names]; exact h
  have hb : env.blockKind = .function := by unfold Env.blockKind; rw [eo.kind]; rfl
  unfold swapsWith
  dsimp only
  rw [hk, hb]
  have e1 : (px.line == (Expr.ListComp e gs scope cp).pos.line) = true := hl
  have e2 : (scope.names.any fun (n, k) => n == x && (k == .local || k == .cell)) = false := hn
  rw [e1, e2]
  rfl
theorem up_unique {xs ys : List T} (hf : Fam ys) (hp : xs.Perm ys) (hx : Up xs) (hy : Up ys) : xs = ys := by
  refine List.Perm.eq_of_pairwise (le := fun a b => ltT b a = false) (fun a b ha hb h1 h2 => ?_) hx hy hp
  exact eqT_eq a b (ltT_total a b (hf a (hp.mem_iff.mp ha) b hb) h2 h1)
theorem itemsD_range2 {O : List Ob} {a b : Nat} (h : b < 2 ^ 61) (ha : a < 2 ^ 61) : itemsD O (.val (.range a b 1)) = some (rangeT a 1 (b - a)) := by
  rw [itemsD_one (by (first | exact Int.le_trans (by decide) (Int.natCast_nonneg _) | lia)) (by (first | exact z62 (Nat.le_of_lt ha) rfl | lia)) (by (first | exact Int.le_trans (by decide) (Int.natCast_nonneg _) | lia)) (by (first | exact z62 (Nat.le_of_lt h) rfl | lia))]
  congr 2
  (first | exact Int.toNat_sub _ _ | lia)
end
end

section
theorem mpK {α β : Type} {f : α → β} {xs : List α} (h : xs.length ≤ 16777216) : (xs.map f).length ≤ sizeLine := by rw [List.length_map, sizeLine_eq]; exact h
theorem rgK {a c : Int} {m : Nat} (h : m ≤ 16777216) : (rangeT a c m).length ≤ sizeLine := by rw [rangeT_length, sizeLine_eq]; exact h
section
variable {C : Cx} {n : Nat} {sc : Kinds} {ρ : Vars} {O : List Ob} {Φ : D → List Ob → Prop}
theorem WPl.mono {es} {Φ Φ' : List D → List Ob → Prop} (h : WPl C n sc ρ O es Φ) (hi : ∀ ds O', Φ ds O' → Φ' ds O') : WPl C n sc ρ O es Φ' := fun A env H as s E pos rm eo M l =>
  wpC_mono (h A env H as s E pos rm eo M l) (fun vs s' qq => qq.out fun ds O' H' as' q M' D' R' => ⟨ds, O', H', as', hi _ _ q, M', D', R'⟩) fun _ _ x => x
theorem WPe_B1 {id p e pos fv} (hb : Bi C id fv) (hf : (∃ x, fv = .builtin x) ∨ ∃ x, fv = .type x) (hn : starB e = false) (hk : sc.lookup id = some .globalImplicit) (hd : (id == ("__debug__" : Str)) = false)
    (h : WPe C n sc ρ O e fun d O' => ConB C n fv O' [d] [] Φ) : WPe C n sc ρ O (.Call (.Name id p) [e] [] pos) Φ :=
  WPe_CallB hf ⟨notStar_of hn, trivial⟩ (WPe_builtin hb.1 hb.2 hk ⟨rfl, WPl_cons (h.mono fun d O' q => WPl_nil q.con) (notStar_of hn)⟩ hd)
inductive LenP (O : List Ob) (d : D) (P : Int → Prop) : Prop
  | intro (ts : List T) (h : listD O d = some ts) (l : ts.length < 2 ^ 62) (k : P ts.length)
theorem WPe_len (hlen : Bi C "len" (.builtin "len")) {p e pos} (hn : starB e = false) (hk : sc.lookup ("len" : Str) = some .globalImplicit) (h : WPe C n sc ρ O e fun d O' => LenP O' d fun i => Φ (.val (.int i)) O') :
    WPe C n sc ρ O (.Call (.Name "len" p) [e] [] pos) Φ := WPe_B1 hlen (.inl ⟨_, rfl⟩) hn hk rfl (h.mono fun d O' ⟨ts, q1, q2, q3⟩ => F_len q1 q2 q3)
inductive StrP (d : D) (P : T → Prop) : Prop
  | intro (t : T) (e : d = .val t) (s : Small t) (k : P (strT t))
theorem WPe_strT (hstr : Bi C "str" (.type "str")) {p e pos} (hn : starB e = false) (hk : sc.lookup ("str" : Str) = some .globalImplicit) (h : WPe C n sc ρ O e fun d O' => StrP d fun t => Φ (.val t) O') :
    WPe C n sc ρ O (.Call (.Name "str" p) [e] [] pos) Φ := WPe_B1 hstr (.inr ⟨_, rfl⟩) hn hk rfl (h.mono fun d O' ⟨t, e, q2, q3⟩ => by
      subst e
      rcases q2 with ⟨i, rfl, hi⟩ | ⟨x, rfl⟩
      · exact F_strI (Nat.lt_of_le_of_lt (Nat.log2_le_self _) (Nat.lt_of_le_of_lt hi (by decide))) q3
      · exact F_strS q3)
theorem WPe_Fn {p x a dV kV q args pos} (F : DefAt C p x a dV kV) (ok : textOkB p x [] = true) (hns : noStarsB args = true) (hk : sc.lookup x = some .globalImplicit) (hd : (x == ("__debug__" : Str)) = false)
    (h : WPl C n sc ρ O args fun ds O' => Con C n (.ref a) O' ds [] Φ) : WPe C n sc ρ O (.Call (.Name x q) args [] pos) Φ := by
  obtain ⟨fd, body, Fo⟩ := F.fn ok
  exact WPe_Call Fo (ns_of hns) rfl (WPe_glob F.glob hk ⟨rfl, h.mono fun ds O' q => WPk_nil ⟨rfl, q⟩⟩ hd)
inductive AppP (i : Nat) (d : D) (O' : List Ob) (P : List Ob → Prop) : Prop
  | intro (ts : List T) (t : T) (e : d = .val t) (hO : O'[i]? = some (.list ts)) (hs : ts.length ≤ sizeLine) (k : P (O'.set i (.list (ts ++ [t]))))
theorem WPx_append {id q ap e p1 p2 i ts₀} {Ψ : Out → Prop} (hx : ρ.lookup id = some (.ref i)) (hk : nameOk sc id) (hd : (id == ("__debug__" : Str)) = false) (hO : O[i]? = some (.list ts₀)) (hn : starB e = false) (hl : (ap.endLine == p1.line) = true)
    (hs : ∀ env : Env, EnvOk sc env → swapsWith (.Call (.Attribute (.Name id q) "append" ap) [e] [] p1) none p2.line env = pure false) (h : WPe C n sc ρ O e fun d O' => AppP i d O' fun O'' => Ψ (.next ρ O'')) :
    WPx C n sc ρ O (.Expr (.Call (.Attribute (.Name id q) "append" ap) [e] [] p1) p2) Ψ :=
  WPx_Expr (WPe_CallM (fun _ _ => rfl) ⟨notStar_of hn, trivial⟩ (by show 1 < 29; decide) hl F.plainAttrs_list F.slot_list_append F.type_list_append (WPe_var hx hk ⟨tyList (by show listD O (.ref i) = some ts₀; unfold listD; dsimp only; rw [hO]), WPl_cons (h.mono fun d O' ⟨ts, t, e, q1, q2, q3⟩ => by
    subst e
    exact WPl_nil (F_append q1 q2 ⟨rfl, q3⟩).con) (notStar_of hn)⟩ hd)) hs
theorem WPx_empty {x px p1 p2} {Ψ : Out → Prop} (hk : nameOk sc x) (hs : ∀ env : Env, EnvOk sc env → swapsWith (.List [] p1) (some (.Name x px)) p2.line env = pure false) (h : Ψ (.next ((x, .ref O.length) :: ρ) (O ++ [.list []]))) :
    WPx C n sc ρ O (.Assign [.Name x px] (.List [] p1) p2) Ψ := WPx_Assign hk (WPe_ListOwn (WPl_nil ⟨rfl, [], rfl, h⟩)) hs
inductive OwnP (Φ : T → Ob → Prop) (d : D) (O' : List Ob) : Prop
  | intro (t : T) (ob : Ob) (e : d = .val t) (e2 : O' = [ob]) (h : Φ t ob)
theorem Con_own {p x a ds ob} (xs : List Str) {Φ : T → Ob → Prop} (F : DefAt C p x a .none .none) (hl : xs.length = ds.length) (ok : textOkB p x xs = true)
    (hb : ∀ pm cd doc vs, vs.length = xs.length → bindArgs (fdOf p x pm cd doc .none .none) ⟨vs, []⟩ = pure (xs.zip vs))
    (h : ∀ Ψ : Out → Prop, (∀ t ob' g, Φ t ob' → Ψ (.ret (.val t) (ob' :: g))) → WPs C n (fnScope p x).names (xs.zip ds) [ob] (fnBody p x) Ψ) : Con C (n + 1) (.ref a) [ob] ds [] (OwnP Φ) :=
  Con.drop (Con_plain xs F hl ok hb (h _ fun t ob' g q => ⟨[ob'], g, rfl, rfl, rfl, t, ob', rfl, rfl, q⟩))
theorem Con.own1 {fv ob ds i} {P : T → Ob → Prop} (nd : noDicts O) (ho : O[i]? = some ob) (hv : ∀ d ∈ ds, (∃ t, d = .val t) ∨ d = .ref 0) (h : Con C n fv [ob] ds [] (OwnP P)) (k : ∀ t ob', P t ob' → Φ (.val t) (O.set i ob')) : Con C n fv O (ds.map (up1 0 i)) [] Φ :=
  Con.frame1 nd ho hv (by simp) (h.mono fun d O' ⟨t, ob', e, e2, q⟩ => ⟨ob', [], e2, by rw [e, List.append_nil]; exact k t ob' q⟩)
end
end

section
structure Four (ps : List Pr) : Prop where
  four : ps.length = 4
  from_ : ∃ rest, (ps ++ rest).Perm tabW
theorem perm_pop {N P : List Pr} {q : Nat} {p : Pr} (h : (N ++ P).Perm tabW) (hp : P[q]? = some p) : ((N ++ [p]) ++ P.eraseIdx q).Perm tabW := by
  refine List.Perm.trans ?_ h
  rw [List.append_assoc]
  refine List.Perm.append_left _ ?_
  rw [List.eraseIdx_eq_take_drop_succ]
  have e := split_at hp
  generalize P.take q = A1 at e ⊢
  generalize P.drop (q + 1) = A2 at e ⊢
  rw [e]
  show (p :: (A1 ++ A2)).Perm _
  exact List.perm_middle.symm
section
variable {C : Cx} {n : Nat}
theorem con_names {a ap} (W : DefAt C PW "_law_names" a .none .none) (Wp : DefAt C PW "_law_pairs" ap .none .none) (hlen : Bi C "len" (.builtin "len")) (hran : Bi C "range" (.type "range")) {O : List Ob} (hO : noDicts O) {draw : Int} :
    Con C (n + 3) (.ref a) O [.val (.int draw)] [] fun d O' => RetD O O' d fun t => ∃ ps, Four ps ∧ t = .list (ps.map Pr.t) := by
  refine Con_fn ["draw"] W hO (by simp) rfl (by decide +kernel) (fun pm cd doc => vs1 fun _ => rfl) ?_
  intro Ψr hΨr
  walk_at "m.body"
  refine WPs_cons ?_
  refine WPx_Assign (nameOk_of rfl) ?_ (fun _ _ => rfl)
  refine WPe_Fn Wp (by decide +kernel) rfl rfl rfl ?_
  refine WPl_nil ((con_pairs Wp (n := n + 1) (O := []) trivial).eqE ?_)
  walk_at "m.red"
  refine WPs_cons ?_
  refine WPx_empty (nameOk_of rfl) (fun _ _ => rfl) ?_
  walk_at "m.red"
  refine WPs_cons ?_
  refine WPx_For (.name (nameOk_of rfl)) ?_ (fun _ _ => rfl) (Nat.succ_pos _)
  refine WPe_B1 hran (.inr ⟨_, rfl⟩) rfl rfl rfl ?_
  walk_at "m"
  refine F_range1 ?_
  refine ⟨_, rangeT 0 1 4, rfl, itemsD_range (a := 0) (b := 4) (by decide) (by decide), ?_⟩
  refine ForP_st (σ := List Pr × List Pr × Int) (fun st => [("names", .ref 1), ("pairs", .ref 0), ("draw", .val (.int st.2.2))]) (fun st => [.list (st.1.map Pr.t), .list (st.2.1.map Pr.t)])
    (fun ts st => ∃ m : Nat, st.2.1.length + m = 4 ∧ ts = rangeT st.2.1.length 1 m ∧ (st.2.1 ++ st.1).Perm tabW) 2 (fun _ => rfl) (fun _ => rfl) ?_ ?_ _ (tabW, [], draw) _ ⟨4, rfl, rfl, List.Perm.refl _⟩ (Sub.cons rfl (Sub.cons rfl (Sub.cons rfl Sub.nil)))
  · rintro t ts ⟨P, N, dr⟩ ⟨m, hm, hts, hperm⟩
    obtain ⟨rfl, m', rfl, rfl⟩ := rangeT_cons hts
    dsimp only at hm hperm ⊢
    have hPl : P.length = 12 - N.length := by
      have h1 := hperm.length_eq
      have h2 : tabW.length = 12 := rfl
      rw [List.length_append, h2] at h1; (first | exact Nat.eq_sub_of_add_eq' h1 | lia)
    have hlP : (P.map Pr.t).length = P.length := List.length_map _
    obtain ⟨q, hq1, hq2⟩ := fmodN dr P.length (by (first | exact Nat.lt_of_lt_of_eq (Nat.sub_pos_of_lt (zLt (Nat.le_of_lt (ltA hm)) rfl)) hPl.symm | lia))
    obtain ⟨p, hp⟩ : ∃ p, P[q]? = some p := ⟨P[q], List.getElem?_eq_getElem hq1⟩
    refine ⟨_, .name, fun Ψl hΨl => ?_⟩
    walk_at "asg"
    refine WPe_len hlen rfl rfl ?_
    walk_at "e"
    refine ⟨_, rfl, by (first | exact zLt (zEq (hlP.trans hPl) (Nat.sub_le 12 _)) rfl | omega), ?_⟩
    rw [hlP]
    refine B_floordiv (by (first | exact fun ze => Nat.ne_zero_of_lt hq1 (Int.ofNat_inj.mp ze) | lia)) (by (first | exact zLt (zEq hPl (Nat.sub_le 12 _)) rfl | lia)) ?_
    refine WPs_cons ?_
    refine WPx_append rfl (nameOk_of rfl) rfl rfl rfl rfl (fun _ _ => rfl) ?_
    refine WPe_CallM (fun _ _ => rfl) (ns_of rfl) (by decide) rfl F.plainAttrs_list F.slot_list_pop F.type_list_pop ?_
    walk_at "e"
    refine ⟨tyList rfl, ?_⟩
    walk_at "e"
    refine WPe_len hlen rfl rfl ?_
    walk_at "e"
    refine ⟨_, rfl, by (first | exact zLt (zEq (hlP.trans hPl) (Nat.sub_le 12 _)) rfl | omega), ?_⟩
    rw [hlP]
    refine B_mod (by (first | exact fun ze => Nat.ne_zero_of_lt hq1 (Int.ofNat_inj.mp ze) | lia)) ?_
    rw [hq2]
    walk_at "e"
    refine ConB.con (F_pop (t := p.t) rfl (by (first | exact Int.natCast_nonneg _ | lia)) (by rw [Int.toNat_natCast, List.getElem?_map, hp]; rfl) (by rw [hlP, sizeLine_eq]; (first | exact zLe (zEq hPl (Nat.sub_le 12 _)) rfl | lia)) ?_)
    rw [Int.toNat_natCast, eraseIdx_mapL]
    refine ⟨N.map Pr.t, _, rfl, rfl, by rw [List.length_map, sizeLine_eq]; (first | exact zLe (Nat.le_of_lt (ltA hm)) rfl | lia), ?_⟩
    have happ : N.map Pr.t ++ [p.t] = (N ++ [p]).map Pr.t := by rw [List.map_append]; rfl
    rw [happ]
    walk_at "m.red"
    walk_at "m"
    refine (hΨl _ _ ?_).1
    exact ⟨(P.eraseIdx q, N ++ [p], _), [], ⟨m', by rw [List.length_append]; show N.length + 1 + m' = 4; (exact nxA hm), by rw [List.length_append]; rfl, perm_pop hperm hp⟩, Sub.cons rfl (Sub.cons rfl (Sub.cons rfl Sub.nil)), rfl⟩
  · rintro ⟨P, N, dr⟩ ρ ⟨m, hm, hts, hperm⟩ hsub
    refine WPs.sub ?_ hsub
    have hm0 : m = 0 := by cases m with
      | zero => rfl
      | succ m => cases hts
    refine WPs_freeze (i := 1) rfl ?_
    walk_at "m"
    exact hΨr _ _ ⟨N, ⟨by dsimp only at hm; (first | exact (congrArg (_ + ·) hm0).symm.trans hm | lia), P, hperm⟩, rfl⟩
end
end

section
noncomputable abbrev Lit := Nat × Nat
noncomputable abbrev Cl := List Lit
noncomputable abbrev Tri := Nat × Nat × Nat
structure Lev (ls : List Pr) : Prop where
  four : ls.length = 4
  tab : ∀ p ∈ ls, p ∈ tabW
  up : ls.Pairwise fun a b => ltTs [.int a.r1, .str a.w1] [.int b.r1, .str b.w1] = true
noncomputable def lv (ls : List Pr) (j : Nat) : Pr := ls.getD j default
noncomputable def wd (ls : List Pr) (l : Lit) : Str := (lv ls l.1).word l.2
noncomputable def clT (ls : List Pr) (c : Cl) : T := .list (c.map fun l => .str (wd ls l))
noncomputable def lvT (p : Pr) : T := .list [.int p.r1, .str p.w1]
noncomputable def cutC (j : Nat) (c : Cl) : Cl := c.filter fun l => l.1 != j
noncomputable def cut (j s : Nat) (rows : List Cl) : List Cl := (rows.filter fun c => !c.contains (j, s)).map (cutC j)
noncomputable def numS (e : Nat) : Str := Str.ofString (toString (e : Int))
noncomputable def markS (ls : List Pr) (t : Tri) : Str := (lv ls t.1).w1 ++ numS t.2.1 ++ Str.ofString "." ++ numS t.2.2
noncomputable def markT (ls : List Pr) (t : Tri) : List T := [.int (lv ls t.1).r1, .str (lv ls t.1).w1, .int 100, .int t.2.1, .int 100, .int t.2.2]
noncomputable def joinP (j : Nat) (a b : Nat) (es : List Tri) : Nat × List Tri :=
  if a = b then (a, es) else if (j, a, b) ∈ es then (8 + es.idxOf (j, a, b), es) else (8 + es.length, es ++ [(j, a, b)])
noncomputable def nodeP : Nat → List Cl → List Tri → Nat × List Tri
  | k, rows, es => if [] ∈ rows then (0, es) else if rows = [] then (1, es) else match k with
    | 0 => (0, es)
    | k + 1 => joinP (3 - k) (nodeP k (cut (3 - k) 0 rows) es).1 (nodeP k (cut (3 - k) 1 rows) (nodeP k (cut (3 - k) 0 rows) es).2).1 (nodeP k (cut (3 - k) 1 rows) (nodeP k (cut (3 - k) 0 rows) es).2).2
noncomputable abbrev En := Tri × Nat
noncomputable def tlt (ls : List Pr) (a b : En) : Bool := ltTs (markT ls a.1) (markT ls b.1)
noncomputable def midA (ls : List Pr) : List Tri → Nat → List En → List En
  | [], _, m => m
  | t :: es, i, m => midA ls es (i + 1) (insW (tlt ls) (t, 8 + i) m)
noncomputable def midE (ls : List Pr) (es : List Tri) : List En := midA ls es 0 []
noncomputable def entT (ls : List Pr) (p : En) : T := .list [.list (markT ls p.1), .int p.2]
noncomputable def tabM (ls : List Pr) (m : List En) : List T := .list [.list [.int 300], .int 0] :: (m.map (entT ls) ++ [.list [.list [.int (-1)], .int 0]])
noncomputable def tabT (ls : List Pr) (es : List Tri) : List T := tabM ls (midE ls es)

theorem midA_append (ls : List Pr) (t : Tri) : ∀ (es : List Tri) (i : Nat) (m : List En), midA ls (es ++ [t]) i m = insW (tlt ls) (t, 8 + (i + es.length)) (midA ls es i m)
  | [], i, m => rfl
  | u :: es, i, m => by
    show midA ls (es ++ [t]) (i + 1) _ = _
    rw [midA_append ls t es (i + 1), List.length_cons, Nat.add_right_comm i 1 es.length, Nat.add_assoc i]; rfl
theorem midE_append (ls : List Pr) (t : Tri) (es : List Tri) : midE ls (es ++ [t]) = insW (tlt ls) (t, 8 + es.length) (midE ls es) := by
  unfold midE; rw [midA_append, Nat.zero_add]
theorem midA_length (ls : List Pr) : ∀ (es : List Tri) (i : Nat) (m : List En), (midA ls es i m).length = m.length + es.length
  | [], i, m => rfl
  | u :: es, i, m => by
    show (midA ls es (i + 1) _).length = _
    rw [midA_length, insW_length, List.length_cons, Nat.add_right_comm, Nat.add_assoc]
theorem midE_length (ls : List Pr) (es : List Tri) : (midE ls es).length = es.length := (midA_length ls es 0 []).trans (Nat.zero_add _)
theorem midA_mem {ls : List Pr} {p : En} : ∀ {es : List Tri} {i : Nat} {m : List En}, p ∈ midA ls es i m ↔ p ∈ m ∨ ∃ j, es[j]? = some p.1 ∧ p.2 = 8 + (i + j)
  | [], i, m => by simp [midA]
  | u :: es, i, m => by
    show p ∈ midA ls es (i + 1) _ ↔ _
    rw [midA_mem, insW_perm.mem_iff, List.mem_cons]
    constructor
    · rintro ((h | h) | ⟨j, h1, h2⟩)
      · exact .inr ⟨0, by rw [h]; rfl, by rw [h]; rfl⟩
      · exact .inl h
      · exact .inr ⟨j + 1, h1, by rw [h2, Nat.add_right_comm i 1, Nat.add_assoc]⟩
    · rintro (h | ⟨j, h1, h2⟩)
      · exact .inl (.inr h)
      · cases j with
        | zero => exact .inl (.inl (Prod.ext (Option.some.inj h1).symm h2))
        | succ j => exact .inr ⟨j, h1, by rw [h2, Nat.add_right_comm i 1, Nat.add_assoc]⟩
theorem midE_mem {ls : List Pr} {p : En} {es : List Tri} : p ∈ midE ls es ↔ ∃ j, es[j]? = some p.1 ∧ p.2 = 8 + j := by
  unfold midE
  rw [midA_mem]
  constructor
  · rintro (h | ⟨j, h1, h2⟩)
    · cases h
    · exact ⟨j, h1, by rw [h2, Nat.zero_add]⟩
  · rintro ⟨j, h1, h2⟩
    exact .inr ⟨j, h1, by rw [h2, Nat.zero_add]⟩

theorem mark_cmp (ls : List Pr) (a b : Tri) : cmpTs (markT ls a) (markT ls b) = true := by
  have hi : ∀ (i j : Int) (ts us : List T), cmpTs ts us = true → cmpTs (.int i :: ts) (.int j :: us) = true := fun i j ts us h => by
    rw [cmpTs]; split
    · exact h
    · rfl
  have hs : ∀ (i j : Str) (ts us : List T), cmpTs ts us = true → cmpTs (.str i :: ts) (.str j :: us) = true := fun i j ts us h => by
    rw [cmpTs]; split
    · exact h
    · rfl
  exact hi _ _ _ _ (hs _ _ _ _ (hi _ _ _ _ (hi _ _ _ _ (hi _ _ _ _ (hi _ _ _ _ (by rfl))))))
theorem lev_inj {ls : List Pr} (L : Lev ls) {i j : Nat} (hi : i < 4) (hj : j < 4) (h : (lv ls i).r1 = (lv ls j).r1) (h2 : (lv ls i).w1 = (lv ls j).w1) : i = j := by
  have key : ∀ a b, a < b → b < 4 → (lv ls a).r1 = (lv ls b).r1 → (lv ls a).w1 = (lv ls b).w1 → False := fun a b hab hb e1 e2 => by
    have hbl : b < ls.length := by rw [L.four]; exact hb
    have := List.pairwise_iff_getElem.mp L.up a b (Nat.lt_trans hab hbl) hbl hab
    have ea : lv ls a = ls[a]'(Nat.lt_trans hab hbl) := by unfold lv; rw [List.getD_eq_getElem?_getD, List.getElem?_eq_getElem (Nat.lt_trans hab hbl)]; rfl
    have eb : lv ls b = ls[b] := by unfold lv; rw [List.getD_eq_getElem?_getD, List.getElem?_eq_getElem hbl]; rfl
    rw [← ea, ← eb, e1, e2, ltTs_irr] at this
    cases this
  rcases Nat.lt_trichotomy i j with q | q | q
  · exact (key i j q hj h h2).elim
  · exact q
  · exact (key j i q hi h.symm h2.symm).elim
theorem mark_inj {ls : List Pr} (L : Lev ls) {a b : Tri} (ha : a.1 < 4) (hb : b.1 < 4) (h : markT ls a = markT ls b) : a = b := by
  unfold markT at h
  injection h with h1 h
  injection h with h2 h
  injection h with _ h
  injection h with h3 h
  injection h with _ h
  injection h with h4 _
  injection h1 with h1
  injection h2 with h2
  injection h3 with h3
  injection h4 with h4
  exact Prod.ext (lev_inj L ha hb h1 h2) (Prod.ext (Int.ofNat.inj h3) (Int.ofNat.inj h4))
noncomputable def EsOk (es : List Tri) : Prop := ∀ t ∈ es, t.1 < 4
theorem EsOk.mid {ls : List Pr} {es : List Tri} (h : EsOk es) : ∀ p ∈ midE ls es, p.1.1 < 4 := fun p hp => let ⟨j, h1, _⟩ := midE_mem.mp hp; h _ (List.mem_of_getElem? h1)
theorem tlt_asym {ls : List Pr} (a b : En) (h : tlt ls a b = true) : tlt ls b a = false := ltTs_asym _ _ h
theorem tlt_tr {ls : List Pr} (a b d : En) (h1 : tlt ls b a = false) (h2 : tlt ls d b = false) : tlt ls d a = false := leTs_tr (mark_cmp ..) (mark_cmp ..) (mark_cmp ..) h1 h2
theorem midA_up (ls : List Pr) : ∀ (es : List Tri) (i : Nat) (m : List En), m.Pairwise (fun a b => tlt ls b a = false) → (midA ls es i m).Pairwise fun a b => tlt ls b a = false
  | [], i, m, h => h
  | u :: es, i, m, h => midA_up ls es (i + 1) _ (insW_up (P := fun _ => True) tlt_asym (fun a b d _ _ _ => tlt_tr a b d) trivial (fun _ _ => trivial) h)
theorem midE_up (ls : List Pr) (es : List Tri) : (midE ls es).Pairwise fun a b => tlt ls b a = false := midA_up ls es 0 [] List.Pairwise.nil
theorem bis_mid {ls : List Pr} {m : List En} {x : T} {t : Tri} {p : Nat} (hx : x = .list (markT ls t)) (h : BisTo headT x (tabM ls m) 1 (m.length + 1) p) :
    ∃ q, p = q + 1 ∧ q ≤ m.length ∧ (∀ i (e : En), i < q → m[i]? = some e → tlt ls e (t, 0) = true) ∧ (∀ i (e : En), q ≤ i → m[i]? = some e → tlt ls e (t, 0) = false) := by
  obtain ⟨h0, h1, h2, h3⟩ := h
  obtain ⟨q, rfl⟩ : ∃ q, p = q + 1 := ⟨p - 1, (Nat.sub_add_cancel h0).symm⟩
  have at_ : ∀ i (e : En), m[i]? = some e → (tabM ls m)[i + 1]? = some (entT ls e) ∧ i < m.length := fun i e he => by
    have hl := (List.getElem?_eq_some_iff.mp he).1
    refine ⟨?_, hl⟩
    unfold tabM
    rw [List.getElem?_cons_succ, List.getElem?_append_left (by rw [List.length_map]; exact hl), List.getElem?_map, he]; rfl
  have lt_ : ∀ e : En, ltT (headT (entT ls e)) x = tlt ls e (t, 0) := fun e => by
    subst hx
    show ltT (.list _) (.list _) = _
    rw [ltT_list]; rfl
  refine ⟨q, rfl, Nat.le_of_lt_succ h1, fun i e hi he => ?_, fun i e hi he => ?_⟩
  · rw [← lt_]; exact h2 (i + 1) _ (Nat.le_add_left _ _) (Nat.succ_lt_succ hi) (at_ i e he).1
  · rw [← lt_]; exact h3 (i + 1) _ (Nat.succ_le_succ hi) (Nat.succ_lt_succ (at_ i e he).2) (at_ i e he).1
theorem bis_at {ls : List Pr} (L : Lev ls) {es : List Tri} (ok : EsOk es) {t : Tri} (ht : t.1 < 4) {q : Nat} (hq : q ≤ es.length)
    (h1 : ∀ i (e : En), i < q → (midE ls es)[i]? = some e → tlt ls e (t, 0) = true) (h2 : ∀ i (e : En), q ≤ i → (midE ls es)[i]? = some e → tlt ls e (t, 0) = false) :
    (t ∈ es → ∃ j, es[j]? = some t ∧ (tabT ls es)[q + 1]? = some (entT ls (t, 8 + j))) ∧ (t ∉ es → ∃ m r, (tabT ls es)[q + 1]? = some (.list [.list m, r]) ∧ datTs m = true ∧ depTs m = 0 ∧ eqTs m (markT ls t) = false) := by
  have hm := midE_length ls es
  have at_ : ∀ i (e : En), (midE ls es)[i]? = some e → (tabT ls es)[i + 1]? = some (entT ls e) := fun i e he => by
    unfold tabT tabM
    rw [List.getElem?_cons_succ, List.getElem?_append_left (by rw [List.length_map]; exact (List.getElem?_eq_some_iff.mp he).1), List.getElem?_map, he]; rfl
  constructor
  · intro hmem
    obtain ⟨j, hj⟩ := List.mem_iff_getElem?.mp hmem
    obtain ⟨i, hi⟩ := List.mem_iff_getElem?.mp (midE_mem (ls := ls) (p := (t, 8 + j)).mpr ⟨j, hj, rfl⟩)
    have hqi : q ≤ i := Nat.le_of_not_lt fun hlt => by
      have := h1 i _ hlt hi
      unfold tlt at this
      rw [ltTs_irr] at this; cases this
    have hil := (List.getElem?_eq_some_iff.mp hi).1
    obtain ⟨e, he⟩ : ∃ e, (midE ls es)[q]? = some e := ⟨(midE ls es)[q]'(Nat.lt_of_le_of_lt hqi hil), List.getElem?_eq_getElem _⟩
    have n1 := h2 q e (Nat.le_refl _) he
    have n2 : tlt ls (t, 0) e = false := by
      rcases Nat.lt_or_eq_of_le hqi with h | h
      · obtain ⟨a1, a2⟩ := List.getElem?_eq_some_iff.mp he
        obtain ⟨b1, b2⟩ := List.getElem?_eq_some_iff.mp hi
        have := List.pairwise_iff_getElem.mp (midE_up ls es) q i a1 b1 h
        rw [a2, b2] at this; exact this
      · subst h
        rw [hi] at he
        cases he
        exact ltTs_irr _
    have heq : e.1 = t := by
      have he4 := ok.mid e (List.mem_of_getElem? he)
      refine mark_inj L he4 ht ?_
      have := ltT_total (.list (markT ls e.1)) (.list (markT ls t)) (by rw [cmpT_list]; exact mark_cmp ..) (by rw [ltT_list]; exact n1) (by rw [ltT_list]; exact n2)
      have := eqT_eq _ _ this
      injection this
    obtain ⟨e1, e2⟩ := e
    dsimp only at heq
    subst heq
    obtain ⟨j', q1, q2⟩ := midE_mem.mp (List.mem_of_getElem? he)
    dsimp only at q2
    subst q2
    exact ⟨j', q1, at_ q _ he⟩
  · intro hn
    rcases Nat.lt_or_eq_of_le hq with h | h
    · obtain ⟨e, he⟩ : ∃ e, (midE ls es)[q]? = some e := ⟨(midE ls es)[q]'(by rw [hm]; exact h), List.getElem?_eq_getElem _⟩
      refine ⟨_, _, at_ q e he, rfl, rfl, ?_⟩
      cases hb : eqTs (markT ls e.1) (markT ls t) with
      | false => rfl
      | true =>
        have hme := List.mem_of_getElem? he
        have := mark_inj L (ok.mid e hme) ht (eqTs_eq _ _ hb)
        obtain ⟨j, q1, _⟩ := midE_mem.mp hme
        rw [this] at q1
        exact absurd (List.mem_of_getElem? q1) hn
    · refine ⟨[.int (-1)], .int 0, ?_, rfl, rfl, eqTs_len _ _ (by show 1 ≠ 6; decide)⟩
      unfold tabT tabM
      rw [List.getElem?_cons_succ, List.getElem?_append_right (by rw [List.length_map, hm]; exact Nat.le_of_eq h.symm), List.length_map, hm, h, Nat.sub_self]; rfl
end

section
theorem tab_mem {ls : List Pr} {m : List En} {t : T} (h : t ∈ tabM ls m) : ∃ us i, t = .list [.list us, .int i] ∧ datTs us = true ∧ depTs us = 0 ∧ ∀ a : Tri, cmpTs us (markT ls a) = true := by
  unfold tabM at h
  rcases List.mem_cons.mp h with rfl | h
  · exact ⟨_, _, rfl, rfl, rfl, fun a => cmp_one (.inr ⟨_, _, rfl⟩)⟩
  · rcases List.mem_append.mp h with h | h
    · obtain ⟨e, _, rfl⟩ := List.mem_map.mp h
      exact ⟨_, _, rfl, rfl, rfl, fun a => mark_cmp ..⟩
    · obtain rfl := List.mem_singleton.mp h
      exact ⟨_, _, rfl, rfl, rfl, fun a => cmp_one (.inr ⟨_, _, rfl⟩)⟩
theorem tab_cmp {ls : List Pr} {m : List En} (t : Tri) : CmpOk headT (.list (markT ls t)) (tabM ls m) := ⟨rfl, fun u hu => by
  obtain ⟨us, i, rfl, h1, h2, h3⟩ := tab_mem hu
  refine ⟨by show datT (.list us) = true; rw [datT]; exact h1, by show cmpT (.list us) _ = true; rw [cmpT_list]; exact h3 t, ?_⟩
  show depT (.list us) ≤ 60
  rw [depT, h2]; decide⟩
theorem tab_ok {ls : List Pr} {m : List En} : ∀ u ∈ tabM ls m, ∃ v vs, u = T.list (v :: vs) := fun u hu => by
  obtain ⟨us, i, rfl, _⟩ := tab_mem hu
  exact ⟨_, _, rfl⟩
theorem tab_rises {ls : List Pr} {es : List Tri} (t : Tri) : Rises headT (.list (markT ls t)) (tabT ls es) 1 (es.length + 1) := by
  have hl : ((midE ls es).map (entT ls)).length = es.length := by rw [List.length_map, midE_length]
  have h := rises_between (s := .list [.list [.int 300], .int 0]) (e := .list [.list [.int (-1)], .int 0]) (UpBy.rises (kf := headT) (ts := (midE ls es).map (entT ls)) (x := .list (markT ls t)) ?_ ?_ ?_ 0 ((midE ls es).map (entT ls)).length)
  · rw [hl] at h; exact h
  · unfold UpBy
    rw [List.pairwise_map]
    exact (midE_up ls es).imp fun {a b} h => by
      show ltT (.list _) (.list _) = false
      rw [ltT_list]; exact h
  · intro a ha b hb
    obtain ⟨a', _, rfl⟩ := List.mem_map.mp ha
    obtain ⟨b', _, rfl⟩ := List.mem_map.mp hb
    show cmpT (.list _) (.list _) = true
    rw [cmpT_list]; exact mark_cmp ..
  · intro a ha
    obtain ⟨a', _, rfl⟩ := List.mem_map.mp ha
    show cmpT (.list _) (.list _) = true
    rw [cmpT_list]; exact mark_cmp ..
theorem tab_length {ls : List Pr} {es : List Tri} : (tabT ls es).length = es.length + 2 := by
  unfold tabT tabM
  rw [List.length_cons, List.length_append, List.length_map, midE_length]; rfl
theorem tab_hi {ls : List Pr} {es : List Tri} : es.length + 1 ≤ (tabT ls es).length := by rw [tab_length]; exact Nat.le_succ _
theorem tab_line {ls : List Pr} {es : List Tri} (h : es.length ≤ 100) : (tabT ls es).length ≤ sizeLine := by rw [tab_length, sizeLine_eq]; (first | exact zLe (Nat.add_le_add_right h 2) rfl | lia)
section
variable {C : Cx} {n : Nat}
theorem con_bisT {bi ins dt kd dt' kd' fi : Addr} (Wb : BisW C PW bi ins dt kd dt' kd') (Wf : DefAt C PW "_law_first" fi .none .none) {ls : List Pr} {es : List Tri} (few : es.length ≤ 100) (t : Tri) :
    Con C (n + 2) (.ref bi) [.list (tabT ls es)] [.ref 0, .val (.list (markT ls t)), .val (.int (1 : Nat)), .val (.int (es.length + 1 : Nat))] [("key", .val (.static (.ref fi)))] fun d O' => ∃ q : Nat, d = .val (.int (q + 1 : Nat)) ∧ O' = [.list (tabT ls es)] ∧ q ≤ es.length ∧
      (∀ i (e : En), i < q → (midE ls es)[i]? = some e → tlt ls e (t, 0) = true) ∧ (∀ i (e : En), q ≤ i → (midE ls es)[i]? = some e → tlt ls e (t, 0) = false) := by
  refine (con_bis Wb (key_first (n := n) Wf) (Nat.succ_pos _) (hi := es.length + 1) (.inr rfl) (Nat.le_add_left _ _) (tab_hi (ls := ls)) (tab_line (ls := ls) few) tab_ok (tab_cmp t) (tab_rises t)).mono ?_
  rintro d O' ⟨p, rfl, rfl, hp⟩
  have hp' : BisTo headT (.list (markT ls t)) (tabM ls (midE ls es)) 1 ((midE ls es).length + 1) p := by rw [midE_length]; exact hp
  obtain ⟨q, rfl, h1, h2, h3⟩ := bis_mid rfl hp'
  rw [midE_length] at h1
  exact ⟨q, rfl, rfl, h1, h2, h3⟩
theorem con_insT {bi ins dt kd dt' kd' fi : Addr} (Wb : BisW C PW bi ins dt kd dt' kd') (Wf : DefAt C PW "_law_first" fi .none .none) {ls : List Pr} {es : List Tri} (few : es.length ≤ 100) (t : Tri) :
    Con C (n + 3) (.ref ins) [.list (tabT ls es)] [.ref 0, .val (entT ls (t, 8 + es.length)), .val (.int (1 : Nat)), .val (.int (es.length + 1 : Nat))] [("key", .val (.static (.ref fi)))] fun d O' => d = .val .none ∧ O' = [.list (tabT ls (es ++ [t]))] := by
  refine (con_ins4 Wb (key_first (n := n) Wf) (Nat.succ_pos _) (x := entT ls (t, 8 + es.length)) (hi := es.length + 1) (Nat.le_add_left _ _) (tab_hi (ls := ls)) (tab_line (ls := ls) few) tab_ok ⟨_, _, rfl⟩ (tab_cmp t) (tab_rises t)).mono ?_
  rintro d O' ⟨p, rfl, rfl, hp⟩
  refine ⟨rfl, ?_⟩
  have hl : ((midE ls es).map (entT ls)).length = es.length := by rw [List.length_map, midE_length]
  have h := insT_between (kf := headT) (x := entT ls (t, 8 + es.length)) (s := .list [.list [.int 300], .int 0]) (e := .list [.list [.int (-1)], .int 0]) (mid := (midE ls es).map (entT ls)) (p := p) (by rw [hl]; exact hp)
  have e : tabT ls (es ++ [t]) = .list [.list [.int 300], .int 0] :: (insW (fun a b => ltT (headT a) (headT b)) (entT ls (t, 8 + es.length)) ((midE ls es).map (entT ls)) ++ [.list [.list [.int (-1)], .int 0]]) := by
    unfold tabT tabM
    rw [midE_append, insW_map (f := entT ls)]
    have : (fun a b : En => ltT (headT (entT ls a)) (headT (entT ls b))) = tlt ls := by
      funext a b
      show ltT (.list _) (.list _) = _
      rw [ltT_list]; rfl
    rw [this]
  rw [e, ← h]; rfl
end
end

section
structure EsIn (es : List Tri) : Prop where
  ok : EsOk es
  nodup : es.Nodup
theorem EsIn.snoc {es : List Tri} (h : EsIn es) {t : Tri} (ht : t.1 < 4) (hn : t ∉ es) : EsIn (es ++ [t]) := by
  refine ⟨fun u hu => ?_, ?_⟩
  · rcases List.mem_append.mp hu with q | q
    · exact h.ok u q
    · rw [List.mem_singleton.mp q]; exact ht
  · exact List.nodup_append.mpr ⟨h.nodup, List.nodup_cons.mpr ⟨List.not_mem_nil, List.nodup_nil⟩, fun a ha b hb q => hn (List.mem_singleton.mp hb ▸ q ▸ ha)⟩
theorem idx_nodup {es : List Tri} (h : es.Nodup) {j : Nat} {t : Tri} (hj : es[j]? = some t) : es.idxOf t = j := by
  obtain ⟨h1, h2⟩ := List.getElem?_eq_some_iff.mp hj
  rw [← h2]; exact h.idxOf_getElem j h1
theorem join_facts {j a b : Nat} {es : List Tri} (hj : j < 4) (h : EsIn es) (ha : a ≤ 8 + es.length) : EsIn (joinP j a b es).2 ∧ (joinP j a b es).2.length ≤ es.length + 1 ∧ (joinP j a b es).1 ≤ 8 + (joinP j a b es).2.length := by
  unfold joinP
  split
  · exact ⟨h, Nat.le_succ _, ha⟩
  · split
    · rename_i hm
      exact ⟨h, Nat.le_succ _, Nat.add_le_add_left (Nat.le_of_lt (List.idxOf_lt_length_of_mem hm)) 8⟩
    · rename_i hm
      exact ⟨h.snoc hj hm, by rw [List.length_append]; exact Nat.le_refl _, by rw [List.length_append]; exact Nat.add_le_add_left (Nat.le_succ _) 8⟩
theorem node_facts : ∀ (k : Nat) (rows : List Cl) (es : List Tri), EsIn es → EsIn (nodeP k rows es).2 ∧ (nodeP k rows es).2.length + 1 ≤ es.length + 2 ^ k ∧ (nodeP k rows es).1 ≤ 8 + (nodeP k rows es).2.length := fun k => by
  induction k with
  | zero =>
    intro rows es h
    unfold nodeP
    split
    · exact ⟨h, Nat.le_refl _, Nat.zero_le _⟩
    · split
      · exact ⟨h, Nat.le_refl _, Nat.le_trans (by show 1 ≤ 8; decide) (Nat.le_add_right 8 _)⟩
      · exact ⟨h, Nat.le_refl _, Nat.zero_le _⟩
  | succ k ih =>
    intro rows es h
    have hp : 1 ≤ 2 ^ (k + 1) := Nat.one_le_two_pow
    unfold nodeP
    split
    · exact ⟨h, Nat.add_le_add_left hp _, Nat.zero_le _⟩
    · split
      · exact ⟨h, Nat.add_le_add_left hp _, Nat.le_trans (by show 1 ≤ 8; decide) (Nat.le_add_right 8 _)⟩
      · obtain ⟨a1, a2, a3⟩ := ih (cut (3 - k) 0 rows) es h
        obtain ⟨b1, b2, b3⟩ := ih (cut (3 - k) 1 rows) _ a1
        dsimp only
        generalize (nodeP k (cut (3 - k) 0 rows) es).1 = x at a3 ⊢
        generalize (nodeP k (cut (3 - k) 0 rows) es).2 = es1 at a1 a2 a3 b1 b2 b3 ⊢
        have mono : es1.length ≤ (nodeP k (cut (3 - k) 1 rows) es1).2.length := node_grows k _ _
        generalize nodeP k (cut (3 - k) 1 rows) es1 = r at b1 b2 b3 mono ⊢
        obtain ⟨c1, c2, c3⟩ := join_facts (j := 3 - k) (a := x) (b := r.1) (Nat.lt_succ_of_le (Nat.sub_le 3 k)) b1 (Nat.le_trans a3 (Nat.add_le_add_left mono 8))
        exact ⟨c1, by rw [Nat.pow_succ]; (first | exact Nat.le_trans (Nat.succ_le_succ (Nat.le_trans c2 b2)) (zEq (Nat.add_right_comm _ _ 1) (Nat.le_trans (Nat.add_le_add_right a2 _) (Nat.le_of_eq ((Nat.add_assoc _ _ _).trans (congrArg (_ + ·) (Nat.mul_two _).symm))))) | lia), c3⟩
where
  join_grows (j a b : Nat) (es : List Tri) : es.length ≤ (joinP j a b es).2.length := by
    unfold joinP
    split
    · exact Nat.le_refl _
    · split
      · exact Nat.le_refl _
      · rw [List.length_append]; exact Nat.le_add_right _ _
  node_grows (k : Nat) : ∀ (rows : List Cl) (es : List Tri), es.length ≤ (nodeP k rows es).2.length := by
    induction k with
    | zero =>
      intro rows es
      unfold nodeP
      split
      · exact Nat.le_refl _
      · split <;> exact Nat.le_refl _
    | succ k ih =>
      intro rows es
      unfold nodeP
      split
      · exact Nat.le_refl _
      · split
        · exact Nat.le_refl _
        · exact Nat.le_trans (ih _ _) (Nat.le_trans (ih _ _) (join_grows ..))
theorem node_zero {k : Nat} {rows : List Cl} (es : List Tri) (h : [] ∈ rows) : nodeP k rows es = (0, es) := by unfold nodeP; rw [if_pos h]
theorem node_one {k : Nat} {es : List Tri} : nodeP k [] es = (1, es) := by unfold nodeP; rfl
theorem node_succ {k : Nat} {rows : List Cl} (es : List Tri) (h : [] ∉ rows) (h2 : rows ≠ []) : nodeP (k + 1) rows es =
    joinP (3 - k) (nodeP k (cut (3 - k) 0 rows) es).1 (nodeP k (cut (3 - k) 1 rows) (nodeP k (cut (3 - k) 0 rows) es).2).1 (nodeP k (cut (3 - k) 1 rows) (nodeP k (cut (3 - k) 0 rows) es).2).2 := by
  rw [nodeP, if_neg h, if_neg h2]
structure RowsIn (j : Nat) (rows : List Cl) : Prop where
  few : rows.length ≤ 10
  ok : ∀ c ∈ rows, c.length ≤ 4 ∧ ∀ l ∈ c, j ≤ l.1 ∧ l.1 < 4 ∧ l.2 < 2
theorem RowsIn.cut {j s : Nat} {rows : List Cl} (h : RowsIn j rows) : RowsIn (j + 1) (cut j s rows) := by
  refine ⟨?_, fun c hc => ?_⟩
  · unfold Mine.cut
    rw [List.length_map]
    exact Nat.le_trans (List.length_filter_le ..) h.few
  · obtain ⟨c', h1, rfl⟩ := List.mem_map.mp hc
    obtain ⟨h2, h3⟩ := h.ok c' (List.mem_filter.mp h1).1
    refine ⟨Nat.le_trans (List.length_filter_le ..) h2, fun l hl => ?_⟩
    obtain ⟨q1, q2⟩ := List.mem_filter.mp hl
    obtain ⟨q3, q4⟩ := h3 l q1
    exact ⟨Nat.lt_of_le_of_ne q3 fun e => by rw [e] at q2; simp at q2, q4⟩
structure WordsOk (ls : List Pr) : Prop where
  low : ∀ l : Lit, l.1 < 4 → l.2 < 2 → LowOk (wd ls l)
  cost : ∀ l l' : Lit, l.1 < 4 → l.2 < 2 → l'.1 < 4 → l'.2 < 2 → costT (wd ls l) (wd ls l') = if l = l' then 0 else if l.1 = l'.1 then 1 else 2
  mark : ∀ t : Tri, t.1 < 4 → t.2.1 ≤ 200 → t.2.2 ≤ 200 → TextOk (markS ls t) ∧ keyT (markS ls t) = markT ls t
  short : ∀ j < 4, (lv ls j).w1.length ≤ 10
noncomputable def cI (j : Nat) (l : Lit) : Int := if l = (j, 1) then 0 else if l.1 = j then 1 else 2
noncomputable def csS (j : Nat) (l : Lit) : Str := Str.ofString (toString (cI j l)) ++ Str.ofString (toString (cI j l))
noncomputable def metS (s : Nat) : Str := if s = 0 then Str.ofString "11" else Str.ofString "00"
theorem cost_lv {ls : List Pr} (Wd : WordsOk ls) {j : Nat} (hj : j < 4) {l : Lit} (h1 : l.1 < 4) (h2 : l.2 < 2) : costT (wd ls l) (lv ls j).w1 = cI j l ∧ costT (lv ls j).w1 (wd ls l) = cI j l := by
  have e : wd ls (j, 1) = (lv ls j).w1 := rfl
  refine ⟨by rw [← e]; exact Wd.cost l (j, 1) h1 h2 hj (Nat.lt_succ_self 1), ?_⟩
  rw [← e, Wd.cost (j, 1) l hj (Nat.lt_succ_self 1) h1 h2]
  unfold cI
  by_cases q : l = (j, 1)
  · rw [if_pos q, if_pos q.symm]
  · rw [if_neg q, if_neg fun e => q e.symm]
    by_cases q2 : l.1 = j
    · rw [if_pos q2, if_pos q2.symm]
    · rw [if_neg q2, if_neg fun e => q2 e.symm]
theorem low_lv {ls : List Pr} (Wd : WordsOk ls) {j : Nat} (hj : j < 4) : LowOk (lv ls j).w1 := Wd.low (j, 1) hj (Nat.lt_succ_self 1)
theorem cI_cases (j : Nat) (l : Lit) : cI j l = 0 ∨ cI j l = 1 ∨ cI j l = 2 := by
  unfold cI
  split
  · exact .inl rfl
  · split
    · exact .inr (.inl rfl)
    · exact .inr (.inr rfl)
theorem cs_met {j s : Nat} {l : Lit} (hl : l.2 < 2) (hs : s < 2) : eqT (.str (csS j l)) (.str (metS s)) = (l == (j, s)) := by
  have key : ∀ c : Int, c = 0 ∨ c = 1 ∨ c = 2 → ∀ s < 2, eqT (.str (Str.ofString (toString c) ++ Str.ofString (toString c))) (.str (metS s)) = decide (c = if s = 0 then 1 else 0) := by
    rintro c (rfl | rfl | rfl) s hs
    all_goals (match s, hs with | 0, _ => decide +kernel | 1, _ => decide +kernel)
  unfold csS
  rw [key _ (cI_cases j l) s hs]
  obtain ⟨a, b⟩ := l
  unfold cI
  have hb : b = 0 ∨ b = 1 := by dsimp only at hl; (first | exact Nat.le_one_iff_eq_zero_or_eq_one.mp (Nat.le_of_lt_succ hl) | lia)
  have hs' : s = 0 ∨ s = 1 := by (first | exact Nat.le_one_iff_eq_zero_or_eq_one.mp (Nat.le_of_lt_succ hs) | lia)
  by_cases ha : a = j
  · subst ha
    rcases hb with rfl | rfl <;> rcases hs' with rfl | rfl <;> simp
  · have h0 : ((a, b) == (j, s)) = false := beq_false_of_ne fun q => ha (congrArg Prod.fst q)
    rw [h0, if_neg fun q => ha (congrArg Prod.fst q), if_neg ha]
    rcases hs' with rfl | rfl <;> rfl
theorem cs_far {j : Nat} {l : Lit} : (csS j l == Str.ofString "22") = (l.1 != j) := by
  have key : ∀ c : Int, c = 0 ∨ c = 1 ∨ c = 2 → (Str.ofString (toString c) ++ Str.ofString (toString c) == Str.ofString "22") = decide (c = 2) := by
    rintro c (rfl | rfl | rfl) <;> decide +kernel
  unfold csS
  rw [key _ (cI_cases j l)]
  unfold cI
  obtain ⟨a, b⟩ := l
  by_cases ha : a = j
  · subst ha
    by_cases hb : b = 1
    · subst hb; simp
    · rw [if_neg fun q => hb (congrArg Prod.snd q), if_pos rfl]; simp
  · rw [if_neg fun q => ha (congrArg Prod.fst q), if_neg ha]
    simp [ha]
theorem cs_any {j s : Nat} (hs : s < 2) : ∀ {c : Cl}, (∀ l ∈ c, l.2 < 2) → ((c.map fun l => T.str (csS j l)).any fun t => eqT t (.str (metS s))) = c.contains (j, s)
  | [], _ => rfl
  | l :: c, h => by
    rw [List.map_cons, List.any_cons, cs_any hs fun l' hl => h l' (List.mem_cons_of_mem _ hl), cs_met (h l (List.mem_cons_self ..)) hs, List.contains_cons]
    congr 1
    exact Bool.eq_iff_iff.mpr (by rw [beq_iff_eq, beq_iff_eq]; exact eq_comm)
theorem filter_range {α β : Type} (f : α → β) (q : α → Bool) (d : α) (c : List α) : ((List.range' 0 c.length).filter fun i => q (c.getD i d)).map (fun i => f (c.getD i d)) = (c.filter q).map f := by
  have e : c = (List.range c.length).map fun i => c.getD i d := (map_range_getD c d).symm
  rw [← List.range_eq_range']
  conv => rhs; rw [e]
  rw [List.filter_map, List.map_map]; rfl
theorem cut_cons {j s : Nat} {c : Cl} {rows : List Cl} : cut j s (c :: rows) = if c.contains (j, s) then cut j s rows else cutC j c :: cut j s rows := by
  unfold cut
  rw [List.filter_cons]
  cases c.contains (j, s) <;> rfl
theorem numS_short {e : Nat} (h : e ≤ 200) : (numS e).length ≤ 3 := (by decide +kernel : ∀ e < 201, (numS e).length ≤ 3) e (Nat.lt_succ_of_le h)
theorem bis_new {ls : List Pr} {es : List Tri} {t : Tri} {q : Nat} (hq : q ≤ es.length) (h1 : ∀ i (e : En), i < q → (midE ls es)[i]? = some e → tlt ls e (t, 0) = true) (h2 : ∀ i (e : En), q ≤ i → (midE ls es)[i]? = some e → tlt ls e (t, 0) = false) :
    (tabT ls (es ++ [t]))[q + 1]? = some (entT ls (t, 8 + es.length)) := by
  have hm := midE_length ls es
  obtain ⟨a1, a2⟩ := take_while_at (p := fun y => tlt ls y (t, 8 + es.length)) (xs := midE ls es) (k := q) (by rw [hm]; exact hq) (fun i e hi he => h1 i e hi he) (fun i e hi _ he => h2 i e hi he)
  unfold tabT tabM
  rw [midE_append, List.getElem?_cons_succ]
  unfold insW
  have hl : ((midE ls es).take q).length = q := by rw [List.length_take, hm]; exact Nat.min_eq_left hq
  rw [a1, a2, List.map_append, List.append_assoc, List.getElem?_append_right (by rw [List.length_map, hl]; exact Nat.le_refl _), List.length_map, hl, Nat.sub_self]; rfl
end

section
section
variable {C : Cx} {n : Nat}
theorem any_empty {ls : List Pr} : ∀ rows : List Cl, ((rows.map (clT ls)).any fun t => eqT t (.list [])) = decide ([] ∈ rows)
  | [] => rfl
  | c :: rows => by
    rw [List.map_cons, List.any_cons, any_empty rows]
    cases c with
    | nil => rw [show eqT (clT ls []) (.list []) = true from rfl, Bool.true_or]; exact (decide_eq_true (List.mem_cons_self ..)).symm
    | cons l c =>
      rw [show eqT (clT ls (l :: c)) (.list []) = false from rfl, Bool.false_or]
      refine decide_eq_decide.mpr ⟨fun h => List.mem_cons_of_mem _ h, fun h => ?_⟩
      rcases List.mem_cons.mp h with h | h
      · cases h
      · exact h
theorem strs_dat (f : Lit → Str) : ∀ c : Cl, datTs (c.map fun l => .str (f l)) = true ∧ depTs (c.map fun l => T.str (f l)) = 0
  | [] => ⟨rfl, rfl⟩
  | l :: c => strs_dat f c |>.imp (fun h => by rw [List.map_cons, datTs, h]; rfl) fun h => by rw [List.map_cons, depTs, h]; rfl
theorem rows_dat (ls : List Pr) : ∀ rows : List Cl, datTs (rows.map (clT ls)) = true ∧ depTs (rows.map (clT ls)) ≤ 1
  | [] => ⟨rfl, Nat.zero_le _⟩
  | c :: rows => by
    obtain ⟨h1, h2⟩ := rows_dat ls rows
    obtain ⟨q1, q2⟩ := strs_dat (wd ls) c
    refine ⟨?_, ?_⟩
    · rw [List.map_cons, datTs, h1, clT, datT, q1]; rfl
    · rw [List.map_cons, depTs, clT, depT, q2]; exact Nat.max_le.mpr ⟨Nat.le_refl 1, h2⟩
noncomputable def NodeC (C : Cx) (n : Nat) (nd : Addr) (ls : List Pr) (k : Nat) : Prop := ∀ (rows : List Cl) (es : List Tri), RowsIn (4 - k) rows → EsIn es → es.length + 2 ^ k ≤ 60 →
  Con C n (.ref nd) [.list (tabT ls es)] [.val (.list (rows.map (clT ls))), .val (.list ((ls.drop (4 - k)).map lvT)), .ref 0] [] (OwnP fun t ob => t = .int ((nodeP k rows es).1 : Nat) ∧ ob = .list (tabT ls (nodeP k rows es).2))
theorem node_step {nd bi ins dt kd dt' kd' cv pt tb fi sub : Addr} (W : DefAt C PW "_law_node" nd .none .none) (Wb : BisW C PW bi ins dt kd dt' kd') (Wc : CvW C PW cv pt tb) (Wf : DefAt C PW "_law_first" fi .none .none) (Ws : SubW C PW sub) (hlen : Bi C "len" (.builtin "len")) (hran : Bi C "range" (.type "range")) (hstr : Bi C "str" (.type "str"))
    {ls : List Pr} (L : Lev ls) (Wd : WordsOk ls) (k : Nat) (hk : k ≤ 4) (ih : ∀ k', k = k' + 1 → NodeC C (n + k + 3) nd ls k') : NodeC C (n + k + 4) nd ls k := by
  intro rows es hR hE hlen8
  refine Con_own ["rows", "order", "table"] W rfl (by decide +kernel) (fun pm cd doc => vs3 fun _ _ _ => rfl) ?_
  intro Ψ hΨ
  have hq44 := rows_dat ls rows
  have d1 := hq44.1
  have d2 := hq44.2
  clear hq44
  walk_at "m.body"
  walk_at "m"
  refine WPe_List ?_
  walk_at "m"
  refine ⟨rfl, [], rfl, ?_⟩
  walk_at "m"
  refine C_in (ts := rows.map (clT ls)) rfl d1 (Nat.le_trans d2 (by decide)) rfl ⟨_, rfl, ?_⟩
  rw [any_empty]
  by_cases he : [] ∈ rows
  · rw [if_pos (decide_eq_true he)]
    walk_at "m"
    exact hΨ _ _ _ ⟨by rw [node_zero es he]; rfl, by rw [node_zero es he]⟩
  rw [if_neg (by simpa using he)]
  walk_at "m"
  refine WPe_List ?_
  walk_at "m"
  refine ⟨rfl, [], rfl, ?_⟩
  refine C_eqL d1 rfl (Nat.le_trans d2 (by decide)) ⟨_, rfl, ?_⟩
  by_cases hn : rows = []
  · subst hn
    rw [if_pos (by rfl)]
    walk_at "m"
    exact hΨ _ _ _ ⟨by rw [node_one]; rfl, by rw [node_one]⟩
  have hne : eqTs (rows.map (clT ls)) [] = false := by
    cases rows with
    | nil => exact absurd rfl hn
    | cons c rows => rfl
  rw [if_neg (by rw [hne]; decide)]
  obtain ⟨c0, hc0⟩ : ∃ c, c ∈ rows := List.exists_mem_of_ne_nil _ hn
  obtain ⟨l0, hl0⟩ : ∃ l, l ∈ c0 := List.exists_mem_of_ne_nil _ fun e => he (e ▸ hc0)
  have hq75 := (hR.ok c0 hc0).2 l0 hl0
  have b1 := hq75.1
  have b2 := hq75.2.1
  have b3 := hq75.2.2
  clear hq75
  obtain ⟨k, rfl⟩ : ∃ k', k = k' + 1 := by
    cases k with
    | zero => exact absurd (Nat.lt_of_le_of_lt b1 b2) (Nat.lt_irrefl 4)
    | succ k => exact ⟨k, rfl⟩
  have hj : 4 - (k + 1) = 3 - k := by (first | exact Nat.succ_sub_succ_eq_sub 3 _ | lia)
  have hj4 : 3 - k < 4 := by (first | exact Nat.sub_lt_succ 3 _ | lia)
  rw [hj] at hR ⊢
  have hdrop : ls.drop (3 - k) = lv ls (3 - k) :: ls.drop (4 - k) := by
    have h1 : 3 - k < ls.length := by rw [L.four]; exact hj4
    have h2 : 4 - k = 3 - k + 1 := by (first | exact Nat.succ_sub (Nat.le_of_succ_le_succ hk) | lia)
    rw [h2]
    refine split_drop ?_
    unfold lv
    rw [List.getD_eq_getElem?_getD, List.getElem?_eq_getElem h1]; rfl
  rw [hdrop]
  walk_at "m"
  refine ⟨_, 0, lvT (lv ls (3 - k)), rfl, rfl, by decide, by decide, rfl, ?_⟩
  walk_at "m"
  refine ⟨_, 1, .str (lv ls (3 - k)).w1, rfl, rfl, by decide, by decide, rfl, ?_⟩
  refine WPs_cons ?_
  refine WPx_Assign (nameOk_of rfl) ?_ (fun env eo => swaps_cell eo rfl)
  refine WPe_ListComp (CompOk.name (by decide +kernel)) ?_ (fun _ _ => rfl) (Nat.succ_pos _)
  walk_at "e"
  refine ⟨_, rfl, mpK (Nat.le_trans hR.few (Nat.le_add_left _ _)), CompP_of (clT ls) (fun c => .list (c.map fun l => .str (csS (3 - k) l))) rows [] (fun c hc => ⟨_, .name, ?_⟩) ?_⟩
  · have hq100 := hR.ok c hc
    have hc1 := hq100.1
    have hc2 := hq100.2
    clear hq100
    refine WPe_ListComp (CompOk.name (by decide +kernel)) ?_ (fun _ _ => rfl) (Nat.succ_pos _)
    walk_at "e"
    refine ⟨_, rfl, mpK (Nat.le_trans hc1 (Nat.le_add_left _ _)), CompP_of (fun l => .str (wd ls l)) (fun l => .str (csS (3 - k) l)) c [] (fun l hl => ⟨_, .name, ?_⟩) ⟨rfl, rfl⟩⟩
    have hq104 := hc2 l hl
    have p1 := hq104.1
    have p2 := hq104.2.1
    have p3 := hq104.2.2
    clear hq104
    have hq105 := cost_lv Wd hj4 p2 p3
    have q1 := hq105.1
    have q2 := hq105.2
    clear hq105
    have sm : Small (.int (cI (3 - k) l)) := .inl ⟨_, rfl, by rcases cI_cases (3 - k) l with h | h | h <;> rw [h] <;> decide⟩
    walk_at "e"
    refine WPe_strT hstr rfl rfl ?_
    refine WPe_Fn Ws.df (by decide +kernel) rfl rfl rfl ?_
    walk_at "e"
    refine ((con_sub Ws (Wd.low l p2 p3) (low_lv Wd hj4) (O := [.list (tabT ls es)]) ⟨trivial, trivial⟩).le (Nat.le_add_left 1 _)).retE ?_
    rw [q1]
    refine ⟨_, rfl, sm, ?_⟩
    refine WPe_strT hstr rfl rfl ?_
    refine WPe_Fn Ws.df (by decide +kernel) rfl rfl rfl ?_
    walk_at "e"
    refine ((con_sub Ws (low_lv Wd hj4) (Wd.low l p2 p3) (O := [.list (tabT ls es)]) ⟨trivial, trivial⟩).le (Nat.le_add_left 1 _)).retE ?_
    rw [q2]
    refine ⟨_, rfl, sm, ?_⟩
    refine B_addS (by rcases cI_cases (3 - k) l with h | h | h <;> rw [h] <;> decide +kernel) ⟨rfl, rfl⟩
  walk_at "m.red"
  refine WPs_cons ?_
  refine WPx_empty (nameOk_of rfl) (fun _ _ => rfl) ?_
  walk_at "m.red"
  refine WPs_cons ?_
  refine WPx_For (.name (nameOk_of rfl)) ?_ (fun _ _ => rfl) (Nat.succ_pos _)
  refine WPe_List ?_
  walk_at "e"
  refine ⟨rfl, _, rfl, ?_⟩
  refine ⟨_, [.str (metS 0), .str (metS 1)], rfl, rfl, ?_⟩
  have hfin : ∀ (x : Nat × List Tri) (g : List Ob), x = nodeP (k + 1) rows es → Ψ (.ret (.val (.int (x.1 : Nat))) (.list (tabT ls x.2) :: g)) := fun x g e => hΨ _ _ g ⟨by rw [e], by rw [e]⟩
  let step : List Nat × List Tri → Nat → List Nat × List Tri := fun st s => (st.1 ++ [(nodeP k (cut (3 - k) s rows) st.2).1], (nodeP k (cut (3 - k) s rows) st.2).2)
  let rowsT : T := .list (rows.map (clT ls))
  let costsT : T := .list (rows.map fun c => .list (c.map fun l => .str (csS (3 - k) l)))
  let nameT : T := .str (lv ls (3 - k)).w1
  let orderT : T := .list ((lv ls (3 - k) :: ls.drop (4 - k)).map lvT)
  refine ForP_map (σ := List Nat × List Tri) (fun s : Nat => .str (metS s)) (fun st => [("ends", .ref 1), ("costs", .val costsT), ("name", .val nameT), ("rows", .val rowsT), ("order", .val orderT), ("table", .ref 0)]) (fun st => [.list (tabT ls st.2), .list (st.1.map fun e => .int (e : Nat))])
    (fun ss st => ss.foldl step st = step (step ([], es) 0) 1 ∧ EsIn st.2 ∧ st.2.length + ss.length * 2 ^ k ≤ 60 ∧ st.1.length + ss.length ≤ 2 ∧ ∀ s ∈ ss, s < 2) 2 (fun _ => rfl) (fun _ => rfl) ?_ ?_ [0, 1] ([], es) _ ⟨rfl, hE, by rw [Nat.pow_succ] at hlen8; show es.length + 2 * 2 ^ k ≤ 60; (first | exact zEq (congrArg (_ + ·) (Nat.mul_comm 2 _)) hlen8 | lia), Nat.le_refl 2, by decide⟩ (Sub.cons rfl (Sub.cons rfl (Sub.cons rfl (Sub.cons rfl (Sub.cons rfl (Sub.cons rfl Sub.nil))))))
  · rintro s ss ⟨en, e1⟩ ⟨hst, hE1, hl1, hen, hss⟩
    dsimp only at hE1 hl1 hen
    have hs := hss s (List.mem_cons_self ..)
    refine ⟨_, .name, fun Ψl hΨl => ?_⟩
    refine WPs_cons ?_
    refine WPx_empty (nameOk_of rfl) (fun _ _ => rfl) ?_
    walk_at "m.red"
    refine WPs_cons ?_
    refine WPx_For (.name (nameOk_of rfl)) ?_ (fun _ _ => rfl) (Nat.succ_pos _)
    refine WPe_B1 hran (.inr ⟨_, rfl⟩) rfl rfl rfl ?_
    refine WPe_len hlen rfl rfl ?_
    walk_at "e"
    refine ⟨_, rfl, by rw [List.length_map]; have := hR.few; (exact Nat.lt_of_le_of_lt this (by decide)), ?_⟩
    rw [List.length_map]
    refine F_range1 ?_
    refine ⟨_, rangeT 0 1 rows.length, rfl, itemsD_range (a := 0) (by have := hR.few; (exact Nat.lt_of_le_of_lt this (by decide))) (Nat.zero_le _), ?_⟩
    refine ForP_rng (σ := List Cl) (fun acc => [("left", .ref 2), ("met", .val (.str (metS s))), ("ends", .ref 1), ("costs", .val costsT), ("name", .val nameT), ("rows", .val rowsT), ("order", .val orderT), ("table", .ref 0)]) (fun acc => [.list (tabT ls e1), .list (en.map fun e => .int (e : Nat)), .list (acc.map (clT ls))])
      (fun i m acc => i + m = rows.length ∧ acc ++ cut (3 - k) s (rows.drop i) = cut (3 - k) s rows) 3 (fun _ => rfl) (fun _ => rfl) ?_ ?_ 0 rows.length [] _ ⟨Nat.zero_add _, rfl⟩ (Sub.cons rfl (Sub.cons rfl (Sub.cons rfl (Sub.cons rfl (Sub.cons rfl (Sub.cons rfl (Sub.cons rfl (Sub.cons rfl Sub.nil))))))))
    · rintro i m acc ⟨him, hacc⟩
      obtain ⟨c, hc⟩ : ∃ c, rows[i]? = some c := ⟨rows[i], List.getElem?_eq_getElem (by (exact ltA him))⟩
      have hq159 := hR.ok c (List.mem_of_getElem? hc)
      have hc1 := hq159.1
      have hc2 := hq159.2
      clear hq159
      have hfew := hR.few
      rw [split_drop hc, cut_cons] at hacc
      have hrow : (rows.map (clT ls))[((i : Nat) : Int).toNat]? = some (clT ls c) := by rw [Int.toNat_natCast, List.getElem?_map, hc]; rfl
      have hcost : (rows.map fun c => T.list (c.map fun l => .str (csS (3 - k) l)))[((i : Nat) : Int).toNat]? = some (.list (c.map fun l => .str (csS (3 - k) l))) := by rw [Int.toNat_natCast, List.getElem?_map, hc]; rfl
      have hi63 : (i : Int) < 2 ^ 63 := by (first | exact z63 (Nat.le_trans (Nat.le_of_lt (ltA him)) hfew) rfl | lia)
      refine ⟨_, .name, fun Ψm hΨm => ?_⟩
      walk_at "m"
      refine ⟨_, _, _, rfl, rfl, Int.natCast_nonneg _, hi63, hcost, ?_⟩
      refine C_notIn (ts := c.map fun l => .str (csS (3 - k) l)) rfl (strs_dat _ c).1 (by rw [(strs_dat _ c).2]; decide) rfl ⟨_, rfl, ?_⟩
      rw [cs_any hs fun l hl => (hc2 l hl).2.2]
      by_cases hcc : c.contains (3 - k, s) = true
      · rw [if_neg (by rw [hcc]; decide)]
        rw [if_pos hcc] at hacc
        walk_at "m"
        refine (hΨm _ _ ?_).1
        exact ⟨acc, [], ⟨by (exact nxA him), hacc⟩, (Sub.cons rfl (Sub.cons rfl (Sub.cons rfl (Sub.cons rfl (Sub.cons rfl (Sub.cons rfl (Sub.cons rfl (Sub.cons rfl Sub.nil)))))))), rfl⟩
      · rw [if_pos (by rw [Bool.eq_false_iff.mpr hcc]; rfl)]
        rw [if_neg hcc] at hacc
        have hal : acc.length ≤ 10 := by
          have h1 := congrArg List.length hacc
          rw [List.length_append] at h1
          have h2 := (hR.cut (s := s)).few
          (first | exact Nat.le_trans (Nat.le_trans (Nat.le_add_right _ _) (Nat.le_of_eq h1)) h2 | lia)
        refine WPs_cons ?_
        refine WPx_append rfl (nameOk_of rfl) rfl rfl rfl rfl (fun _ _ => rfl) ?_
        refine WPe_ListComp (CompOk.name (by decide +kernel)) ?_ (fun _ _ => rfl) (Nat.succ_pos _)
        refine WPe_B1 hran (.inr ⟨_, rfl⟩) rfl rfl rfl ?_
        refine WPe_len hlen rfl rfl ?_
        walk_at "e"
        refine ⟨_, _, _, rfl, rfl, Int.natCast_nonneg _, hi63, hrow, ?_⟩
        refine ⟨c.map fun l => .str (wd ls l), rfl, by rw [List.length_map]; (exact Nat.lt_of_le_of_lt hc1 (by decide)), ?_⟩
        rw [List.length_map]
        refine F_range1 ?_
        refine ⟨rangeT 0 1 c.length, itemsD_range (a := 0) (by (exact Nat.lt_of_le_of_lt hc1 (by decide))) (Nat.zero_le _), rgK (Nat.le_trans hc1 (Nat.le_add_left _ _)), ?_⟩
        rw [show rangeT 0 1 c.length = (List.range' 0 c.length).map fun (i : Nat) => T.int (i : Int) from rangeT_map 0 c.length]
        refine CompP_ofIf (fun (i : Nat) => T.int (i : Int)) (fun p => .str (wd ls (c.getD p default))) (fun p => (c.getD p default).1 != 3 - k) (List.range' 0 c.length) [] (fun p hp => ⟨_, .name, ?_⟩) ?_
        · have hpl : p < c.length := by simpa [List.mem_range'_1] using hp
          have hpg : c[p]? = some (c.getD p default) := by rw [List.getD_eq_getElem?_getD, List.getElem?_eq_getElem hpl]; rfl
          refine ⟨?_, fun _ => ?_⟩
          · refine WPb_Compare ?_ rfl
            walk_at "e"
            refine ⟨_, _, _, rfl, rfl, Int.natCast_nonneg _, hi63, hcost, ?_⟩
            walk_at "e"
            refine ⟨_, _, .str (csS (3 - k) (c.getD p default)), rfl, rfl, Int.natCast_nonneg _, by (first | exact z63 (Nat.le_trans (Nat.le_of_lt hpl) hc1) rfl | lia), by rw [Int.toNat_natCast, List.getElem?_map, hpg]; rfl, ?_⟩
            walk_at "e"
            exact C_eqS ⟨_, rfl, rfl, cs_far⟩
          · walk_at "e"
            refine ⟨_, _, _, rfl, rfl, Int.natCast_nonneg _, hi63, hrow, ?_⟩
            walk_at "e"
            exact ⟨_, _, .str (wd ls (c.getD p default)), rfl, rfl, Int.natCast_nonneg _, by (first | exact z63 (Nat.le_trans (Nat.le_of_lt hpl) hc1) rfl | lia), by rw [Int.toNat_natCast, List.getElem?_map, hpg]; rfl, rfl, rfl⟩
        rw [filter_range (fun l => T.str (wd ls l)) (fun l => l.1 != 3 - k) default c, List.nil_append]
        refine ⟨acc.map (clT ls), clT ls (cutC (3 - k) c), rfl, rfl, mpK (Nat.le_trans hal (Nat.le_add_left _ _)), ?_⟩
        walk_at "m.red"
        walk_at "m"
        refine (hΨm _ _ ?_).1
        exact ⟨acc ++ [cutC (3 - k) c], [], ⟨by (first | exact nxA him | lia), by rw [List.append_assoc]; exact hacc⟩, (Sub.cons rfl (Sub.cons rfl (Sub.cons rfl (Sub.cons rfl (Sub.cons rfl (Sub.cons rfl (Sub.cons rfl (Sub.cons rfl Sub.nil)))))))), by rw [List.map_append]; rfl⟩
    · rintro i acc ρ ⟨him, hacc⟩ hsub
      refine WPs.sub ?_ hsub
      have hacc : acc = cut (3 - k) s rows := by
        have him : i = rows.length := him
        rw [← hacc, List.drop_of_length_le (i := i) (Nat.le_of_eq him.symm), show cut (3 - k) s [] = [] from rfl, List.append_nil]
      subst hacc
      have h34 : 3 - k + 1 = 4 - k := by (first | exact (Nat.succ_sub (Nat.le_of_succ_le_succ hk)).symm | lia)
      have hRc : RowsIn (4 - k) (cut (3 - k) s rows) := h34 ▸ hR.cut
      have hpk : 1 ≤ 2 ^ k := Nat.one_le_two_pow
      rw [List.length_cons, Nat.add_mul, Nat.one_mul] at hl1
      rw [List.length_cons] at hen
      refine WPs_freeze (i := 2) rfl ?_
      refine WPs_cons ?_
      refine WPx_append (i := 1) rfl (nameOk_of rfl) rfl rfl rfl rfl (fun _ _ => rfl) ?_
      refine WPe_Fn W (by decide +kernel) rfl rfl rfl ?_
      walk_at "e"
      refine ⟨(lv ls (3 - k) :: ls.drop (4 - k)).map lvT, some 1, none, none, rfl, rfl, rfl, rfl, by decide, by rw [List.length_map, ← hdrop, List.length_drop, L.four, sizeLine_eq]; (first | exact zLe (Nat.sub_le 4 _) rfl | omega), ?_⟩
      rw [show sliceT ((lv ls (3 - k) :: ls.drop (4 - k)).map lvT) (some 1) none none = (ls.drop (4 - k)).map lvT from sliceT_drop (a := 1) (by rw [List.length_map, List.length_cons]; exact Nat.le_add_left _ _)]
      walk_at "e"
      refine Con.own1 (i := 0) (ds := [.val (.list ((cut (3 - k) s rows).map (clT ls))), .val (.list ((ls.drop (4 - k)).map lvT)), .ref 0]) ⟨trivial, trivial, trivial, trivial⟩ rfl (by simp) (ih k rfl _ e1 hRc hE1 (by (first | exact Nat.le_trans (Nat.add_le_add_left (Nat.le_add_left _ _) _) hl1 | lia))) ?_
      rintro t ob' ⟨rfl, rfl⟩
      refine ⟨en.map fun e => .int (e : Nat), _, rfl, rfl, by rw [List.length_map, sizeLine_eq]; (first | exact zLe (Nat.le_of_add_right_le hen) rfl | lia), ?_⟩
      walk_at "m.red"
      walk_at "m"
      refine (hΨl _ _ ?_).1
      have hq241 := node_facts k (cut (3 - k) s rows) e1 hE1
      have f1 := hq241.1
      have f2 := hq241.2.1
      have f3 := hq241.2.2
      clear hq241
      exact ⟨step (en, e1) s, [.gone], ⟨hst, f1, by show (nodeP k (cut (3 - k) s rows) e1).2.length + _ ≤ _; (first | exact Nat.le_trans (Nat.add_le_add_right (Nat.le_of_succ_le f2) _) (zEq ((Nat.add_assoc _ _ _).trans (congrArg (_ + ·) (Nat.add_comm _ _))) hl1) | lia), by show (en ++ [_]).length + _ ≤ _; rw [List.length_append]; show en.length + 1 + _ ≤ _; (first | exact z18 hen | lia), fun s' h => hss s' (List.mem_cons_of_mem _ h)⟩, (Sub.cons rfl (Sub.cons rfl (Sub.cons rfl (Sub.cons rfl (Sub.cons rfl (Sub.cons rfl Sub.nil)))))), by show _ = [_, Ob.list ((en ++ [_]).map _)] ++ _; rw [List.map_append]; rfl⟩
  · rintro ⟨en, e1⟩ ρ ⟨hst, hE1, hl1, hen, hss⟩ hsub
    refine WPs.sub ?_ hsub
    have hst : (en, e1) = step (step ([], es) 0) 1 := hst
    have hq246 := node_facts k (cut (3 - k) 0 rows) es hE
    have a1 := hq246.1
    have a2 := hq246.2.1
    have a3 := hq246.2.2
    clear hq246
    have hq247 := node_facts k (cut (3 - k) 1 rows) _ a1
    have c1 := hq247.1
    have c2 := hq247.2.1
    have c3 := hq247.2.2
    clear hq247
    have hN := node_succ (k := k) es he hn
    dsimp only [step] at hst
    rw [Nat.pow_succ] at hlen8
    generalize (nodeP k (cut (3 - k) 0 rows) es).1 = a at a3 hst hN
    generalize (nodeP k (cut (3 - k) 0 rows) es).2 = es1 at a1 a2 a3 c1 c2 c3 hst hN
    generalize nodeP k (cut (3 - k) 1 rows) es1 = r at c1 c2 c3 hst hN
    obtain ⟨b, e2⟩ := r
    dsimp only at c1 c2 c3 hst hN
    obtain ⟨rfl, rfl⟩ := Prod.mk.inj hst
    dsimp only at hE1 hl1 hen
    have ha : a ≤ 200 := by lia
    have hb : b ≤ 200 := by lia
    have hl100 : e1.length ≤ 100 := by lia
    clear hst a1 a2 a3 c1 c2 c3 hl1 hlen8 hen hss
    rw [hN] at hfin
    clear hN ih hΨ hsub
    walk_at "m"
    refine ⟨_, 0, .int (a : Nat), rfl, rfl, by decide, by decide, rfl, ?_⟩
    walk_at "m"
    refine ⟨_, 1, .int (b : Nat), rfl, rfl, by decide, by decide, rfl, ?_⟩
    refine C_eqI ⟨_, rfl, ?_⟩
    by_cases hab : a = b
    · subst hab
      rw [if_pos (by simp)]
      walk_at "m"
      exact ⟨_, 0, .int (a : Nat), rfl, rfl, by decide, by decide, rfl, hfin (a, e1) _ (by unfold joinP; rw [if_pos rfl])⟩
    rw [if_neg (by rw [beq_iff_eq]; exact fun q => hab (Int.ofNat.inj q))]
    have sa : ∀ e ≤ 200, Small (.int (e : Nat)) := fun e he => .inl ⟨_, rfl, by rw [Int.natAbs_natCast]; (exact Nat.le_trans he (Nat.le_add_left _ _))⟩
    have hw := Wd.short _ hj4
    have hna := numS_short ha
    have hnb := numS_short hb
    have hdot : (Str.ofString ".").length = 1 := by decide +kernel
    have hq280 := Wd.mark (3 - k, a, b) hj4 ha hb
    have mk1 := hq280.1
    have mk2 := hq280.2
    clear hq280
    walk_at "m"
    refine WPe_Fn Wc.df (by decide +kernel) rfl rfl rfl ?_
    walk_at "e"
    refine WPe_strT hstr rfl rfl ?_
    walk_at "e"
    refine ⟨_, 0, .int (a : Nat), rfl, rfl, by decide, by decide, rfl, ?_⟩
    refine ⟨_, rfl, sa a ha, ?_⟩
    refine B_addS (by rw [sizeLine_eq]; show _ + (numS a).length ≤ _; (first | exact zLe (Nat.add_le_add hw hna) rfl | lia)) ?_
    walk_at "e"
    refine B_addS (by rw [sizeLine_eq, hdot]; show ((lv ls (3 - k)).w1 ++ numS a).length + 1 ≤ _; rw [Str.length_append]; (first | exact zLe (Nat.succ_le_succ (Nat.add_le_add hw hna)) rfl | lia)) ?_
    refine WPe_strT hstr rfl rfl ?_
    walk_at "e"
    refine ⟨_, 1, .int (b : Nat), rfl, rfl, by decide, by decide, rfl, ?_⟩
    refine ⟨_, rfl, sa b hb, ?_⟩
    refine B_addS (by rw [sizeLine_eq]; show ((lv ls (3 - k)).w1 ++ numS a ++ Str.ofString ".").length + (numS b).length ≤ _; rw [Str.length_append, Str.length_append, hdot]; (first | exact zLe (Nat.add_le_add (Nat.succ_le_succ (Nat.add_le_add hw hna)) hnb) rfl | lia)) ?_
    walk_at "e"
    show Con _ _ _ _ [.val (.str (markS ls (3 - k, a, b)))] _ _
    refine ((con_cv Wc mk1 (n := 0) (O := [.list (tabT ls e1), .list ([a, b].map fun e => .int (e : Nat))]) ⟨trivial, trivial, trivial⟩).le (by (exact Nat.le_add_left _ _))).retE ?_
    rw [mk2]
    walk_at "m.red"
    refine WPs_cons ?_
    refine WPx_Assign (nameOk_of rfl) ?_ (fun _ _ => rfl)
    obtain ⟨fdb, bodyb, Fb⟩ := Wb.bi.fn (by decide +kernel)
    refine WPe_Call Fb (ns_of rfl) (by decide) (WPe_glob Wb.bi.glob rfl ⟨rfl, ?_⟩ rfl)
    walk_at "e"
    refine WPe_len hlen rfl rfl ?_
    walk_at "e"
    refine ⟨tabT ls e1, rfl, by rw [tab_length]; (first | exact zLt (Nat.add_le_add_right hl100 2) rfl | lia), ?_⟩
    walk_at "e"
    refine B_sub ?_
    have hlm : (((tabT ls e1).length : Nat) : Int) - 1 = ((e1.length + 1 : Nat) : Int) := by rw [tab_length]; (first | exact Int.sub_eq_iff_eq_add.mpr rfl | lia)
    rw [hlm]
    walk_at "e"
    refine WPe_glob Wf.glob rfl ?_ rfl
    walk_at "e"
    refine ⟨rfl, ?_⟩
    refine Con.frame1 (i := 0) (ds := [.ref 0, .val (.list (markT ls (3 - k, a, b))), .val (.int (1 : Nat)), .val (.int (e1.length + 1 : Nat))]) (kws := [("key", .val (.static (.ref fi)))]) ⟨trivial, trivial, trivial⟩ rfl (by simp) (by simp) (((con_bisT (n := 0) Wb Wf hl100 (3 - k, a, b)).le (by (exact Nat.le_add_left _ _))).mono ?_)
    rintro d O' ⟨q, rfl, rfl, hq, hq1, hq2⟩
    refine ⟨_, [], rfl, ?_⟩
    walk_at "m.red"
    have hq321 := bis_at L hE1.ok (t := (3 - k, a, b)) hj4 hq hq1 hq2
    have g1 := hq321.1
    have g2 := hq321.2
    clear hq321
    have hq63 : ((q + 1 : Nat) : Int) < 2 ^ 63 := by (first | exact z63 (Nat.succ_le_succ (Nat.le_trans hq hl100)) rfl | lia)
    have hmd : depTs (markT ls (3 - k, a, b)) ≤ 40 := Nat.zero_le 40
    by_cases hm : (3 - k, a, b) ∈ e1
    · obtain ⟨j, hj, hat⟩ := g1 hm
      have hat : (tabT ls e1)[((q + 1 : Nat) : Int).toNat]? = some (entT ls ((3 - k, a, b), 8 + j)) := by rw [Int.toNat_natCast]; exact hat
      walk_at "m"
      refine ⟨tabT ls e1, _, _, rfl, rfl, Int.natCast_nonneg _, hq63, hat, ?_⟩
      walk_at "m"
      refine ⟨_, 0, .list (markT ls (3 - k, a, b)), rfl, rfl, by decide, by decide, rfl, ?_⟩
      walk_at "m"
      refine C_neL rfl rfl hmd ⟨_, rfl, ?_⟩
      rw [if_neg (by rw [eqTs_refl _ (by rfl)]; decide)]
      walk_at "m"
      refine ⟨tabT ls e1, _, _, rfl, rfl, Int.natCast_nonneg _, hq63, hat, ?_⟩
      walk_at "m"
      exact ⟨_, 1, .int (8 + j : Nat), rfl, rfl, by decide, by decide, rfl, hfin (8 + j, e1) _ (by unfold joinP; rw [if_neg hab, if_pos hm, idx_nodup hE1.nodup hj])⟩
    · obtain ⟨m, r, hat, md1, md2, hne⟩ := g2 hm
      have hat : (tabT ls e1)[((q + 1 : Nat) : Int).toNat]? = some (.list [.list m, r]) := by rw [Int.toNat_natCast]; exact hat
      have hnew : (tabT ls (e1 ++ [(3 - k, a, b)]))[((q + 1 : Nat) : Int).toNat]? = some (entT ls ((3 - k, a, b), 8 + e1.length)) := by rw [Int.toNat_natCast]; exact bis_new hq hq1 hq2
      walk_at "m"
      refine ⟨tabT ls e1, _, _, rfl, rfl, Int.natCast_nonneg _, hq63, hat, ?_⟩
      walk_at "m"
      refine ⟨_, 0, .list m, rfl, rfl, by decide, by decide, rfl, ?_⟩
      walk_at "m"
      refine C_neL md1 rfl (by rw [md2]; decide) ⟨_, rfl, ?_⟩
      rw [if_pos (by rw [hne]; rfl)]
      refine WPs_cons ?_
      refine WPx_Expr ?_ (fun _ _ => rfl)
      obtain ⟨fdi, bodyi, Fi⟩ := Wb.ins.fn (by decide +kernel)
      refine WPe_Call Fi (ns_of rfl) (by decide) (WPe_glob Wb.ins.glob rfl ⟨rfl, ?_⟩ rfl)
      walk_at "e"
      refine WPe_List ?_
      walk_at "e"
      refine WPe_len hlen rfl rfl ?_
      walk_at "e"
      refine ⟨tabT ls e1, rfl, by rw [tab_length]; (first | exact zLt (Nat.add_le_add_right hl100 2) rfl | lia), ?_⟩
      walk_at "e"
      refine B_add ?_
      have hl6 : (((tabT ls e1).length : Nat) : Int) + 6 = ((8 + e1.length : Nat) : Int) := by rw [tab_length]; (first | exact congrArg Int.ofNat (Nat.add_comm _ 8) | lia)
      rw [hl6]
      walk_at "e"
      refine ⟨rfl, _, rfl, ?_⟩
      walk_at "e"
      refine WPe_len hlen rfl rfl ?_
      walk_at "e"
      refine ⟨tabT ls e1, rfl, by rw [tab_length]; (first | exact zLt (Nat.add_le_add_right hl100 2) rfl | lia), ?_⟩
      walk_at "e"
      refine B_sub ?_
      rw [hlm]
      walk_at "e"
      refine WPe_glob Wf.glob rfl ?_ rfl
      walk_at "e"
      refine ⟨rfl, ?_⟩
      refine Con.frame1 (i := 0) (ds := [.ref 0, .val (entT ls ((3 - k, a, b), 8 + e1.length)), .val (.int (1 : Nat)), .val (.int (e1.length + 1 : Nat))]) (kws := [("key", .val (.static (.ref fi)))]) ⟨trivial, trivial, trivial⟩ rfl (by simp) (by simp) (((con_insT (n := 0) Wb Wf hl100 (3 - k, a, b)).le (by (exact Nat.le_add_left _ _))).mono ?_)
      rintro d O' ⟨rfl, rfl⟩
      refine ⟨_, [], rfl, ?_⟩
      refine ⟨rfl, ?_⟩
      walk_at "m.red"
      walk_at "m"
      refine ⟨tabT ls (e1 ++ [(3 - k, a, b)]), _, _, rfl, rfl, Int.natCast_nonneg _, hq63, hnew, ?_⟩
      walk_at "m"
      exact ⟨_, 1, .int (8 + e1.length : Nat), rfl, rfl, by decide, by decide, rfl, hfin (8 + e1.length, e1 ++ [(3 - k, a, b)]) _ (by unfold joinP; rw [if_neg hab, if_neg hm])⟩
theorem con_node {nd bi ins dt kd dt' kd' cv pt tb fi sub : Addr} (W : DefAt C PW "_law_node" nd .none .none) (Wb : BisW C PW bi ins dt kd dt' kd') (Wc : CvW C PW cv pt tb) (Wf : DefAt C PW "_law_first" fi .none .none) (Ws : SubW C PW sub) (hlen : Bi C "len" (.builtin "len")) (hran : Bi C "range" (.type "range")) (hstr : Bi C "str" (.type "str"))
    {ls : List Pr} (L : Lev ls) (Wd : WordsOk ls) : ∀ (k : Nat), k ≤ 4 → NodeC C (n + k + 4) nd ls k := fun k => by
  induction k with
  | zero => exact fun hk => node_step W Wb Wc Wf Ws hlen hran hstr L Wd 0 hk fun k' e => by cases e
  | succ k ih => exact fun hk => node_step W Wb Wc Wf Ws hlen hran hstr L Wd (k + 1) hk fun k' e => by cases e; exact ih (Nat.le_of_succ_le hk)
end
end

section
noncomputable def litT (l : Lit) : T := .list [.int (l.1 : Nat), .int (l.2 : Nat)]
noncomputable def wishT (c : Cl) : T := .list (c.map litT)
noncomputable def strB (bs : List Bool) : Str := ⟨(bs.map fun b => if b then 49 else 48).toArray⟩
noncomputable def bitW (way j : Nat) : Nat := way / 2 ^ (3 - j) % 2
noncomputable def litB (way : Nat) (l : Lit) : Bool := bitW way l.1 == l.2
noncomputable def metB (ws : List Cl) (way : Nat) : Bool := ws.all fun c => c.any (litB way)
noncomputable def toldB (ws : List Cl) : List Bool := (List.range' 0 16).map (metB ws)
theorem strB_append (a b : List Bool) : strB (a ++ b) = strB a ++ strB b := by
  unfold strB
  rw [List.map_append, ← List.append_toArray]; rfl
theorem strB_length (a : List Bool) : (strB a).length = a.length := by
  show ((a.map _).toArray).size = _
  rw [List.size_toArray, List.length_map]
theorem strB_one (b : Bool) : Str.ofString (toString (if b then (1 : Int) else 0)) = strB [b] := by cases b <;> decide +kernel
theorem strB_inj {a b : List Bool} (h : strB a = strB b) : a = b := by
  have h1 : a.map (fun b => if b then 49 else 48) = b.map (fun b => if b then 49 else 48) := by
    have := congrArg (fun s : Str => s.cps.toList) h
    exact this
  exact (List.map_inj_right (f := fun b : Bool => if b then 49 else 48) (fun x y e => by cases x <;> cases y <;> first | rfl | cases e)).mp h1
theorem bit_at : ∀ way < 16, ∀ j < 4, Builtin.bitAnd (Int.fdiv (way : Nat) (2 ^ ((3 : Int) - (j : Nat)).toNat)) 1 = (bitW way j : Nat) := by decide +kernel
theorem lit_row (way : Nat) (c : Cl) : eqTs ((c.filter (litB way)).map fun l => T.int (l.1 : Nat)) [] = !(c.any (litB way)) := by
  induction c with
  | nil => rfl
  | cons l c ih =>
    rw [List.filter_cons, List.any_cons]
    cases litB way l with
    | true => rw [if_pos rfl]; rfl
    | false => rw [if_neg Bool.false_ne_true, ih, Bool.false_or]
theorem met_all (p : Cl → Bool) (ws : List Cl) : (((ws.filter p).length : Int) == (ws.length : Int)) = ws.all p := by
  rw [Bool.eq_iff_iff, beq_iff_eq, List.all_eq_true, Int.natCast_inj, List.length_filter_eq_length_iff]
end

section
section
variable {C : Cx} {n : Nat}
theorem ints_dat {α : Type} (f : α → Int) : ∀ c : List α, datTs (c.map fun l => .int (f l)) = true ∧ depTs (c.map fun l => T.int (f l)) = 0
  | [] => ⟨rfl, rfl⟩
  | l :: c => ints_dat f c |>.imp (fun h => by rw [List.map_cons, datTs, h]; rfl) fun h => by rw [List.map_cons, depTs, h]; rfl
theorem con_told {a : Addr} (W : DefAt C PW "_law_told" a .none .none) (hlen : Bi C "len" (.builtin "len")) (hran : Bi C "range" (.type "range")) (hstr : Bi C "str" (.type "str")) (hint : Bi C "int" (.type "int"))
    {ws : List Cl} (few : ws.length ≤ 10) (ok : ∀ c ∈ ws, c.length ≤ 4 ∧ ∀ l ∈ c, l.1 < 4 ∧ l.2 < 2) {O : List Ob} (hO : noDicts O) : Con C (n + 2) (.ref a) O [.val (.list (ws.map wishT))] [] fun d O' => RetD O O' d fun t => t = .str (strB (toldB ws)) := by
  refine Con_fn ["wishes"] W hO (by simp) rfl (by decide +kernel) (fun pm cd doc => vs1 fun _ => rfl) ?_
  intro Ψr hΨr
  walk_at "m.body"
  walk_at "m"
  refine WPs_cons ?_
  refine WPx_For (.name (nameOk_of rfl)) ?_ (fun _ _ => rfl) (Nat.succ_pos _)
  refine WPe_B1 hran (.inr ⟨_, rfl⟩) rfl rfl rfl ?_
  walk_at "e"
  refine F_range1 ?_
  refine ⟨_, rangeT 0 1 16, rfl, itemsD_range (a := 0) (b := 16) (by decide) (by decide), ?_⟩
  refine ForP_rng (σ := List Bool) (fun bs => [("told", .val (.str (strB bs))), ("wishes", .val (.list (ws.map wishT)))]) (fun bs => []) (fun i m bs => i + m = 16 ∧ bs.length = i ∧ bs ++ (List.range' i m).map (metB ws) = toldB ws) 0 (fun _ => rfl) (fun _ => rfl) ?_ ?_ 0 16 [] _ ⟨rfl, rfl, rfl⟩ (Sub.cons rfl (Sub.cons rfl Sub.nil))
  · rintro i m bs ⟨him, hlb, hbs⟩
    rw [List.range'_succ, List.map_cons] at hbs
    have hi : i < 16 := by (exact ltA him)
    refine ⟨_, .name, fun Ψl hΨl => ?_⟩
    refine WPs_cons ?_
    refine WPx_AssignComp (CompOk.name (by decide +kernel)) rfl ?_ (fun env eo => swaps_local eo rfl rfl rfl) (fun _ _ => rfl) (Nat.succ_pos _)
    walk_at "e"
    refine ⟨_, rfl, mpK (Nat.le_trans few (Nat.le_add_left _ _)), CompP_ofIf wishT wishT (fun c => c.any (litB i)) ws [] (fun c hc => ⟨_, .name, ?_, fun _ => ?_⟩) ?_⟩
    · obtain ⟨hc1, hc2⟩ := ok c hc
      refine WPb_Compare ?_ rfl
      refine WPe_ListComp (CompOk.pair (by decide +kernel)) ?_ (fun _ _ => rfl) (Nat.succ_pos _)
      walk_at "e"
      refine ⟨_, rfl, mpK (Nat.le_trans hc1 (Nat.le_add_left _ _)), CompP_ofIf litT (fun l => .int (l.1 : Nat)) (litB i) c [] (fun l hl => ⟨_, .pair, ?_, fun _ => ?_⟩) ?_⟩
      · obtain ⟨hl1, hl2⟩ := hc2 l hl
        refine WPb_Compare ?_ rfl
        walk_at "e"
        refine B_sub ?_
        refine B_rshift (by (first | exact Int.sub_nonneg_of_le (Int.ofNat_le.mpr (Nat.le_of_lt_succ hl1)) | lia)) ?_
        walk_at "e"
        refine B_and ?_
        rw [bit_at i hi l.1 hl1]
        walk_at "e"
        refine C_eqI ⟨_, rfl, rfl, ?_⟩
        unfold litB
        rw [Bool.eq_iff_iff, beq_iff_eq, beq_iff_eq, Int.natCast_inj]
      · walk_at "e"
        exact ⟨rfl, rfl⟩
      · walk_at "e"
        refine WPe_List ?_
        walk_at "e"
        refine ⟨rfl, [], rfl, ?_⟩
        refine C_neL ?_ rfl ?_ ⟨_, rfl, rfl, ?_⟩
        · exact (ints_dat _ _).1
        · exact Nat.le_trans (Nat.le_of_eq (ints_dat _ _).2) (Nat.zero_le _)
        · rw [lit_row, Bool.not_not]
    · walk_at "e"
      exact ⟨rfl, rfl⟩
    · rw [List.nil_append]
      have hfl : (ws.filter fun c => c.any (litB i)).length ≤ ws.length := List.length_filter_le ..
      walk_at "m"
      refine WPe_strT hstr rfl rfl ?_
      refine WPe_B1 hint (.inr ⟨_, rfl⟩) rfl rfl rfl ?_
      walk_at "e"
      refine WPe_len hlen rfl rfl ?_
      walk_at "e"
      refine ⟨_, rfl, by rw [List.length_map]; (first | exact zLt (Nat.le_trans hfl few) rfl | lia), ?_⟩
      refine WPe_len hlen rfl rfl ?_
      walk_at "e"
      refine ⟨_, rfl, by rw [List.length_map]; (exact Nat.lt_of_le_of_lt few (by decide)), ?_⟩
      rw [List.length_map, List.length_map]
      refine C_eqI ?_
      rw [met_all]
      refine F_intB ?_
      refine ⟨_, rfl, .inl ⟨_, rfl, by split <;> decide⟩, ?_⟩
      show WPt _ _ _ [_, .val (.str (Str.ofString (toString (if metB ws i then (1 : Int) else 0))))] _ _
      rw [strB_one]
      refine B_addS (by rw [strB_length, strB_length, sizeLine_eq, hlb]; show i + 1 ≤ _; (exact Nat.le_trans hi (Nat.le_add_left _ _))) ?_
      rw [← strB_append]
      walk_at "m"
      refine (hΨl _ _ ?_).1
      exact ⟨bs ++ [metB ws i], [], ⟨by (exact nxA him), by rw [List.length_append, hlb]; rfl, by rw [List.append_assoc]; exact hbs⟩, Sub.cons rfl (Sub.cons rfl Sub.nil), rfl⟩
  · rintro i bs ρ ⟨him, hlb, hbs⟩ hsub
    refine WPs.sub ?_ hsub
    walk_at "m"
    refine hΨr _ _ ?_
    rw [← hbs]
    show _ = T.str (strB (bs ++ []))
    rw [List.append_nil]
end
end

section
noncomputable def cutS (x : Str) (i j : Nat) : Str := ⟨((x.cps.toList.drop i).take (j - i)).toArray⟩
inductive SliceSP (d a b : D) (P : Str → Prop) : Prop
  | intro (x : Str) (i j : Nat) (e : d = .val (.str x)) (hij : i ≤ j) (hj : j ≤ x.length) (hs : x.length ≤ sizeLine) (ha : (a = .val .none ∧ i = 0) ∨ a = .val (.int i)) (hb : (b = .val .none ∧ j = x.length) ∨ b = .val (.int j)) (k : P (cutS x i j))
theorem indices_at {x : Str} {i j : Nat} {p q : Option Int} (hij : i ≤ j) (hj : j ≤ x.length) (hp : (p = none ∧ i = 0) ∨ p = some (i : Int)) (hq : (q = none ∧ j = x.length) ∨ q = some (j : Int)) :
    Builtin.Str.strSliceIndices p q 1 x.length = (List.range (j - i)).map fun k => i + k := by
  rw [← StrLaws.strSliceIndices_plain hij hj]
  have e1 : Builtin.Str.strSliceIndices p q 1 x.length = Builtin.Str.strSliceIndices (some (i : Int)) q 1 x.length := by
    rcases hp with ⟨rfl, rfl⟩ | rfl
    · unfold Builtin.Str.strSliceIndices
      simp
      rw [show max (0 : Int) (min 0 (x.length : Int)) = 0 by rfl]
    · rfl
  rw [e1]
  rcases hq with ⟨rfl, rfl⟩ | rfl
  · unfold Builtin.Str.strSliceIndices
    simp
    congr 1
    lia
  · rfl
theorem made_at {x : Str} {t : Tok} {l u : Option (Int × Tok)} {i j : Nat} (hij : i ≤ j) (hj : j ≤ x.length) (hs : x.length ≤ sizeLine) (hp : (l.map (·.1) = none ∧ i = 0) ∨ l.map (·.1) = some (i : Int)) (hq : (u.map (·.1) = none ∧ j = x.length) ∨ u.map (·.1) = some (j : Int))
    {Q : Value → Shared → Prop} {s : Shared} (h : ∀ t' k, Q (.str (cutS x i j) t') { s with toks := k }) : (sliceMade x t l u none).post Q s := by
  have e : slicePicked x l u none = (List.range (j - i)).map fun k => i + k := indices_at hij hj hp hq
  unfold sliceMade
  rw [e]
  split
  · rename_i hc
    have hlen : j - i = x.length := by
      simp at hc; exact hc
    have hx : cutS x i j = x := by
      have hi : i = 0 := by (first | exact Nat.le_zero.mp (Nat.le_of_add_le_add_left (zEq ((Nat.sub_eq_iff_eq_add hij).mp hlen).symm hj)) | lia)
      have hj' : j - i = x.cps.toList.length := by rw [hlen, Array.length_toList]; rfl
      unfold cutS
      rw [hi, List.drop_zero, ← hi, hj', List.take_length]
    have := h t s.toks
    rw [hx] at this
    exact this
  · have hx : (⟨(((List.range (j - i)).map fun k => i + k).filterMap (x.cps[·]?)).toArray⟩ : Str) = cutS x i j := by
      unfold cutS
      have := StrLaws.sliced_plain x hij hj
      rw [StrLaws.strSliceIndices_plain hij hj] at this
      rw [this]
    rw [hx]
    refine ⟨Nat.le_trans ?_ hs, h _ _⟩
    show ((x.cps.toList.drop i).take (j - i)).toArray.size ≤ x.cps.size
    rw [List.size_toArray, List.length_take, List.length_drop, Array.length_toList]
    (first | exact Nat.le_trans (Nat.min_le_right _ _) (Nat.sub_le _ _) | omega)
section
variable {C : Cx} {n : Nat} {sc : Kinds} {ρ : Vars} {O : List Ob}
theorem partS_is {H as d v} {i len : Nat} (h : (d = .val .none ∧ i = len) ∨ d = .val (.int i)) (hv : DenD H as d v) : ∃ l : Option (Int × Tok), v = partValue l ∧ ((l.map (·.1) = none ∧ i = len) ∨ l.map (·.1) = some (i : Int)) := by
  rcases h with ⟨rfl, e⟩ | rfl
  · obtain rfl := denNone hv
    exact ⟨none, rfl, .inl ⟨rfl, e⟩⟩
  · obtain ⟨t, rfl⟩ := denInt hv
    exact ⟨some (i, t), rfl, .inr rfl⟩
theorem WPe_sliceS {value lo hi p pos} {Φ : D → List Ob → Prop}
    (h : WPe C n sc ρ O value fun d O₁ => WPo C n sc ρ O₁ lo fun a O₂ => WPo C n sc ρ O₂ hi fun b O₃ => SliceSP d a b fun us => Φ (.val (.str us)) O₃) :
    WPe C n sc ρ O (.Subscript value (.Slice lo hi none p) pos) Φ := fun A env H as s E rm eo M l => by
  refine SubscriptC_ (wpC_mono (h A env H as s E rm eo M l) (fun v₁ s₁ qq => qq.out fun d₁ O₁ H₁ as₁ h₁ M₁ D₁ R₁ => ?_) fun _ _ x => x)
  have l₁ := l.rel R₁
  refine wpC_Slice (wpC_mono (part_ rm eo M₁ l₁ h₁) (fun v₂ s₂ qq => qq.out fun d₂ O₂ H₂ as₂ h₂ M₂ D₂ R₂ => ?_) fun _ _ x => x)
  have l₂ := l₁.rel R₂
  refine wpC_mono (part_ rm eo M₂ l₂ h₂) (fun v₃ s₃ qq => qq.out fun d₃ O₃ H₃ as₃ hq M₃ D₃ R₃ => ?_) fun _ _ x => x
  refine wpC_mono (part_ (e := none) (Φ := fun c O' => c = .val .none ∧ O' = O₃) rm eo M₃ (l₂.rel R₃) ⟨rfl, rfl⟩) (fun v₄ s₄ qq => qq.out fun d₄ O₄ H₄ as₄ hc M₄ D₄ R₄ => ?_) fun _ _ x => x
  obtain ⟨rfl, rfl⟩ := hc
  obtain ⟨x, i, j, rfl, hij, hj, hs, ha, hb, hk⟩ := hq
  obtain ⟨tx, rfl⟩ := denStr D₁
  obtain rfl := denNone D₄
  obtain ⟨lq, rfl, hl⟩ := partS_is ha D₂
  obtain ⟨uq, rfl, hu⟩ := partS_is hb D₃
  have RR := ((R₁.trans R₂).trans R₃).trans R₄
  obtain ⟨M₅, R₅⟩ := M₄.same (s' := { s₄ with heap := s₄.heap.push { cls := .type "slice", data := .fields #[partValue lq, partValue uq, .none] } }) (fun b o e => Heap.get?_push_of_some _ e) rfl rfl
  have goal : wpAny (model C.prog C.w) A (getItem (.str x tx) (.ref s₄.heap.objs.size)) (After C A [] H as s Φ) E { s₄ with heap := s₄.heap.push { cls := .type "slice", data := .fields #[partValue lq, partValue uq, .none] } } := by
    refine wpAny_getItem_str_slice (l := lq) (u := uq) (st := none) ⟨_, Heap.get?_push_size _ rfl, rfl, rfl⟩ rfl (made_at hij hj hs hl hu fun t' k => ?_)
    exact ⟨_, O₄, H₄, as₄, hk, M₅.tok _, isStr, (RR.trans (R₅ _)).trans (Rel.tok _)⟩
  exact tail_any (typeIs_str _ _ _) F.slot_str_getitem.lookup goal (ops := [.ref s₄.heap.objs.size, .str x tx]) rfl
end
end

section
noncomputable abbrev Kn := Nat × List Bool
noncomputable def knT (p : Kn) : T := .list [.int (p.1 : Nat), .str (strB p.2)]
noncomputable def unlike (st : List Bool) : Bool := st.take (st.length / 2) != st.drop (st.length / 2)
noncomputable def addD (due : List Kn) (p : Kn) : List Kn := if unlike p.2 && !due.contains p then due ++ [p] else due
noncomputable def stretch (row : List Bool) (j p : Nat) : List Bool := (row.drop p).take (16 / 2 ^ j)
noncomputable def candL (row : List Bool) (j : Nat) : List Kn := (List.range' 0 (2 ^ j)).map fun i => (j, stretch row j (i * (16 / 2 ^ j)))
noncomputable def candR (row : List Bool) : List Kn := (List.range' 0 4).flatMap (candL row)
noncomputable def dueP (rows : List (List Bool)) : List Kn := (rows.flatMap candR).foldl addD []
theorem addD_length (xs : List Kn) : ∀ due : List Kn, due.length ≤ (xs.foldl addD due).length ∧ (xs.foldl addD due).length ≤ due.length + xs.length := by
  induction xs with
  | nil => exact fun due => ⟨Nat.le_refl _, Nat.le_refl _⟩
  | cons p xs ih =>
    intro due
    obtain ⟨h1, h2⟩ := ih (addD due p)
    rw [List.foldl_cons, List.length_cons]
    have h : due.length ≤ (addD due p).length ∧ (addD due p).length ≤ due.length + 1 := by
      unfold addD
      split
      · rw [List.length_append]; exact ⟨Nat.le_add_right _ _, Nat.le_refl _⟩
      · exact ⟨Nat.le_refl _, Nat.le_succ _⟩
    (first | exact ⟨Nat.le_trans h.1 h1, Nat.le_trans h2 (Nat.le_trans (Nat.add_le_add_right h.2 _) (Nat.le_of_eq zAs))⟩ | lia)
theorem candR_length (row : List Bool) : (candR row).length = 15 := by
  unfold candR candL
  rfl
theorem kn_any (p : Kn) : ∀ due : List Kn, ((due.map knT).any fun t => eqT t (knT p)) = due.contains p
  | [] => rfl
  | q :: due => by
    rw [List.map_cons, List.any_cons, List.contains_cons, kn_any p due]
    congr 1
    rw [Bool.eq_iff_iff, beq_iff_eq, eqT_iff (by rfl)]
    constructor
    · intro h
      unfold knT at h
      injection h with h
      injection h with h1 h
      injection h with h2 _
      injection h1 with h1
      injection h2 with h2
      exact (Prod.ext (Int.ofNat.inj h1) (strB_inj h2)).symm
    · intro h; rw [h]
theorem kns_dat : ∀ due : List Kn, datTs (due.map knT) = true ∧ depTs (due.map knT) ≤ 1
  | [] => ⟨rfl, Nat.zero_le _⟩
  | q :: due => (kns_dat due).imp (fun h => by rw [List.map_cons, datTs, h]; rfl) fun h => by rw [List.map_cons, depTs]; exact Nat.max_le.mpr ⟨Nat.le_refl 1, h⟩
theorem kn_fam (due : List Kn) : Fam (due.map knT) := fun a ha b hb => by
  obtain ⟨p, _, rfl⟩ := List.mem_map.mp ha
  obtain ⟨q, _, rfl⟩ := List.mem_map.mp hb
  unfold knT
  rw [cmpT_list, cmpTs]
  split
  · rw [cmpTs]
    split <;> rfl
  · rfl
theorem stretch_length {row : List Bool} (h : row.length = 16) : ∀ j < 4, ∀ i < 2 ^ j, i * (16 / 2 ^ j) + 16 / 2 ^ j ≤ 16 ∧ (stretch row j (i * (16 / 2 ^ j))).length = 16 / 2 ^ j := fun j hj i hi => by
  have h1 : i * (16 / 2 ^ j) + 16 / 2 ^ j ≤ 16 := (by decide : ∀ j < 4, ∀ i < 2 ^ j, i * (16 / 2 ^ j) + 16 / 2 ^ j ≤ 16) j hj i hi
  refine ⟨h1, ?_⟩
  unfold stretch
  rw [List.length_take, List.length_drop, h]
  (first | exact Nat.min_eq_left (Nat.le_sub_of_add_le' h1) | lia)
end

section
theorem cutS_strB (bs : List Bool) (i j : Nat) : cutS (strB bs) i j = strB ((bs.drop i).take (j - i)) := by
  unfold cutS strB
  dsimp only
  rw [List.map_take, List.map_drop]
theorem C_neS {C : Cx} {n : Nat} {O : List Ob} {Φ : D → List Ob → Prop} {x y : Str} (h : Φ (.val (.bool (x != y))) O) : WPt C n O [.val (.str x), .val (.str y)] (opC .NotEq) Φ := WPt_ss fun A H as s E t t' M => ne_str (after_bool M h)
theorem strB_ne (a b : List Bool) : (strB a != strB b) = (a != b) := by
  rw [bne, bne]
  congr 1
  rw [Bool.eq_iff_iff, beq_iff_eq, beq_iff_eq]
  exact ⟨strB_inj, fun h => by rw [h]⟩
theorem cut_unlike {st : List Bool} {z : Nat} (h : st.length = z) : (cutS (strB st) 0 (z / 2) != cutS (strB st) (z / 2) z) = unlike st := by
  rw [cutS_strB, cutS_strB, strB_ne]
  unfold unlike
  rw [h, List.drop_zero, Nat.sub_zero, List.take_of_length_le (i := z - z / 2) (by rw [List.length_drop, h]; exact Nat.le_refl _)]
theorem items_step (O : List Ob) : ∀ j < 4, itemsD O (.val (.range 0 16 (16 / 2 ^ j : Nat))) = some ((List.range' 0 (2 ^ j)).map fun i => T.int ((i * (16 / 2 ^ j) : Nat) : Int))
  | 0, _ => rfl
  | 1, _ => rfl
  | 2, _ => rfl
  | 3, _ => rfl
section
variable {C : Cx} {n : Nat}
theorem con_due {a : Addr} (W : DefAt C PW "_law_due" a .none .none) (hran : Bi C "range" (.type "range")) (hsor : Bi C "sorted" (.builtin "sorted"))
    {rows : List (List Bool)} (few : rows.length ≤ 2) (ok : ∀ r ∈ rows, r.length = 16) {O : List Ob} (hO : noDicts O) : Con C (n + 2) (.ref a) O [.val (.list (rows.map fun r => .str (strB r)))] [] fun d O' => RetD O O' d fun t => ∃ us, us.Perm ((dueP rows).map knT) ∧ Up us ∧ t = .list us := by
  refine Con_fn ["rows"] W hO (by simp) rfl (by decide +kernel) (fun pm cd doc => vs1 fun _ => rfl) ?_
  intro Ψr hΨr
  have h30 : (dueP rows).length ≤ 30 := by
    have h1 := (addD_length (rows.flatMap candR) []).2
    have h2 := flatMap_few (f := candR) (k := 15) (fun r => Nat.le_of_eq (candR_length r)) rows
    rw [List.length_nil, Nat.zero_add] at h1
    unfold dueP
    (first | exact Nat.le_trans h1 (Nat.le_trans h2 (Nat.mul_le_mul_left 15 few)) | lia)
  walk_at "m.body"
  refine WPs_cons ?_
  refine WPx_empty (nameOk_of rfl) (fun _ _ => rfl) ?_
  walk_at "m.red"
  refine WPs_cons ?_
  refine WPx_For (.name (nameOk_of rfl)) ?_ (fun _ _ => rfl) (Nat.succ_pos _)
  walk_at "e"
  refine ⟨_, _, rfl, rfl, ?_⟩
  refine ForP_map (σ := List Kn) (fun r : List Bool => .str (strB r)) (fun due => [("due", .ref 0), ("rows", .val (.list (rows.map fun r => .str (strB r))))]) (fun due => [.list (due.map knT)])
    (fun rs due => (∀ r ∈ rs, r.length = 16) ∧ (rs.flatMap candR).foldl addD due = dueP rows) 1 (fun _ => rfl) (fun _ => rfl) ?_ ?_ rows [] _ ⟨ok, rfl⟩ (Sub.cons rfl (Sub.cons rfl Sub.nil))
  · rintro r rs due ⟨hrs, hdue⟩
    have hr := hrs r (List.mem_cons_self ..)
    have hrl : (strB r).length = 16 := (strB_length r).trans hr
    rw [List.flatMap_cons, List.foldl_append] at hdue
    refine ⟨_, .name, fun Ψ1 hΨ1 => ?_⟩
    refine WPs_cons ?_
    refine WPx_For (.name (nameOk_of rfl)) ?_ (fun _ _ => rfl) (Nat.succ_pos _)
    refine WPe_B1 hran (.inr ⟨_, rfl⟩) rfl rfl rfl ?_
    walk_at "e"
    refine F_range1 ?_
    refine ⟨_, rangeT 0 1 4, rfl, itemsD_range (a := 0) (b := 4) (by decide) (by decide), ?_⟩
    refine ForP_rng (σ := List Kn) (fun due => [("row", .val (.str (strB r))), ("due", .ref 0), ("rows", .val (.list (rows.map fun r => .str (strB r))))]) (fun due => [.list (due.map knT)])
      (fun j m d1 => j + m = 4 ∧ ((List.range' j m).flatMap (candL r)).foldl addD d1 = (candR r).foldl addD due) 1 (fun _ => rfl) (fun _ => rfl) ?_ ?_ 0 4 due _ ⟨rfl, rfl⟩ (Sub.cons rfl (Sub.cons rfl (Sub.cons rfl Sub.nil)))
    · rintro j m d1 ⟨hjm, hd1⟩
      have hj : j < 4 := by (exact ltA hjm)
      rw [List.range'_succ, List.flatMap_cons, List.foldl_append] at hd1
      have hsz : Int.fdiv 16 (2 ^ ((j : Nat) : Int).toNat) = ((16 / 2 ^ j : Nat) : Int) := (by decide : ∀ j < 4, Int.fdiv 16 (2 ^ ((j : Nat) : Int).toNat) = ((16 / 2 ^ j : Nat) : Int)) j hj
      refine ⟨_, .name, fun Ψ2 hΨ2 => ?_⟩
      walk_at "asg"
      refine B_rshift (Int.natCast_nonneg _) ?_
      rw [hsz]
      refine WPs_cons ?_
      refine WPx_For (.name (nameOk_of rfl)) ?_ (fun _ _ => rfl) (Nat.succ_pos _)
      refine WPe_CallB (.inr ⟨_, rfl⟩) (ns_of rfl) (WPe_builtin hran.1 hran.2 rfl ⟨rfl, ?_⟩ rfl)
      walk_at "e"
      have hz : 16 / 2 ^ j ≤ 16 ∧ 1 < 16 / 2 ^ j := (by decide : ∀ j < 4, 16 / 2 ^ j ≤ 16 ∧ 1 < 16 / 2 ^ j) j hj
      refine ConB.con (F_range3 (by (first | exact fun ze => Nat.ne_zero_of_lt hz.2 (Int.ofNat_inj.mp ze) | lia)) (by (first | exact zLt hz.1 rfl | omega)) ?_)
      refine ⟨_, _, rfl, items_step _ j hj, ?_⟩
      have hstr : ∀ i < 2 ^ j, i * (16 / 2 ^ j) + 16 / 2 ^ j ≤ 16 ∧ (stretch r j (i * (16 / 2 ^ j))).length = 16 / 2 ^ j := stretch_length hr j hj
      have hcl : candL r j = (List.range' 0 (2 ^ j)).map fun i => (j, stretch r j (i * (16 / 2 ^ j))) := rfl
      have hst' : ∀ p, stretch r j p = (r.drop p).take (16 / 2 ^ j) := fun p => rfl
      rw [hcl] at hd1
      generalize 16 / 2 ^ j = z at hz hstr hd1 hst' ⊢
      refine ForP_map (σ := List Kn) (fun i : Nat => .int ((i * z : Nat) : Int)) (fun d => [("size", .val (.int (z : Nat))), ("level", .val (.int (j : Nat))), ("row", .val (.str (strB r))), ("due", .ref 0), ("rows", .val (.list (rows.map fun r => .str (strB r))))]) (fun d => [.list (d.map knT)])
        (fun is d => (∀ i ∈ is, i < 2 ^ j) ∧ (is.map fun i => (j, stretch r j (i * z))).foldl addD d = ((List.range' 0 (2 ^ j)).map fun i => (j, stretch r j (i * z))).foldl addD d1) 1 (fun _ => rfl) (fun _ => rfl) ?_ ?_ (List.range' 0 (2 ^ j)) d1 _ ⟨fun i hi => by simpa [List.mem_range'_1] using hi, rfl⟩ (Sub.cons rfl (Sub.cons rfl (Sub.cons rfl (Sub.cons rfl (Sub.cons rfl Sub.nil)))))
      · rintro i is d ⟨his, hd⟩
        obtain ⟨hp, hsl⟩ := hstr i (his i (List.mem_cons_self ..))
        rw [List.map_cons, List.foldl_cons] at hd
        have hdl : d.length ≤ 30 := by
          have q1 := (addD_length (is.map fun i => (j, stretch r j (i * z))) (addD d (j, stretch r j (i * z)))).1
          have q2 := (addD_length [(j, stretch r j (i * z))] d).1
          rw [hd] at q1
          have q3 := (addD_length ((List.range' (j + 1) m).flatMap (candL r)) (((List.range' 0 (2 ^ j)).map fun i => (j, stretch r j (i * z))).foldl addD d1)).1
          rw [hd1] at q3
          have q4 := (addD_length (rs.flatMap candR) ((candR r).foldl addD due)).1
          rw [hdue] at q4
          exact Nat.le_trans q2 (Nat.le_trans q1 (Nat.le_trans q3 (Nat.le_trans q4 h30)))
        have hst := hst' (i * z)
        generalize i * z = p at hp hsl hd hst ⊢
        generalize stretch r j p = st at hsl hd hst ⊢
        have hstl : (strB st).length = z := (strB_length st).trans hsl
        refine ⟨_, .name, fun Ψ3 hΨ3 => ?_⟩
        refine WPs_cons ?_
        refine WPx_Assign (nameOk_of rfl) ?_ (fun _ _ => rfl)
        refine WPe_sliceS ?_
        walk_at "e"
        refine B_add ?_
        refine ⟨strB r, p, p + z, rfl, Nat.le_add_right _ _, by rw [hrl]; exact hp, by rw [hrl, sizeLine_eq]; decide, .inr rfl, .inr rfl, ?_⟩
        rw [cutS_strB, Nat.add_sub_cancel_left, ← hst]
        refine WPs_cons ?_
        refine WPx_If ?_
        refine WPb_and ?_
        refine WPb_Compare ?_ rfl
        refine WPe_sliceS ?_
        walk_at "e"
        refine B_floordiv (by decide) (by decide) ?_
        have hz2 : Int.fdiv (z : Int) 2 = ((z / 2 : Nat) : Int) := by rw [Int.fdiv_eq_ediv_of_nonneg _ (by decide)]; rfl
        rw [hz2]
        refine ⟨strB st, 0, z / 2, rfl, Nat.zero_le _, by rw [hstl]; (first | exact Nat.div_le_self _ 2 | lia), by rw [hstl, sizeLine_eq]; (first | exact zLe hz.1 rfl | lia), .inl ⟨rfl, rfl⟩, .inr rfl, ?_⟩
        refine WPe_sliceS ?_
        walk_at "e"
        refine B_floordiv (by decide) (by decide) ?_
        rw [hz2]
        walk_at "e"
        refine ⟨strB st, z / 2, z, rfl, by (first | exact Nat.div_le_self _ 2 | lia), Nat.le_of_eq hstl.symm, by rw [hstl, sizeLine_eq]; (first | exact zLe hz.1 rfl | lia), .inr rfl, .inl ⟨rfl, hstl.symm⟩, ?_⟩
        refine C_neS ⟨_, rfl, ?_⟩
        rw [cut_unlike hsl]
        have hnext : ∀ d', d' = addD d (j, st) → ∀ (ρ' : Vars) (O' : List Ob), ρ' = ([("stretch", .val (.str (strB st))), ("place", .val (.int (p : Nat))), ("size", .val (.int (z : Nat))), ("level", .val (.int (j : Nat))), ("row", .val (.str (strB r))), ("due", .ref 0), ("rows", .val (.list (rows.map fun r => .str (strB r))))] : Vars) → O' = [Ob.list (d'.map knT)] → Ψ3 (.next ρ' O') := by
          rintro d' rfl _ _ rfl rfl
          exact (hΨ3 _ _ ⟨addD d (j, st), [], ⟨fun i h => his i (List.mem_cons_of_mem _ h), hd⟩, (Sub.cons rfl (Sub.cons rfl (Sub.cons rfl (Sub.cons rfl (Sub.cons rfl Sub.nil))))), rfl⟩).1
        cases hu : unlike st with
        | false =>
          rw [if_neg Bool.false_ne_true, if_neg Bool.false_ne_true]
          walk_at "m"
          exact hnext d (by unfold addD; rw [hu]; rfl) _ _ rfl rfl
        | true =>
          rw [if_pos rfl]
          refine WPb_Compare ?_ rfl
          refine WPe_List ?_
          walk_at "e"
          refine ⟨rfl, _, rfl, ?_⟩
          walk_at "e"
          refine C_notIn (x := knT (j, st)) (ts := d.map knT) rfl (kns_dat d).1 (Nat.le_trans (kns_dat d).2 (by decide)) rfl ⟨_, rfl, ?_⟩
          rw [kn_any]
          cases hc : d.contains (j, st) with
          | true =>
            rw [if_neg (by decide)]
            walk_at "m"
            exact hnext d (by unfold addD; rw [hu, hc]; rfl) _ _ rfl rfl
          | false =>
            rw [if_pos (show (!false) = true from rfl)]
            refine WPs_cons ?_
            refine WPx_append rfl (nameOk_of rfl) rfl rfl rfl rfl (fun _ _ => rfl) ?_
            refine WPe_List ?_
            walk_at "e"
            refine ⟨rfl, _, rfl, ?_⟩
            refine ⟨d.map knT, _, rfl, rfl, mpK (Nat.le_trans hdl (Nat.le_add_left _ _)), ?_⟩
            walk_at "m.red"
            walk_at "m"
            exact hnext (d ++ [(j, st)]) (by unfold addD; rw [hu, hc]; rfl) _ _ rfl (by rw [List.map_append]; rfl)
      · rintro d ρ ⟨_, hd⟩ hsub
        refine WPs_nil ?_
        refine (hΨ2 _ _ ?_).1
        exact ⟨d, [], ⟨by (exact nxA hjm), by rw [show d = _ from hd]; exact hd1⟩, Sub.trans (Sub.cons rfl (Sub.cons rfl (Sub.cons rfl Sub.nil))) hsub, rfl⟩
    · rintro j d ρ ⟨_, hd⟩ hsub
      refine WPs_nil ?_
      refine (hΨ1 _ _ ?_).1
      exact ⟨d, [], ⟨fun r h => hrs r (List.mem_cons_of_mem _ h), by rw [show d = _ from hd]; exact hdue⟩, Sub.trans (Sub.cons rfl (Sub.cons rfl Sub.nil)) hsub, rfl⟩
  · rintro due ρ ⟨_, hdue⟩ hsub
    have hdue : due = dueP rows := hdue
    subst hdue
    refine WPs.sub ?_ hsub
    walk_at "m"
    refine WPe_B1 hsor (.inl ⟨_, rfl⟩) rfl rfl rfl ?_
    walk_at "e"
    refine F_sorted (ts := (dueP rows).map knT) rfl (by rw [List.length_map]; (exact Nat.lt_of_le_of_lt h30 (by decide))) (fun t ht => ?_) (kns_dat _).1 (Nat.le_trans (kns_dat _).2 (by decide)) (kn_fam _) fun us hp hu => hΨr _ _ ⟨us, hp, hu, rfl⟩
    obtain ⟨p, _, rfl⟩ := List.mem_map.mp ht
    exact ⟨_, rfl⟩
end
end

section
noncomputable def ex (j : Nat) (p : Kn) : List Bool := repL (2 ^ (p.1 - j)) p.2
noncomputable def getK (kn : List Kn) (e : Nat) : Kn := if e = 0 then (4, [false]) else if e = 1 then (4, [true]) else kn.getD (e - 8) (0, [])
noncomputable def knStep (kn : List Kn) (t : Tri) : List Kn := kn ++ [(t.1, ex (t.1 + 1) (getK kn t.2.1) ++ ex (t.1 + 1) (getK kn t.2.2))]
noncomputable def knL (es : List Tri) : List Kn := es.foldl knStep []
noncomputable def keysK (m : Nat) : List Int := 0 :: 1 :: (List.range' 8 m).map fun (i : Nat) => (i : Int)
noncomputable def valsK (kn : List Kn) : List T := knT (4, [false]) :: knT (4, [true]) :: kn.map knT
noncomputable def EndOk (i e : Nat) : Prop := e = 0 ∨ e = 1 ∨ (8 ≤ e ∧ e < 8 + i)
structure KnOk (es : List Tri) : Prop where
  few : es.length ≤ 40
  lv : ∀ t ∈ es, t.1 < 4
  ends : ∀ i t, es[i]? = some t → ∀ e, e = t.2.1 ∨ e = t.2.2 → EndOk i e ∧ t.1 < (getK (knL (es.take i)) e).1 ∧ (getK (knL (es.take i)) e).1 ≤ 4 ∧ (getK (knL (es.take i)) e).2.length ≤ 16
theorem knL_snoc (es : List Tri) (t : Tri) : knL (es ++ [t]) = knStep (knL es) t := by
  unfold knL; rw [List.foldl_append]; rfl
theorem knL_take {es : List Tri} {i : Nat} {t : Tri} (h : es[i]? = some t) : knL (es.take (i + 1)) = knStep (knL (es.take i)) t := by
  rw [← knL_snoc]
  obtain ⟨h1, h2⟩ := List.getElem?_eq_some_iff.mp h
  rw [← h2, List.take_append_getElem]
theorem knStep_length (kn : List Kn) (t : Tri) : (knStep kn t).length = kn.length + 1 := by unfold knStep; rw [List.length_append]; rfl
theorem foldl_kn_length (es : List Tri) : ∀ kn : List Kn, (es.foldl knStep kn).length = kn.length + es.length := by
  induction es with
  | nil => exact fun kn => rfl
  | cons t es ih => intro kn; rw [List.foldl_cons, ih, knStep_length, List.length_cons, Nat.add_assoc, Nat.add_comm 1]
theorem knL_length (es : List Tri) : (knL es).length = es.length := (foldl_kn_length es []).trans (Nat.zero_add _)
theorem zip_ints_lookup (f : Kn → T) : ∀ (kn : List Kn) (b e : Nat), b ≤ e → e < b + kn.length → (((List.range' b kn.length).map fun (i : Nat) => (i : Int)).zip (kn.map f)).lookup (e : Int) = some (f (kn.getD (e - b) (0, [])))
  | [], b, e, h1, h2 => absurd h2 (by simpa using h1)
  | p :: kn, b, e, h1, h2 => by
    rw [List.length_cons, List.range'_succ, List.map_cons, List.map_cons, List.zip_cons_cons, List.lookup_cons]
    by_cases q : e = b
    · subst q
      rw [beq_self_eq_true, Nat.sub_self]; rfl
    · have hne : ((e : Int) == (b : Int)) = false := beq_false_of_ne fun h => q (Int.ofNat.inj h)
      rw [hne]
      dsimp only
      rw [zip_ints_lookup f kn (b + 1) e (by (first | exact Nat.lt_of_le_of_ne h1 fun ze => q ze.symm | lia)) (by rw [List.length_cons] at h2; (first | exact Nat.lt_of_lt_of_eq h2 zAs.symm | lia))]
      have : e - b = e - (b + 1) + 1 := by (first | exact zSub (Nat.lt_of_le_of_ne h1 fun ze => q ze.symm) | lia)
      rw [this]; rfl
theorem kn_lookup {kn : List Kn} {e : Nat} (h : EndOk kn.length e) : ((keysK kn.length).zip (valsK kn)).lookup (e : Int) = some (knT (getK kn e)) := by
  unfold keysK valsK
  rw [List.zip_cons_cons, List.zip_cons_cons]
  rcases h with rfl | rfl | ⟨h1, h2⟩
  · rfl
  · rfl
  · have n0 : ((e : Int) == 0) = false := beq_false_of_ne fun q => by (first | exact zNe h1 rfl (Int.ofNat_inj.mp q) | lia)
    have n1 : ((e : Int) == 1) = false := beq_false_of_ne fun q => by (first | exact zNe h1 rfl (Int.ofNat_inj.mp q) | lia)
    rw [List.lookup_cons, n0, List.lookup_cons, n1]
    dsimp only
    rw [zip_ints_lookup knT kn 8 e h1 h2]
    unfold getK
    rw [if_neg (by (first | exact Nat.ne_zero_of_lt h1 | lia)), if_neg (by (first | exact zNe h1 rfl | lia))]
theorem keysK_succ (m : Nat) : keysK (m + 1) = keysK m ++ [((8 + m : Nat) : Int)] := by
  unfold keysK
  rw [List.range'_concat, List.map_append, Nat.one_mul]; rfl
theorem keysK_new (m : Nat) : ((8 + m : Nat) : Int) ∉ keysK m := by
  unfold keysK
  intro h
  rcases List.mem_cons.mp h with h | h
  · (first | exact zNe (Nat.le_add_right 8 _) rfl (Int.ofNat_inj.mp h) | omega)
  · rcases List.mem_cons.mp h with h | h
    · (first | exact zNe (Nat.le_add_right 8 _) rfl (Int.ofNat_inj.mp h) | lia)
    · obtain ⟨i, hi, e⟩ := List.mem_map.mp h
      rw [List.mem_range'_1] at hi
      (first | exact Nat.ne_of_lt hi.2 (Int.ofNat_inj.mp e) | omega)
theorem valsK_step (kn : List Kn) (t : Tri) : valsK (knStep kn t) = valsK kn ++ [knT (t.1, ex (t.1 + 1) (getK kn t.2.1) ++ ex (t.1 + 1) (getK kn t.2.2))] := by
  unfold valsK knStep
  rw [List.map_append]; rfl
theorem mid_find {ls : List Pr} {es : List Tri} {i : Nat} {t : Tri} (h : es[i]? = some t) : ((midE ls es).filter fun p => p.2 == 8 + i)[0]? = some (t, 8 + i) := by
  have hm : (t, 8 + i) ∈ (midE ls es).filter fun p => p.2 == 8 + i := List.mem_filter.mpr ⟨midE_mem.mpr ⟨i, h, rfl⟩, by simp⟩
  cases hf : (midE ls es).filter fun p => p.2 == 8 + i with
  | nil => rw [hf] at hm; cases hm
  | cons p r =>
    have hp : p ∈ (midE ls es).filter fun p => p.2 == 8 + i := by rw [hf]; exact List.mem_cons_self ..
    obtain ⟨h1, h2⟩ := List.mem_filter.mp hp
    obtain ⟨j, q1, q2⟩ := midE_mem.mp h1
    have h2 : p.2 = 8 + i := by simpa using h2
    have hj : j = i := by lia
    subst hj
    rw [h] at q1
    exact congrArg some (Prod.ext (Option.some.inj q1).symm h2)
theorem strB_rep (bs : List Bool) (k : Nat) : repStr (strB bs) k = strB (repL k bs) := by
  unfold repStr strB repL
  dsimp only
  rw [List.map_flatten, List.map_replicate]
theorem repL_length {α : Type} (xs : List α) : ∀ k, (repL k xs).length = k * xs.length
  | 0 => (Nat.zero_mul _).symm
  | k + 1 => by
    have : repL (k + 1) xs = xs ++ repL k xs := rfl
    rw [this, List.length_append, repL_length xs k, Nat.add_mul, Nat.one_mul, Nat.add_comm]
theorem ex_length (j : Nat) (p : Kn) : (ex j p).length = 2 ^ (p.1 - j) * p.2.length := by
  unfold ex
  exact repL_length _ _
end

section
theorem lv_get {ls : List Pr} (L : Lev ls) {k : Nat} (hk : k < 4) : (ls.map lvT)[((k : Nat) : Int).toNat]? = some (lvT (lv ls k)) := by
  have h1 : k < ls.length := by rw [L.four]; exact hk
  rw [Int.toNat_natCast, List.getElem?_map, List.getElem?_eq_getElem h1]
  unfold lv
  rw [List.getD_eq_getElem?_getD, List.getElem?_eq_getElem h1]; rfl
theorem lv_eq {ls : List Pr} (L : Lev ls) {j k : Nat} (hj : j < 4) (hk : k < 4) : eqTs [.int (lv ls j).r1, .str (lv ls j).w1] [.int (lv ls k).r1, .str (lv ls k).w1] = decide (j = k) := by
  rw [Bool.eq_iff_iff, decide_eq_true_iff]
  constructor
  · intro h
    have := eqTs_eq _ _ h
    injection this with h1 h
    injection h with h2 _
    injection h1 with h1
    injection h2 with h2
    exact lev_inj L hj hk h1 h2
  · rintro rfl; exact eqTs_refl _ rfl
section
variable {C : Cx} {n : Nat}
theorem con_unfolded {a : Addr} (W : DefAt C PW "_law_unfolded" a .none .none) (hlen : Bi C "len" (.builtin "len")) (hran : Bi C "range" (.type "range"))
    {ls : List Pr} (L : Lev ls) {es : List Tri} (K : KnOk es) {O : List Ob} (hO : noDicts O) : Con C (n + 2) (.ref a) O [.val (.list ((midE ls es).map (entT ls))), .val (.list (ls.map lvT))] [] fun d O' => RetD O O' d fun t => t = .dict (keysK es.length) (valsK (knL es)) := by
  refine Con_fn ["table", "levels"] W hO (by simp) rfl (by decide +kernel) (fun pm cd doc => vs2 fun _ _ => rfl) ?_
  intro Ψr hΨr
  have hfew := K.few
  have hml : ((midE ls es).map (entT ls)).length = es.length := by rw [List.length_map, midE_length]
  walk_at "m.body"
  refine WPs_cons ?_
  refine WPx_Assign (nameOk_of rfl) ?_ (fun _ _ => rfl)
  refine WPe_Dict rfl rfl (by simp) (by decide) ?_
  refine WPp_cons ?_
  walk_at "e"
  refine WPe_List ?_
  walk_at "e"
  refine ⟨rfl, _, rfl, ?_⟩
  refine WPp_cons ?_
  walk_at "e"
  refine WPe_List ?_
  walk_at "e"
  refine ⟨rfl, _, rfl, ?_⟩
  refine WPp_nil ?_
  refine ⟨rfl, [0, 1], valsK [], rfl, by decide, rfl, rfl, ?_⟩
  walk_at "m.red"
  refine WPs_cons ?_
  refine WPx_For (.name (nameOk_of rfl)) ?_ (fun _ _ => rfl) (Nat.succ_pos _)
  refine WPe_CallB (.inr ⟨_, rfl⟩) (ns_of rfl) (WPe_builtin hran.1 hran.2 rfl ⟨rfl, ?_⟩ rfl)
  walk_at "e"
  refine WPe_len hlen rfl rfl ?_
  walk_at "e"
  refine ⟨_, rfl, by rw [hml]; (exact Nat.lt_of_le_of_lt hfew (by decide)), ?_⟩
  rw [hml]
  walk_at "e"
  refine B_add ?_
  walk_at "e"
  refine ConB.con (F_range2 ?_)
  have hr8 : itemsD [Ob.dict [0, 1] (valsK [])] (.val (.range 8 ((es.length : Nat) + 8 : Int) 1)) = some (rangeT (8 : Nat) 1 es.length) := by
    have := itemsD_range2 (O := [Ob.dict [0, 1] (valsK [])]) (a := 8) (b := es.length + 8) (by (first | exact zLt (Nat.add_le_add_right hfew 8) rfl | lia)) (by (exact Nat.le_add_left _ _))
    rw [Nat.add_sub_cancel] at this
    exact this
  refine ⟨_, _, rfl, hr8, ?_⟩
  refine ForP_rng (σ := List Kn) (fun kn => [("known", .ref 0), ("levels", .val (.list (ls.map lvT))), ("table", .val (.list ((midE ls es).map (entT ls))))]) (fun kn => [.dict (keysK kn.length) (valsK kn)])
    (fun i m kn => ∃ q, i = 8 + q ∧ q + m = es.length ∧ kn = knL (es.take q)) 1 (fun _ => rfl) (fun _ => rfl) ?_ ?_ 8 es.length [] _ ⟨0, rfl, Nat.zero_add _, rfl⟩ (Sub.cons rfl (Sub.cons rfl (Sub.cons rfl Sub.nil)))
  · rintro i m kn ⟨q, rfl, hqm, rfl⟩
    obtain ⟨t, ht⟩ : ∃ t, es[q]? = some t := ⟨es[q], List.getElem?_eq_getElem (by (exact ltA hqm))⟩
    have hkl : (knL (es.take q)).length = q := by rw [knL_length, List.length_take]; (first | exact Nat.min_eq_left (Nat.le_of_lt (ltA hqm)) | lia)
    have ht4 := K.lv t (List.mem_of_getElem? ht)
    have hends := K.ends q t ht
    have hstep := knL_take ht
    generalize knL (es.take q) = kn at hkl hends hstep ⊢
    refine ⟨_, .name, fun Ψl hΨl => ?_⟩
    refine WPs_cons ?_
    refine WPx_Assign (nameOk_of rfl) ?_ (fun _ _ => rfl)
    refine WPe_item trivial ?_
    refine WPe_ListComp (CompOk.name (by decide +kernel)) ?_ (fun _ _ => rfl) (Nat.succ_pos _)
    walk_at "e"
    refine ⟨_, rfl, by rw [hml, sizeLine_eq]; (exact Nat.le_trans hfew (Nat.le_add_left _ _)), CompP_ofIf (entT ls) (fun p => .list (markT ls p.1)) (fun p => p.2 == 8 + q) (midE ls es) [] (fun p hp => ⟨_, .name, ?_, fun _ => ?_⟩) ?_⟩
    · refine WPb_Compare ?_ rfl
      walk_at "e"
      refine ⟨_, 1, .int (p.2 : Nat), rfl, rfl, by decide, by decide, rfl, ?_⟩
      walk_at "e"
      refine C_eqI ⟨_, rfl, rfl, ?_⟩
      rw [Bool.eq_iff_iff, beq_iff_eq, beq_iff_eq, Int.natCast_inj]
    · walk_at "e"
      exact ⟨_, 0, .list (markT ls p.1), rfl, rfl, by decide, by decide, rfl, rfl, rfl⟩
    walk_at "e"
    refine ⟨_, 0, .list (markT ls t), rfl, rfl, by decide, by decide, ?_, ?_⟩
    · show (List.map _ _)[0]? = _
      rw [List.getElem?_map, mid_find ht]; rfl
    walk_at "m.red"
    refine WPs_cons ?_
    refine WPx_Assign (nameOk_of rfl) ?_ (fun _ _ => rfl)
    refine WPe_item trivial ?_
    refine WPe_ListComp (CompOk.name (by decide +kernel)) ?_ (fun _ _ => rfl) (Nat.succ_pos _)
    refine WPe_B1 hran (.inr ⟨_, rfl⟩) rfl rfl rfl ?_
    walk_at "e"
    refine F_range1 ?_
    refine ⟨rangeT 0 1 4, itemsD_range (a := 0) (b := 4) (by decide) (by decide), rgK (by decide), ?_⟩
    rw [show rangeT 0 1 4 = (List.range' 0 4).map fun (i : Nat) => T.int (i : Int) from rangeT_map 0 4]
    refine CompP_ofIf (fun (i : Nat) => T.int (i : Int)) (fun (i : Nat) => T.int (i : Int)) (fun i => decide (i = t.1)) (List.range' 0 4) [] (fun k hk => ⟨_, .name, ?_, fun _ => ?_⟩) ?_
    · have hk4 : k < 4 := by simpa [List.mem_range'_1] using hk
      refine WPb_Compare ?_ rfl
      walk_at "e"
      refine ⟨_, _, _, rfl, rfl, Int.natCast_nonneg _, by (exact s63 (Nat.le_trans (Nat.le_of_lt hk4) (by decide))), lv_get L hk4, ?_⟩
      walk_at "e"
      refine ⟨markT ls t, none, some 2, none, rfl, rfl, rfl, rfl, by decide, by rw [sizeLine_eq]; show 6 ≤ _; decide, ?_⟩
      rw [show sliceT (markT ls t) none (some 2) none = [.int (lv ls t.1).r1, .str (lv ls t.1).w1] from sliceT_take (b := 2) (by show 2 ≤ 6; decide)]
      refine C_eqL rfl rfl (Nat.zero_le _) ⟨_, rfl, rfl, ?_⟩
      exact lv_eq L hk4 ht4
    · walk_at "e"
      exact ⟨rfl, rfl⟩
    walk_at "e"
    refine ⟨_, 0, .int (t.1 : Nat), rfl, rfl, by decide, by decide, ?_, ?_⟩
    · show (List.map _ _)[0]? = _
      rw [(by decide : ∀ j < 4, ((List.range' 0 4).filter fun i => decide (i = j)) = [j]) t.1 ht4]; rfl
    walk_at "m.red"
    refine WPs_cons ?_
    refine WPx_AssignComp (CompOk.name (by decide +kernel)) rfl ?_ (fun env eo => swaps_local eo rfl rfl rfl) (fun _ _ => rfl) (Nat.succ_pos _)
    refine WPe_List ?_
    walk_at "e"
    refine ⟨markT ls t, 3, .int (t.2.1 : Nat), rfl, rfl, by decide, by decide, rfl, ?_⟩
    walk_at "e"
    refine ⟨markT ls t, 5, .int (t.2.2 : Nat), rfl, rfl, by decide, by decide, rfl, ?_⟩
    walk_at "e"
    refine ⟨rfl, _, rfl, ?_⟩
    refine ⟨[t.2.1, t.2.2].map fun (e : Nat) => T.int (e : Int), rfl, by rw [sizeLine_eq]; show 2 ≤ _; decide, ?_⟩
    have hex : ∀ e, e = t.2.1 ∨ e = t.2.2 → (ex (t.1 + 1) (getK kn e)).length ≤ 256 := fun e he => by
      obtain ⟨_, h1, h2, h3⟩ := hends e he
      rw [ex_length]
      have : 2 ^ ((getK kn e).1 - (t.1 + 1)) ≤ 2 ^ 4 := Nat.pow_le_pow_right (by decide) (by (exact Nat.le_trans (Nat.sub_le _ _) h2))
      exact Nat.le_trans (Nat.mul_le_mul this h3) (by decide)
    refine CompP_of (fun (e : Nat) => T.int (e : Int)) (fun e => .str (strB (ex (t.1 + 1) (getK kn e)))) [t.2.1, t.2.2] [] (fun e he => ⟨_, .name, ?_⟩) ?_
    · have he : e = t.2.1 ∨ e = t.2.2 := by simpa using he
      obtain ⟨h0, h1, h2, h3⟩ := hends e he
      have hlk := kn_lookup (kn := kn) (by rw [hkl]; exact h0)
      have hxl := hex e he
      rw [ex_length] at hxl
      refine WPe_BinOp ?_
      refine WPe_item trivial ?_
      refine WPe_ditem trivial ?_
      walk_at "e"
      refine ⟨_, _, _, _, rfl, rfl, hlk, ?_⟩
      walk_at "e"
      refine ⟨_, 1, .str (strB (getK kn e).2), rfl, rfl, by decide, by decide, rfl, ?_⟩
      refine WPe_BinOp ?_
      walk_at "m.red"
      refine WPe_int ?_
      refine WPe_BinOp ?_
      refine WPe_BinOp ?_
      refine WPe_item trivial ?_
      refine WPe_ditem trivial ?_
      walk_at "e"
      refine ⟨_, _, _, _, rfl, rfl, hlk, ?_⟩
      walk_at "e"
      refine ⟨_, 0, .int ((getK kn e).1 : Nat), rfl, rfl, by decide, by decide, rfl, ?_⟩
      walk_at "e"
      refine B_sub ?_
      walk_at "e"
      refine B_sub ?_
      have hsub : ((getK kn e).1 : Int) - (t.1 : Int) - 1 = (((getK kn e).1 - (t.1 + 1) : Nat) : Int) := by (first | exact (Int.sub_sub _ _ _).trans (Int.ofNat_sub h1).symm | omega)
      rw [hsub]
      have hpw : (2 : Int) ^ (((getK kn e).1 - (t.1 + 1) : Nat) : Int).toNat = ((2 ^ ((getK kn e).1 - (t.1 + 1)) : Nat) : Int) := by rw [Int.toNat_natCast]; exact (Int.natCast_pow 2 _).symm
      refine B_pow (Int.natCast_nonneg _) (by have : (Builtin.Int.intBits 2 : Int) = 2 := by decide +kernel
                                              rw [this]; (first | exact z27 (zLe (Nat.le_trans (Nat.sub_le _ _) h2) rfl) | lia)) ?_
      rw [hpw]
      have hp4 : 2 ^ ((getK kn e).1 - (t.1 + 1)) ≤ 2 ^ 4 := Nat.pow_le_pow_right (by decide) (by (exact Nat.le_trans (Nat.sub_le _ _) h2))
      have h256 : 256 ≤ sizeLine := by rw [sizeLine_eq]; decide
      have hmul : (strB (getK kn e).2).length * (((2 ^ ((getK kn e).1 - (t.1 + 1)) : Nat) : Int)).toNat ≤ sizeLine := by
        rw [Int.toNat_natCast, strB_length, Nat.mul_comm]
        exact Nat.le_trans hxl h256
      refine B_mulS (Int.natCast_nonneg _) (by (first | exact z20 hp4 rfl | lia)) (by rw [strB_length]; (exact Nat.lt_of_le_of_lt h3 (by decide))) hmul ?_
      rw [Int.toNat_natCast, strB_rep]
      exact ⟨rfl, rfl⟩
    have hx1 := hex t.2.1 (.inl rfl)
    have hx2 := hex t.2.2 (.inr rfl)
    refine WPs_cons ?_
    refine WPx_setD ?_ (fun _ _ => rfl)
    refine WPe_List ?_
    walk_at "e"
    refine ⟨_, 0, .str (strB (ex (t.1 + 1) (getK kn t.2.1))), rfl, rfl, by decide, by decide, rfl, ?_⟩
    walk_at "e"
    refine ⟨_, 1, .str (strB (ex (t.1 + 1) (getK kn t.2.2))), rfl, rfl, by decide, by decide, rfl, ?_⟩
    refine B_addS (by rw [strB_length, strB_length, sizeLine_eq]; (first | exact zLe (Nat.add_le_add hx1 hx2) rfl | lia)) ?_
    rw [← strB_append]
    walk_at "e"
    refine ⟨rfl, _, rfl, ?_⟩
    walk_at "e"
    refine ⟨0, keysK kn.length, valsK kn, ((8 + q : Nat) : Int), _, rfl, rfl, rfl, by rw [hkl]; exact keysK_new q, by unfold keysK; rw [List.length_cons, List.length_cons, List.length_map, List.length_range', sizeLine_eq]; (first | exact zLe (Nat.succ_le_succ (Nat.succ_le_succ (zEq hkl (Nat.le_trans (Nat.le_of_lt (ltA hqm)) hfew)))) rfl | lia), rfl, ?_⟩
    walk_at "m"
    refine (hΨl _ _ ?_).1
    refine ⟨knStep kn t, [], ⟨q + 1, rfl, by (exact nxA hqm), hstep.symm⟩, Sub.cons rfl (Sub.cons rfl (Sub.cons rfl Sub.nil)), ?_⟩
    rw [knStep_length, keysK_succ, valsK_step, hkl]; rfl
  · rintro i kn ρ ⟨q, _, hqm, hkn⟩ hsub
    have hq : q = es.length := hqm
    subst hq
    rw [List.take_length] at hkn
    subst hkn
    refine WPs.sub ?_ hsub
    refine WPs_freezeD (i := 0) rfl ?_
    walk_at "m"
    exact hΨr _ _ (by rw [knL_length])
end
end

section
theorem BindsTo.of_kwd {s : Shared} {fd : FuncData} {args : Args} {binds : List (Str × Value)} {T d : Addr} {o : Obj} {items : Array Value} {n : Nat} {m : Str → Option Value} {x : Str}
    {k : Option (Array Value) → Sem (List (Str × Value))} {α β : Type} {f1 : Option Value → Sem α} {f2 : α → Sem β} {f3 : β → Sem (List (Str × Value))} (hd : fd.defaults = .ref T) (ho : s.heap.get? T = some o) (hs : o.data = .seq items n)
    (h₁ : bindArgs fd args = seqItems? fd.defaults >>= k) (h₂ : k (some items) = ((nsGet d x >>= f1) >>= f2) >>= f3) (hn : s.heap.Ns d m) (h₃ : (f1 (m x) >>= f2) >>= f3 = pure binds) : BindsTo s fd args binds :=
  fun M A E Q hq => by
    rw [h₁, hd]
    refine wpAny_bind (wpAny_seqItems ho hs ?_)
    rw [h₂]
    rw [bind_assoc, bind_assoc]
    refine wpAny_bind (wpAny_nsGet hn ?_)
    rw [← bind_assoc, h₃]
    exact wpAny_pure hq
section
variable {C : Cx} {A : Around} {H : PHeap} {as : List Addr} {O : List Ob} {s : Shared}
theorem bind_b4 {pm cd doc : Value} {dt kd} (W : BisD C dt kd) (M : Mem C A H as O s) (va vx vl vh : Value) : BindsTo s (fdOf PW "bisect_left" pm cd doc (.ref dt) (.ref kd)) ⟨[va, vx, vl, vh], []⟩ (bisXs.zip [va, vx, vl, vh, .none]) := by
  obtain ⟨o, t, k, h1, h2⟩ := W.tup
  obtain ⟨m, hn, hm⟩ := W.kw
  refine BindsTo.of_kwd (x := "key") rfl (M.keepB _ _ h1) h2 rfl rfl (hn.keeps M.keepB) ?_
  rw [hm]
  rfl
theorem bind_i2 {pm cd doc : Value} {dt kd} (W : BisD C dt kd) (M : Mem C A H as O s) (va vx : Value) : ∃ t, BindsTo s (fdOf PW "insort_left" pm cd doc (.ref dt) (.ref kd)) ⟨[va, vx], []⟩ (bisXs.zip [va, vx, .int 0 t, .none, .none]) := by
  obtain ⟨o, t, k, h1, h2⟩ := W.tup
  obtain ⟨m, hn, hm⟩ := W.kw
  refine ⟨t, BindsTo.of_kwd (x := "key") rfl (M.keepB _ _ h1) h2 rfl rfl (hn.keeps M.keepB) ?_⟩
  rw [hm]
  rfl
noncomputable abbrev bis0 (x : T) (l h : D) : Vars := bisXs.zip [.ref 0, .val x, l, h, .val .none]
theorem con_bis0 {n : Nat} {bi ins dt kd dt' kd' : Addr} (W : BisW C PW bi ins dt kd dt' kd') {ts : List T} {x : T} (hsz : ts.length ≤ 100) (hc : CmpOk id x ts) (hr : Rises id x ts 0 ts.length) :
    Con C (n + 1) (.ref bi) [.list ts] [.ref 0, .val x, .val (.int (0 : Nat)), .val .none] [] fun d O' => ∃ p : Nat, d = .val (.int p) ∧ O' = [.list ts] ∧ BisTo id x ts 0 ts.length p := by
  have hsz' : ts.length < 2 ^ 62 := Nat.lt_of_le_of_lt hsz (by decide)
  refine Con_at W.bi (ρ₀ := bis0 x (.val (.int (0 : Nat))) (.val .none)) (by show textOkB PW "bisect_left" bisXs = true; decide +kernel) (fun pm cd doc A H as s vs kvs M h1 h2 h3 => ?_) ?_
  · obtain ⟨va, vx, vl, vh, rfl, q1, q2, q3, q4⟩ := dens4 h1
    obtain rfl := kws_nil h2
    exact ⟨_, bind_b4 W.d1 M va vx vl vh, .of rfl ⟨q1, q2, q3, q4, isNone, trivial⟩⟩
  · walk_at "m.body"
    dsimp only [bis0, bisXs, List.zip_cons_cons, List.zip_nil_left]
    walk_at "m"
    refine C_ltI (.neg (by decide) ?_)
    walk_at "m"
    refine C_isNone (by intro u q; cases q) (.pos (by rfl) ?_)
    walk_at "m"
    refine WPe_len W.len rfl rfl ?_
    walk_at "e"
    refine ⟨ts, rfl, hsz', ?_⟩
    walk_at "m"
    refine C_isNone (by intro u q; cases q) (.pos (by rfl) ?_)
    refine WPs_cons (WPx_While (k := ts.length) (fun k ρ O => ∃ l h : Nat, ρ = ([("a", .ref 0), ("x", .val x), ("lo", .val (.int l)), ("hi", .val (.int h))] : Vars) ∧ O = [.list ts] ∧ k = h - l ∧ l ≤ h ∧ h ≤ ts.length ∧
        (∀ i t, i < l → ts[i]? = some t → ltT t x = true) ∧ (∀ i t, h ≤ i → i < ts.length → ts[i]? = some t → ltT t x = false)) ⟨[("a", .ref 0), ("x", .val x), ("lo", .val (.int (0 : Nat))), ("hi", .val (.int ts.length))], Sub.cons rfl (Sub.cons rfl (Sub.cons rfl (Sub.cons rfl Sub.nil))), 0, ts.length, rfl, rfl, rfl, Nat.zero_le _, Nat.le_refl _, fun i t h1 h2 => absurd h1 (Nat.not_lt_zero i), fun i t h1 h2 => absurd h2 (Nat.not_lt.mpr h1)⟩ ?_)
    rintro k ρ O ⟨l, h, rfl, rfl, rfl, q2, q3, q4, q5⟩
    walk_at "m"
    refine C_ltI ⟨_, rfl, ?_⟩
    by_cases hlt : l < h
    · rw [if_pos (by simpa using hlt)]
      walk_at "m"
      refine B_add ?_
      walk_at "m"
      refine B_floordiv (by decide) (by decide) ?_
      have emid : Int.fdiv ((l : Int) + (h : Int)) 2 = (((l + h) / 2 : Nat) : Int) := by
        rw [Int.fdiv_eq_ediv_of_nonneg _ (by decide)]; rfl
      rw [emid]
      have hm1 : l ≤ (l + h) / 2 := by (first | exact z40 hlt | lia)
      have hm2 : (l + h) / 2 < h := by (first | exact z28 hlt | lia)
      generalize (l + h) / 2 = mid at hm1 hm2
      obtain ⟨t, ht⟩ : ∃ t, ts[mid]? = some t := ⟨ts[mid]'(Nat.lt_of_lt_of_le hm2 q3), List.getElem?_eq_getElem _⟩
      obtain ⟨c1, c2, c3⟩ := hc.2 t (List.mem_of_getElem? ht)
      walk_at "m"
      refine ⟨ts, mid, t, rfl, rfl, Int.natCast_nonneg _, by (first | exact z63 (Nat.le_trans (Nat.le_of_lt hm2) (Nat.le_trans q3 hsz)) rfl | lia), by simpa using ht, ?_⟩
      walk_at "m"
      refine C_lt c1 hc.1 c2 c3 ⟨_, rfl, ?_⟩
      cases hb : ltT t x with
      | true =>
        rw [if_pos rfl]
        walk_at "m"
        refine B_add ?_
        walk_at "m"
        refine ⟨h - (mid + 1), _, by (first | exact Nat.sub_lt_sub_left hlt (Nat.lt_succ_of_le hm1) | omega), Sub.cons rfl (Sub.cons rfl (Sub.cons rfl (Sub.cons rfl Sub.nil))), mid + 1, h, rfl, rfl, rfl, hm2, q3, fun i u hi hu => ?_, q5⟩
        exact hr i mid u t (Nat.zero_le _) (Nat.le_of_lt_succ hi) (Nat.lt_of_lt_of_le hm2 q3) hu ht hb
      | false =>
        rw [if_neg Bool.false_ne_true]
        walk_at "m"
        refine ⟨mid - l, _, by (first | exact om4 hm2 hlt | omega), Sub.cons rfl (Sub.cons rfl (Sub.cons rfl (Sub.cons rfl Sub.nil))), l, mid, rfl, rfl, rfl, hm1, Nat.le_of_lt (Nat.lt_of_lt_of_le hm2 q3), q4, fun i u hi hi2 hu => ?_⟩
        cases hlu : ltT u x with
        | false => rfl
        | true => exact absurd (hr mid i t u (Nat.zero_le _) hi hi2 ht hu hlu) (by show ¬ ltT t x = true; rw [hb]; decide)
    · rw [if_neg (by simpa using hlt)]
      walk_at "m"
      exact ⟨l, rfl, rfl, Nat.zero_le _, Nat.le_trans q2 q3, fun i t _ h1 h2 => q4 i t h1 h2, fun i t h1 h2 hu => q5 i t (Nat.le_trans (Nat.le_of_not_lt hlt) h1) h2 hu⟩
theorem con_ins0 {n : Nat} {bi ins dt kd dt' kd' : Addr} (W : BisW C PW bi ins dt kd dt' kd') {ts : List T} {x : T} (hsz : ts.length ≤ 100) (hc : CmpOk id x ts) (hr : Rises id x ts 0 ts.length) :
    Con C (n + 2) (.ref ins) [.list ts] [.ref 0, .val x] [] fun d O' => d = .val .none ∧ O' = [.list (insW (fun a b => ltT a b) x ts)] := by
  refine Con_at W.ins (ρ₀ := bis0 x (.val (.int (0 : Nat))) (.val .none)) (by show textOkB PW "insort_left" bisXs = true; decide +kernel) (fun pm cd doc A H as s vs kvs M h1 h2 h3 => ?_) ?_
  · obtain ⟨va, vx, rfl, q1, q2⟩ := dens2 h1
    obtain rfl := kws_nil h2
    obtain ⟨t, hb⟩ := bind_i2 W.d2 M va vx
    exact ⟨_, hb, .of rfl ⟨q1, q2, isInt, isNone, isNone, trivial⟩⟩
  · walk_at "m.body"
    dsimp only [bis0, bisXs, List.zip_cons_cons, List.zip_nil_left]
    walk_at "m"
    refine C_isNone (by intro u q; cases q) (.pos (by rfl) ?_)
    walk_at "m"
    refine WPe_Fn W.bi (by decide +kernel) rfl rfl rfl ?_
    walk_at "e"
    refine ((con_bis0 (n := n) W hsz hc hr)).mono ?_
    rintro d O' ⟨p, rfl, rfl, hp⟩
    walk_at "m"
    refine WPe_CallM (fun _ _ => rfl) (ns_of rfl) (by decide) rfl F.plainAttrs_list F.slot_list_insert F.type_list_insert ?_
    walk_at "m"
    refine ⟨tyList rfl, ?_⟩
    walk_at "m"
    have hp2 := hp.2.1
    refine ConB.con (F_insert rfl (Int.natCast_nonneg _) (by (first | exact Int.ofNat_le.mpr hp2 | lia)) (by rw [sizeLine_eq]; (exact Nat.le_trans hsz (Nat.le_add_left _ _))) ?_)
    walk_at "m"
    refine ⟨rfl, ?_⟩
    walk_at "m"
    refine ⟨rfl, ?_⟩
    rw [Int.toNat_natCast, insT_eq (kf := id) (x := x) hp]; rfl
end
end

section
theorem perm_map_inv {α β : Type} {f : α → β} : ∀ {us : List β} {ps : List α}, us.Perm (ps.map f) → ∃ ls : List α, ls.Perm ps ∧ us = ls.map f
  | [], ps, h => by
    have := h.length_eq
    rw [List.length_map] at this
    cases ps with
    | nil => exact ⟨[], .refl _, rfl⟩
    | cons p ps => cases this
  | u :: us, ps, h => by
    obtain ⟨p, hp, rfl⟩ := List.mem_map.mp (h.mem_iff.mp (List.mem_cons_self ..))
    obtain ⟨a, b, rfl⟩ := List.append_of_mem hp
    have h2 : us.Perm ((a ++ b).map f) := by
      rw [List.map_append, List.map_cons] at h
      rw [List.map_append]
      exact (List.perm_cons _).mp (h.trans List.perm_middle)
    obtain ⟨ls, h3, rfl⟩ := perm_map_inv h2
    exact ⟨p :: ls, (h3.cons p).trans List.perm_middle.symm, rfl⟩
theorem tabW_new : ((tabW.map fun p => (p.r1, p.w1.cps.toList)).Nodup) := by decide +kernel
theorem tabW_inj {p q : Pr} (hp : p ∈ tabW) (hq : q ∈ tabW) (h : lvT p = lvT q) : p = q := by
  unfold lvT at h
  injection h with h
  injection h with h1 h
  injection h with h2 _
  injection h1 with h1
  injection h2 with h2
  obtain ⟨i, hi⟩ := List.mem_iff_getElem?.mp hp
  obtain ⟨j, hj⟩ := List.mem_iff_getElem?.mp hq
  have gi : (tabW.map fun p => (p.r1, p.w1.cps.toList))[i]? = some (p.r1, p.w1.cps.toList) := by rw [List.getElem?_map, hi]; rfl
  have gj : (tabW.map fun p => (p.r1, p.w1.cps.toList))[j]? = some (p.r1, p.w1.cps.toList) := by rw [List.getElem?_map, hj, h1, h2]; rfl
  have hlt : i < (tabW.map fun p => (p.r1, p.w1.cps.toList)).length := (List.getElem?_eq_some_iff.mp gi).1
  have := (List.getElem?_inj hlt tabW_new).mp (gi.trans gj.symm)
  subst this
  rw [hi] at hj
  exact Option.some.inj hj
theorem tabW_nodup : tabW.Nodup := by
  have h := tabW_new
  exact List.Pairwise.of_map (fun p : Pr => (p.r1, p.w1.cps.toList)) (fun a b hne e => hne (by rw [e])) h
theorem lev_of {ps : List Pr} (F : Four ps) {us : List T} (hp : us.Perm (ps.map lvT)) (hu : Up us) : ∃ ls, ls.Perm ps ∧ us = ls.map lvT ∧ Lev ls := by
  obtain ⟨ls, h1, rfl⟩ := perm_map_inv hp
  obtain ⟨rest, hr⟩ := F.from_
  have hnd : ps.Nodup := (List.nodup_append.mp (hr.nodup_iff.mpr tabW_nodup)).1
  have hmem : ∀ p ∈ ls, p ∈ tabW := fun p hp => hr.mem_iff.mp (List.mem_append_left _ (h1.mem_iff.mp hp))
  refine ⟨ls, h1, rfl, ⟨h1.length_eq.trans F.four, hmem, ?_⟩⟩
  have hls : ls.Nodup := h1.nodup_iff.mpr hnd
  unfold Up at hu
  rw [List.pairwise_map] at hu
  refine (hu.and hls).imp_of_mem fun {a b} ha hb h => ?_
  have hc : cmpTs [.int a.r1, .str a.w1] [.int b.r1, .str b.w1] = true := by
    rw [cmpTs]; split
    · rw [cmpTs]; split <;> rfl
    · rfl
  have h0 : ltTs [.int b.r1, .str b.w1] [.int a.r1, .str a.w1] = false := (ltT_list _ _).symm.trans h.1
  cases hlt : ltTs [.int a.r1, .str a.w1] [.int b.r1, .str b.w1] with
  | true => rfl
  | false =>
    have := ltT_total (.list [.int a.r1, .str a.w1]) (.list [.int b.r1, .str b.w1]) (by rw [cmpT_list]; exact hc) (by rw [ltT_list]; exact hlt) (by rw [ltT_list]; exact h0)
    exact absurd (tabW_inj (hmem a ha) (hmem b hb) (eqT_eq _ _ this)) h.2
noncomputable def rkP (ls : List Pr) (p : Pr) : Nat := ls.findIdx fun q => eqT (lvT q) (lvT p)
theorem rk_at {ls : List Pr} (L : Lev ls) {p : Pr} (hp : p ∈ ls) : rkP ls p < 4 ∧ lv ls (rkP ls p) = p := by
  have h1 : rkP ls p < ls.length := List.findIdx_lt_length_of_exists ⟨p, hp, eqT_refl _ rfl⟩
  have h2 := List.findIdx_getElem (p := fun q => eqT (lvT q) (lvT p)) (xs := ls) (w := h1)
  refine ⟨by rw [← L.four]; exact h1, ?_⟩
  have e : lv ls (rkP ls p) = ls[rkP ls p] := by unfold lv; rw [List.getD_eq_getElem?_getD, List.getElem?_eq_getElem h1]; rfl
  rw [e]
  exact tabW_inj (L.tab _ (List.getElem_mem h1)) (L.tab _ hp) (eqT_eq _ _ h2)
noncomputable def litW (ls : List Pr) (l : Lit) : List T := [.int ((lv ls l.1).rank l.2), .str (wd ls l)]
noncomputable def ckey (ls : List Pr) (c : Cl) : List T := c.flatMap (litW ls)
noncomputable def sg2 (i r : Nat) : Str := repStr ⟨#[signsS.cps.getD i 0]⟩ (1 + r)
structure ClOk (c : Cl) : Prop where
  few : c.length ≤ 4
  ok : ∀ l ∈ c, l.1 < 4 ∧ l.2 < 2
structure JoinOk (ls : List Pr) : Prop where
  fit : ∀ c, ClOk c → ∀ i < 4, ∀ r < 2, Builtin.Str.tooLong ((c.map (wd ls)).toArray.foldl (· + ·.length + (sg2 i r).length) 0) = false ∧ (joinS (sg2 i r) (c.map (wd ls))).length ≤ sizeLine
  txt : ∀ c, ClOk c → ∀ i < 4, ∀ r < 2, TextOk (joinS (sg2 i r) (c.map (wd ls)))
  key : ∀ c, ClOk c → ∀ i < 4, ∀ r < 2, keyT (joinS (sg2 i r) (c.map (wd ls))) = ckey ls c
theorem ckey_dat (ls : List Pr) : ∀ c : Cl, datTs (ckey ls c) = true ∧ depTs (ckey ls c) = 0
  | [] => ⟨rfl, rfl⟩
  | l :: c => by
    obtain ⟨h1, h2⟩ := ckey_dat ls c
    show datTs (.int _ :: .str _ :: ckey ls c) = true ∧ depTs (.int _ :: .str _ :: ckey ls c) = 0
    rw [datTs, datTs, h1, depTs, depTs, h2]
    exact ⟨rfl, rfl⟩
theorem ckey_cmp (ls : List Pr) : ∀ c d : Cl, cmpTs (ckey ls c) (ckey ls d) = true
  | [], d => by unfold ckey; rw [List.flatMap_nil]; cases (d.flatMap (litW ls)) <;> rfl
  | l :: c, [] => rfl
  | l :: c, m :: d => by
    show cmpTs (.int _ :: .str _ :: ckey ls c) (.int _ :: .str _ :: ckey ls d) = true
    rw [cmpTs]; split
    · rw [cmpTs]; split
      · exact ckey_cmp ls c d
      · rfl
    · rfl
theorem ckey_length (ls : List Pr) : ∀ c : Cl, (ckey ls c).length = 2 * c.length
  | [] => rfl
  | l :: c => by
    show (ckey ls c).length + 2 = _
    rw [ckey_length ls c, List.length_cons]; rfl
theorem ckey_words {ls : List Pr} {c : Cl} (h : c.length ≤ 4) : sliceT (ckey ls c) (some 1) none (some 2) = c.map fun l => .str (wd ls l) := by
  have idx : ∀ n ≤ 4, sliceRange (sliceBounds (some 1) none (some 2) (2 * n)).1 (sliceBounds (some 1) none (some 2) (2 * n)).2.1 (sliceBounds (some 1) none (some 2) (2 * n)).2.2 = (List.range n).map fun i => 2 * i + 1 := by decide
  unfold sliceT
  dsimp only
  rw [ckey_length, idx c.length h]
  match c, h with
  | [], _ => rfl
  | [a], _ => rfl
  | [a, b], _ => rfl
  | [a, b, d], _ => rfl
  | [a, b, d, e], _ => rfl
  | a :: b :: d :: e :: f :: r, h => exact absurd h (by simp)
theorem slice_inner {α : Type} {s e : α} {mid : List α} : sliceT (s :: (mid ++ [e])) (some 1) (some (-1)) none = mid := by
  have hl : (s :: (mid ++ [e])).length = mid.length + 2 := by rw [List.length_cons, List.length_append]; rfl
  have h := sliceT_mid (xs := s :: (mid ++ [e])) (a := 1) (b := mid.length + 1) (by rw [hl]; exact Nat.le_succ _) (Nat.le_add_left _ _)
  have e1 : sliceT (s :: (mid ++ [e])) (some 1) (some (-1)) none = sliceT (s :: (mid ++ [e])) (some ((1 : Nat) : Int)) (some ((mid.length + 1 : Nat) : Int)) none := by
    unfold sliceT
    rw [sliceBounds_plain, sliceBounds_plain]
    show (sliceRange _ ((clipAt _ (-((1 : Nat) : Int)) : Nat) : Int) 1).filterMap _ = (sliceRange _ ((clipAt _ ((mid.length + 1 : Nat) : Int) : Nat) : Int) 1).filterMap _
    rw [clipAt_neg _ 1 (Nat.le_refl _), clipAt_nat, hl, Nat.min_eq_left (Nat.le_succ (mid.length + 1))]
    rfl
  rw [e1, h, Nat.add_sub_cancel, List.drop_succ_cons, List.drop_zero, List.take_left]
end

section
noncomputable def dgP (cs : List Int) (k j : Nat) : Nat := (Int.fmod (Int.fdiv (cs.getD k 0) (3 ^ j)) 3).toNat
theorem dg_eq (cs : List Int) (k j : Nat) : Int.fmod (Int.fdiv (cs.getD k 0) (3 ^ j)) 3 = (dgP cs k j : Nat) ∧ dgP cs k j < 3 := by
  obtain ⟨q, h1, h2⟩ := fmodN (Int.fdiv (cs.getD k 0) (3 ^ j)) 3 (by decide)
  have h2 : Int.fmod (Int.fdiv (cs.getD k 0) (3 ^ j)) 3 = (q : Nat) := h2
  unfold dgP
  rw [h2, Int.toNat_natCast]
  exact ⟨rfl, h1⟩
noncomputable def sgP (cs : List Int) (k : Nat) : Nat := (Int.fmod (Int.fdiv (cs.getD k 0) 81) 4).toNat
theorem sg_eq (cs : List Int) (k : Nat) : Int.fmod (Int.fdiv (cs.getD k 0) 81) 4 = (sgP cs k : Nat) ∧ sgP cs k < 4 := by
  obtain ⟨q, h1, h2⟩ := fmodN (Int.fdiv (cs.getD k 0) 81) 4 (by decide)
  have h2 : Int.fmod (Int.fdiv (cs.getD k 0) 81) 4 = (q : Nat) := h2
  unfold sgP
  rw [h2, Int.toNat_natCast]
  exact ⟨rfl, h1⟩
noncomputable def onP (cs : List Int) (k : Nat) : List Nat := (List.range' 0 4).filter fun j => decide (0 < dgP cs k j)
noncomputable def litP (cs : List Int) (ps ls : List Pr) (k j : Nat) : Lit := (rkP ls (ps.getD j default), dgP cs k j % 2)
noncomputable def clP (cs : List Int) (ps ls : List Pr) (k : Nat) : Cl := (onP cs k).map (litP cs ps ls k)
theorem cl_ok {cs : List Int} {ps ls : List Pr} (L : Lev ls) (h4 : ps.length = 4) (hp : ∀ p ∈ ps, p ∈ ls) (k : Nat) : ClOk (clP cs ps ls k) := by
  refine ⟨?_, fun l hl => ?_⟩
  · unfold clP onP
    rw [List.length_map]
    exact Nat.le_trans (List.length_filter_le ..) (by rw [List.length_range']; exact Nat.le_refl 4)
  · obtain ⟨j, hj, rfl⟩ := List.mem_map.mp hl
    have hj4 : j < 4 := by simpa [List.mem_range'_1] using (List.mem_filter.mp hj).1
    refine ⟨(rk_at L (hp _ ?_)).1, Nat.mod_lt _ (by decide)⟩
    rw [List.getD_eq_getElem?_getD, List.getElem?_eq_getElem (by (first | exact Nat.lt_of_lt_of_eq hj4 h4.symm | omega))]
    exact List.getElem_mem _
noncomputable def txP (cs : List Int) (ps ls : List Pr) (k : Nat) : Str := joinS (sg2 (sgP cs k) (k % 2)) ((clP cs ps ls k).map (wd ls))
noncomputable def slt (kk : Nat → List T) (a b : Nat) : Bool := ltTs (kk a) (kk b)
noncomputable def shN (kk : Nat → List T) : Nat → List Nat
  | 0 => []
  | i + 1 => insW (slt kk) i (shN kk i)
theorem shN_length (kk : Nat → List T) : ∀ i, (shN kk i).length = i
  | 0 => rfl
  | i + 1 => by
    show (insW _ _ _).length = _
    rw [insW_length, shN_length kk i]
theorem shN_mem {kk : Nat → List T} {a : Nat} : ∀ {i}, a ∈ shN kk i ↔ a < i
  | 0 => ⟨fun h => (nomatch h), fun h => absurd h (Nat.not_lt_zero a)⟩
  | i + 1 => by
    show a ∈ insW _ _ _ ↔ _
    rw [insW_perm.mem_iff, List.mem_cons, shN_mem (i := i)]
    (first | exact om77 | omega)
theorem shN_perm (kk : Nat → List T) : ∀ i, (shN kk i).Perm (List.range i)
  | 0 => .refl _
  | i + 1 => by
    rw [List.range_succ]
    exact insW_perm.trans (((shN_perm kk i).cons i).trans (List.perm_append_comm (l₁ := [i]) (l₂ := List.range i)))
noncomputable def rN1 (cl : Nat → Cl) (kk : Nat → List T) : Nat × List Tri := nodeP 4 ((shN kk 3).map cl) []
noncomputable def rN2 (cl : Nat → Cl) (kk : Nat → List T) : Nat × List Tri := nodeP 4 ((shN kk 5).map cl) (rN1 cl kk).2
noncomputable def esN (cl : Nat → Cl) (kk : Nat → List T) (i : Nat) : List Tri := if i < 3 then [] else if i < 5 then (rN1 cl kk).2 else (rN2 cl kk).2
noncomputable def enN (cl : Nat → Cl) (kk : Nat → List T) (i : Nat) : List Nat := if i < 3 then [] else if i < 5 then [(rN1 cl kk).1] else [(rN1 cl kk).1, (rN2 cl kk).1]
theorem run_same {cl kk} {i : Nat} (hi : i < 5) (h : ¬ (i = 2 ∨ i = 4)) : esN cl kk (i + 1) = esN cl kk i ∧ enN cl kk (i + 1) = enN cl kk i := by
  have : i = 0 ∨ i = 1 ∨ i = 3 := by omega
  rcases this with rfl | rfl | rfl <;> exact ⟨rfl, rfl⟩
theorem run_node {cl kk} {i : Nat} (h : i = 2 ∨ i = 4) : esN cl kk (i + 1) = (nodeP 4 ((shN kk (i + 1)).map cl) (esN cl kk i)).2 ∧ enN cl kk (i + 1) = enN cl kk i ++ [(nodeP 4 ((shN kk (i + 1)).map cl) (esN cl kk i)).1] := by
  rcases h with rfl | rfl <;> exact ⟨rfl, rfl⟩
theorem run_facts (cl : Nat → Cl) (kk : Nat → List T) {i : Nat} (hi : i ≤ 5) : EsIn (esN cl kk i) ∧ (esN cl kk i).length ≤ 30 ∧ (i < 5 → (esN cl kk i).length ≤ 15) ∧ (enN cl kk i).length ≤ 2 := by
  have e0 : EsIn [] := ⟨fun t h => (nomatch h), List.nodup_nil⟩
  obtain ⟨a1, a2, a3⟩ := node_facts 4 ((shN kk 3).map cl) [] e0
  obtain ⟨b1, b2, b3⟩ := node_facts 4 ((shN kk 5).map cl) _ a1
  have a2 : (rN1 cl kk).2.length + 1 ≤ 0 + 16 := a2
  have b2 : (rN2 cl kk).2.length + 1 ≤ (rN1 cl kk).2.length + 16 := b2
  unfold esN enN
  by_cases h3 : i < 3
  · rw [if_pos h3, if_pos h3]; exact ⟨e0, Nat.zero_le _, fun _ => Nat.zero_le _, Nat.zero_le _⟩
  · rw [if_neg h3, if_neg h3]
    by_cases h5 : i < 5
    · rw [if_pos h5, if_pos h5]; exact ⟨a1, by (first | exact zLe (Nat.le_of_lt_succ a2) rfl | omega), fun _ => by (first | exact Nat.le_of_lt_succ a2 | omega), Nat.le_succ 1⟩
    · rw [if_neg h5, if_neg h5]; exact ⟨b1, by (first | exact Nat.le_of_succ_le_succ (Nat.le_trans b2 (Nat.add_le_add_right (Nat.le_of_lt_succ a2) 16)) | omega), fun h => absurd h h5, Nat.le_refl 2⟩
noncomputable def laidT (kk : Nat → List T) (tx : Nat → Str) (k : Nat) : T := .list [.list (kk k), .int (-(k : Int)), .str (tx k)]
end

section
section
variable {ls : List Pr} {cl : Nat → Cl} {tx : Nat → Str}
noncomputable abbrev kkC (ls : List Pr) (cl : Nat → Cl) (k : Nat) : List T := ckey ls (cl k)
theorem laid_cmp (a b : Nat) : cmpT (laidT (kkC ls cl) tx a) (laidT (kkC ls cl) tx b) = true := by
  unfold laidT
  rw [cmpT_list, cmpTs]
  split
  · rw [cmpTs]; split
    · rw [cmpTs]; split <;> rfl
    · rfl
  · rw [cmpT_list]; exact ckey_cmp ls _ _
theorem laid_fam (xs : List Nat) : Fam (xs.map (laidT (kkC ls cl) tx)) := fun a ha b hb => by
  obtain ⟨p, _, rfl⟩ := List.mem_map.mp ha
  obtain ⟨q, _, rfl⟩ := List.mem_map.mp hb
  exact laid_cmp p q
theorem laid_lt {a i : Nat} (h : a < i) : ltT (laidT (kkC ls cl) tx a) (laidT (kkC ls cl) tx i) = slt (kkC ls cl) a i := by
  unfold laidT slt
  rw [ltT_list]
  cases e : eqT (.list (kkC ls cl a)) (.list (kkC ls cl i)) with
  | true =>
    rw [ltTs_eq _ _ e, ltTs_ne _ _ (by
      cases q : eqT (.int (-(a : Int))) (.int (-(i : Int))) with
      | false => rfl
      | true => have := eqT_eq _ _ q; injection this; lia), ltT_int]
    have e2 : kkC ls cl a = kkC ls cl i := by have := eqT_eq _ _ e; injection this
    rw [e2, ltTs_irr]
    exact decide_eq_false (by (first | exact Int.not_lt.mpr (Int.neg_le_neg (Int.ofNat_le.mpr (Nat.le_of_lt h))) | lia))
  | false => rw [ltTs_ne _ _ e, ltT_list]
theorem laid_up : ∀ i, Up ((shN (kkC ls cl) i).map (laidT (kkC ls cl) tx))
  | 0 => List.Pairwise.nil
  | i + 1 => by
    have ih := laid_up i
    unfold Up at ih ⊢
    rw [List.pairwise_map] at ih ⊢
    show (insW (slt (kkC ls cl)) i (shN (kkC ls cl) i)).Pairwise _
    rw [insW_congr (lt' := fun a b => ltT (laidT (kkC ls cl) tx a) (laidT (kkC ls cl) tx b)) fun y hy => (laid_lt (shN_mem.mp hy)).symm]
    exact insW_up (lt := fun a b => ltT (laidT (kkC ls cl) tx a) (laidT (kkC ls cl) tx b)) (P := fun _ => True) (fun a b => ltT_asym _ _) (fun a b d _ _ _ => leT_tr (laid_cmp a b) (laid_cmp b d) (laid_cmp a d)) trivial (fun _ _ => trivial) ih
theorem sh_up : ∀ i, (shN (kkC ls cl) i).Pairwise fun a b => slt (kkC ls cl) b a = false
  | 0 => List.Pairwise.nil
  | i + 1 => insW_up (lt := slt (kkC ls cl)) (P := fun _ => True) (fun a b => ltTs_asym _ _) (fun a b d _ _ _ => leTs_tr (ckey_cmp ls _ _) (ckey_cmp ls _ _) (ckey_cmp ls _ _)) trivial (fun _ _ => trivial) (sh_up i)
theorem laid_dat : ∀ xs : List Nat, datTs (xs.map (laidT (kkC ls cl) tx)) = true ∧ depTs (xs.map (laidT (kkC ls cl) tx)) ≤ 2
  | [] => ⟨rfl, Nat.zero_le _⟩
  | k :: xs => by
    obtain ⟨h1, h2⟩ := laid_dat xs
    obtain ⟨q1, q2⟩ := ckey_dat ls (cl k)
    have e1 : datT (laidT (kkC ls cl) tx k) = true := by
      unfold laidT
      rw [datT, datTs, datT, q1]; rfl
    have e2 : depT (laidT (kkC ls cl) tx k) ≤ 2 := by
      unfold laidT
      rw [depT, depTs, depT, q2]; exact Nat.le_refl 2
    exact ⟨by rw [List.map_cons, datTs, e1, h1]; rfl, by rw [List.map_cons, depTs]; exact Nat.max_le.mpr ⟨e2, h2⟩⟩
end
structure LawQ (cl : Nat → Cl) (kk : Nat → List T) : Prop where
  kn : KnOk (esN cl kk 5)
  due : (knL (esN cl kk 5)).Perm (dueP [toldB ((List.range 3).map cl), toldB ((List.range 5).map cl)])
  ends : (enN cl kk 5).map (fun e => ex 0 (getK (knL (esN cl kk 5)) e)) = [toldB ((List.range 3).map cl), toldB ((List.range 5).map cl)]
  endOk : ∀ e ∈ enN cl kk 5, EndOk (esN cl kk 5).length e ∧ (getK (knL (esN cl kk 5)) e).1 ≤ 4 ∧ (getK (knL (esN cl kk 5)) e).2.length ≤ 16
end

section
theorem midA_perm (ls : List Pr) : ∀ (es : List Tri) (i : Nat) (m : List En), (midA ls es i m).Perm (m ++ (es.zipIdx i).map fun p => (p.1, 8 + p.2))
  | [], i, m => by rw [List.zipIdx_nil, List.map_nil, List.append_nil]; exact .refl _
  | t :: es, i, m => by
    rw [List.zipIdx_cons, List.map_cons]
    exact (midA_perm ls es (i + 1) _).trans ((insW_perm.append_right _).trans List.perm_middle.symm)
theorem mid_known (ls : List Pr) (es : List Tri) : ((midE ls es).map fun p => getK (knL es) p.2).Perm (knL es) := by
  refine ((midA_perm ls es 0 []).map _).trans ?_
  rw [List.nil_append, List.map_map]
  have h : (es.zipIdx 0).map ((fun p : En => getK (knL es) p.2) ∘ fun p => (p.1, 8 + p.2)) = knL es := by
    have h1 : (es.zipIdx 0).map ((fun p : En => getK (knL es) p.2) ∘ fun p => (p.1, 8 + p.2)) = ((es.zipIdx 0).map Prod.snd).map fun j => (knL es).getD j (0, []) := by
      rw [List.map_map]
      refine List.map_congr_left fun p _ => ?_
      show getK (knL es) (8 + p.2) = _
      unfold getK
      rw [if_neg (by (first | exact zNe (Nat.le_add_right 8 _) rfl | lia)), if_neg (by (first | exact zNe (Nat.le_add_right 8 _) rfl | lia)), Nat.add_sub_cancel_left]; rfl
    rw [h1, List.zipIdx_map_snd, ← List.range_eq_range', ← knL_length es]
    exact map_range_getD _ _
  rw [h]
theorem knL_fst (es : List Tri) : (knL es).map Prod.fst = es.map Prod.fst := by
  have h : ∀ (es : List Tri) (kn : List Kn), (es.foldl knStep kn).map Prod.fst = kn.map Prod.fst ++ es.map Prod.fst := fun es => by
    induction es with
    | nil => intro kn; rw [List.map_nil, List.append_nil]; rfl
    | cons t es ih =>
      intro kn
      rw [List.foldl_cons, ih, knStep, List.map_append, List.append_assoc]; rfl
  exact h es []
theorem mid_at {ls : List Pr} {es : List Tri} {p : En} (hp : p ∈ midE ls es) : EndOk es.length p.2 ∧ (getK (knL es) p.2).1 = p.1.1 := by
  obtain ⟨j, h1, h2⟩ := midE_mem.mp hp
  have hj := (List.getElem?_eq_some_iff.mp h1).1
  refine ⟨.inr (.inr ⟨by (first | exact Nat.le.intro h2.symm | lia), by (first | exact zEq (congrArg Nat.succ h2) (Nat.add_lt_add_left hj 8) | lia)⟩), ?_⟩
  unfold getK
  rw [if_neg (by (first | exact fun ze => zNe (Nat.le_add_right 8 _) rfl (h2.symm.trans ze) | lia)), if_neg (by (first | exact fun ze => zNe (Nat.le_add_right 8 _) rfl (h2.symm.trans ze) | lia)), h2, Nat.add_sub_cancel_left]
  have := congrArg (fun l : List Nat => l[j]?) (knL_fst es)
  rw [List.getElem?_map, List.getElem?_map, h1] at this
  rw [List.getD_eq_getElem?_getD]
  cases q : (knL es)[j]? with
  | none => rw [q] at this; cases this
  | some k => rw [q] at this; exact Option.some.inj this
theorem kn_at {es : List Tri} {e : Nat} (h : EndOk es.length e) : ((keysK es.length).zip (valsK (knL es))).lookup (e : Int) = some (knT (getK (knL es) e)) := by
  have := kn_lookup (kn := knL es) (e := e) (by rw [knL_length]; exact h)
  rw [knL_length] at this
  exact this
theorem marks_fam (ls : List Pr) (xs : List En) : Fam (xs.map fun p => .list (markT ls p.1)) := fun a ha b hb => by
  obtain ⟨p, _, rfl⟩ := List.mem_map.mp ha
  obtain ⟨q, _, rfl⟩ := List.mem_map.mp hb
  rw [cmpT_list]; exact mark_cmp ..
theorem marks_up (ls : List Pr) (es : List Tri) : Up ((midE ls es).map fun p => .list (markT ls p.1)) := by
  unfold Up
  rw [List.pairwise_map]
  exact (midE_up ls es).imp fun {a b} h => by rw [ltT_list]; exact h
theorem marks_dat (ls : List Pr) : ∀ xs : List En, datTs (xs.map fun p => .list (markT ls p.1)) = true ∧ depTs (xs.map fun p => T.list (markT ls p.1)) ≤ 1
  | [] => ⟨rfl, Nat.zero_le _⟩
  | p :: xs => (marks_dat ls xs).imp (fun h => by rw [List.map_cons, datTs, h]; rfl) fun h => by rw [List.map_cons, depTs]; exact Nat.max_le.mpr ⟨Nat.le_refl 1, h⟩
noncomputable def psT (t : T) : T := .list [t, strT t]
theorem ps_dat : ∀ {m : List T}, (∀ t ∈ m, Small t) → datTs (m.map psT) = true ∧ depTs (m.map psT) ≤ 1
  | [], _ => ⟨rfl, Nat.zero_le _⟩
  | t :: m, h => by
    obtain ⟨h1, h2⟩ := ps_dat fun u hu => h u (List.mem_cons_of_mem _ hu)
    have q : datT (psT t) = true ∧ depT (psT t) ≤ 1 := by
      rcases h t (List.mem_cons_self ..) with ⟨i, rfl, _⟩ | ⟨x, rfl⟩ <;> exact ⟨rfl, Nat.le_refl 1⟩
    exact ⟨by rw [List.map_cons, datTs, q.1, h1]; rfl, by rw [List.map_cons, depTs]; exact Nat.max_le.mpr ⟨q.2, h2⟩⟩
theorem pss_dat : ∀ {ms : List (List T)}, (∀ m ∈ ms, ∀ t ∈ m, Small t) → datTs (ms.map fun m => .list (m.map psT)) = true ∧ depTs (ms.map fun m => T.list (m.map psT)) ≤ 2
  | [], _ => ⟨rfl, Nat.zero_le _⟩
  | m :: ms, h => by
    obtain ⟨h1, h2⟩ := pss_dat fun u hu => h u (List.mem_cons_of_mem _ hu)
    obtain ⟨q1, q2⟩ := ps_dat (h m (List.mem_cons_self ..))
    exact ⟨by rw [List.map_cons, datTs, datT, q1, h1]; rfl, by rw [List.map_cons, depTs, depT]; exact Nat.max_le.mpr ⟨Nat.succ_le_succ q2, h2⟩⟩
noncomputable def allM (ls : List Pr) (es : List Tri) : List (List T) := [.int 300] :: ((midE ls es).map (fun p => markT ls p.1) ++ [[.int (-1)]])
noncomputable def allE (ls : List Pr) (es : List Tri) : List (List T × Int) := ([.int 300], 0) :: ((midE ls es).map (fun p => (markT ls p.1, (p.2 : Int))) ++ [([.int (-1)], 0)])
theorem tab_all (ls : List Pr) (es : List Tri) : tabT ls es = (allE ls es).map fun p => .list [.list p.1, .int p.2] := by
  unfold tabT tabM allE
  rw [List.map_cons, List.map_append, List.map_map]; rfl
theorem all_fst (ls : List Pr) (es : List Tri) : (allE ls es).map Prod.fst = allM ls es := by
  unfold allE allM
  rw [List.map_cons, List.map_append, List.map_map]; rfl
theorem tab_ranks : ∀ p ∈ tabW, p.r1.natAbs ≤ 1000 := by
  intro p hp
  simp only [tabW, List.mem_cons, List.not_mem_nil, or_false] at hp
  rcases hp with rfl | rfl | rfl | rfl | rfl | rfl | rfl | rfl | rfl | rfl | rfl | rfl <;> decide
theorem end_small {i e : Nat} (h : EndOk i e) (hi : i ≤ 40) : e ≤ 1000 := by
  rcases h with rfl | rfl | ⟨_, h⟩
  · exact Nat.zero_le _
  · decide
  · (first | exact zLe (Nat.le_trans (Nat.le_of_lt h) (Nat.add_le_add_left hi 8)) rfl | lia)
theorem all_small {ls : List Pr} (L : Lev ls) {es : List Tri} (K : KnOk es) : ∀ m ∈ allM ls es, ∀ t ∈ m, Small t := by
  have one : ∀ i : Int, i.natAbs ≤ 1000 → ∀ t ∈ [T.int i], Small t := fun i hi t ht => by rw [List.mem_singleton.mp ht]; exact .inl ⟨i, rfl, hi⟩
  intro m hm
  unfold allM at hm
  rcases List.mem_cons.mp hm with rfl | hm
  · exact one 300 (by decide)
  · rcases List.mem_append.mp hm with hm | hm
    · obtain ⟨p, hp, rfl⟩ := List.mem_map.mp hm
      obtain ⟨j, h1, h2⟩ := midE_mem.mp hp
      have hj := (List.getElem?_eq_some_iff.mp h1).1
      have hfew := K.few
      have ht4 := K.lv _ (List.mem_of_getElem? h1)
      have hlv : lv ls p.1.1 ∈ tabW := by
        have hl : p.1.1 < ls.length := by rw [L.four]; exact ht4
        have e : lv ls p.1.1 = ls[p.1.1] := by unfold lv; rw [List.getD_eq_getElem?_getD, List.getElem?_eq_getElem hl]; rfl
        rw [e]; exact L.tab _ (List.getElem_mem hl)
      have s1 := end_small (K.ends j _ h1 _ (.inl rfl)).1 (by (exact Nat.le_of_lt (Nat.lt_of_lt_of_le hj hfew)))
      have s2 := end_small (K.ends j _ h1 _ (.inr rfl)).1 (by (exact Nat.le_of_lt (Nat.lt_of_lt_of_le hj hfew)))
      intro t ht
      simp only [markT, List.mem_cons, List.not_mem_nil, or_false] at ht
      rcases ht with rfl | rfl | rfl | rfl | rfl | rfl
      · exact .inl ⟨_, rfl, tab_ranks _ hlv⟩
      · exact .inr ⟨_, rfl⟩
      · exact .inl ⟨_, rfl, by decide⟩
      · exact .inl ⟨_, rfl, by rw [Int.natAbs_natCast]; exact s1⟩
      · exact .inl ⟨_, rfl, by decide⟩
      · exact .inl ⟨_, rfl, by rw [Int.natAbs_natCast]; exact s2⟩
    · rw [List.mem_singleton.mp hm]; exact one (-1) (by decide)
theorem allM_length (ls : List Pr) (es : List Tri) : (allM ls es).length = es.length + 2 := by
  unfold allM
  rw [List.length_cons, List.length_append, List.length_map, midE_length]; rfl
theorem told_length (ws : List Cl) : (toldB ws).length = 16 := by unfold toldB; rw [List.length_map, List.length_range']
end

section
structure W2 (C : Cx) (bi ins dt kd dt' kd' cv pt tb sub pr ce na fi nd to du un : Addr) : Prop where
  b : BisW C PW bi ins dt kd dt' kd'
  c : CvW C PW cv pt tb
  s : SubW C PW sub
  pr : DefAt C PW "_law_pairs" pr .none .none
  ce : DefAt C PW "_law_cells" ce .none .none
  na : DefAt C PW "_law_names" na .none .none
  fi : DefAt C PW "_law_first" fi .none .none
  nd : DefAt C PW "_law_node" nd .none .none
  to : DefAt C PW "_law_told" to .none .none
  du : DefAt C PW "_law_due" du .none .none
  un : DefAt C PW "_law_unfolded" un .none .none
  len : Bi C "len" (.builtin "len")
  ran : Bi C "range" (.type "range")
  str : Bi C "str" (.type "str")
  int : Bi C "int" (.type "int")
  sor : Bi C "sorted" (.builtin "sorted")
theorem lvs_dat : ∀ ps : List Pr, datTs (ps.map lvT) = true ∧ depTs (ps.map lvT) ≤ 1
  | [] => ⟨rfl, Nat.zero_le _⟩
  | p :: ps => (lvs_dat ps).imp (fun h => by rw [List.map_cons, datTs, h]; rfl) fun h => by rw [List.map_cons, depTs]; exact Nat.max_le.mpr ⟨Nat.le_refl 1, h⟩
theorem lists_dat (f : Nat → List T) (hf : ∀ k, datTs (f k) = true ∧ depTs (f k) = 0) : ∀ xs : List Nat, datTs (xs.map fun k => .list (f k)) = true ∧ depTs (xs.map fun k => T.list (f k)) ≤ 1
  | [] => ⟨rfl, Nat.zero_le _⟩
  | k :: xs => by
    obtain ⟨h1, h2⟩ := lists_dat f hf xs
    exact ⟨by rw [List.map_cons, datTs, datT, (hf k).1, h1]; rfl, by rw [List.map_cons, depTs, depT, (hf k).2]; exact Nat.max_le.mpr ⟨Nat.le_refl 1, h2⟩⟩
theorem texts_dat (f : Nat → Str) : ∀ xs : List Nat, datTs (xs.map fun k => .str (f k)) = true ∧ depTs (xs.map fun k => T.str (f k)) = 0
  | [] => ⟨rfl, rfl⟩
  | k :: xs => (texts_dat f xs).imp (fun h => by rw [List.map_cons, datTs, h]; rfl) fun h => by rw [List.map_cons, depTs, h]; rfl
section
variable {C : Cx} {n : Nat}
theorem law_back {bi ins dt kd dt' kd' cv pt tb sub pr ce na fi nd to du un : Addr} (W : W2 C bi ins dt kd dt' kd' cv pt tb sub pr ce na fi nd to du un)
    {ls : List Pr} (L : Lev ls) {cl : Nat → Cl} (hcl : ∀ k, ClOk (cl k)) {tx : Nat → Str} (Q : LawQ cl (kkC ls cl)) {ranksT namesT cellsT : D} {Ψr : Out → Prop} (hΨr : ∀ t O', t = T.bool true → Ψr (.ret (.val t) O')) :
    WPs C (n + 19) (fnScope PW "law").names [("read", .val (.list ((shN (kkC ls cl) 5).map fun k => .list (kkC ls cl k)))), ("wishes", .ref 6), ("laid", .ref 5), ("ends", .ref 4), ("table", .ref 3), ("shelf", .ref 1), ("order", .val (.list (ls.map lvT))), ("ranks", ranksT), ("levels", .val (.list (ls.map lvT))), ("names", namesT), ("cells", cellsT)]
      [.gone, .list ((shN (kkC ls cl) 5).map fun k => .str (tx k)), .list [], .list (tabT ls (esN cl (kkC ls cl) 5)), .list ((enN cl (kkC ls cl) 5).map fun e => .int (e : Nat)), .list ((List.range 5).map (laidT (kkC ls cl) tx)), .list ((List.range 5).map fun k => wishT (cl k))]
      ((fnBody PW "law").drop 13) Ψr := by
  obtain ⟨qk, qd, qe, qo⟩ := Q
  have hsh5 := shN_length (kkC ls cl) 5
  have hshp := shN_perm (kkC ls cl) 5
  have hup := laid_up (ls := ls) (cl := cl) (tx := tx) 5
  generalize shN (kkC ls cl) 5 = sh at hsh5 hshp hup ⊢
  generalize esN cl (kkC ls cl) 5 = es at qk qd qe qo ⊢
  generalize enN cl (kkC ls cl) 5 = en at qe qo ⊢
  have hfew := qk.few
  walk_at "m.body"
  refine WPs_freeze (i := 1) rfl ?_
  refine WPs_freeze (i := 3) rfl ?_
  refine WPs_freeze (i := 4) rfl ?_
  refine WPs_freeze (i := 6) rfl ?_
  let shT : T := .list (sh.map fun k => .str (tx k))
  let rdT : T := .list (sh.map fun k => .list (kkC ls cl k))
  let wsT : T := .list ((List.range 5).map fun k => wishT (cl k))
  let enT : T := .list (en.map fun e => .int (e : Nat))
  let lvsT : T := .list (ls.map lvT)
  refine WPs.sub (ρ' := [("read", .val rdT), ("wishes", .val wsT), ("laid", .ref 5), ("ends", .val enT), ("table", .val (.list (tabT ls es))), ("shelf", .val shT), ("order", .val lvsT), ("levels", .val lvsT)]) ?_ (Sub.cons rfl (Sub.cons rfl (Sub.cons rfl (Sub.cons rfl (Sub.cons rfl (Sub.cons rfl (Sub.cons rfl (Sub.cons rfl Sub.nil))))))))
  have hlv := lvs_dat ls
  have hsd := texts_dat tx sh
  have hrd := lists_dat (kkC ls cl) (fun k => ckey_dat ls (cl k)) sh
  walk_at "asg"
  refine WPe_B1 W.sor (.inl ⟨_, rfl⟩) rfl rfl rfl ?_
  walk_at "e"
  refine F_sorted (ts := (List.range 5).map (laidT (kkC ls cl) tx)) rfl (by show 5 < 64; decide) (fun t ht => ?_) (laid_dat _).1 (Nat.le_trans (laid_dat _).2 (by decide)) (laid_fam _) fun us hp hu => ?_
  · obtain ⟨k, _, rfl⟩ := List.mem_map.mp ht
    exact ⟨_, rfl⟩
  have hus : us = sh.map (laidT (kkC ls cl) tx) := up_unique (laid_fam sh) (hp.trans (hshp.map _).symm) hu hup
  subst hus
  walk_at "m.red"
  refine WPs_cons ?_
  refine WPx_If ?_
  refine WPb_Compare ?_ rfl
  refine WPe_List ?_
  walk_at "e"
  refine ⟨rfl, [lvsT, shT, rdT], rfl, ?_⟩
  refine WPe_List ?_
  walk_at "e"
  refine WPe_ListComp (CompOk.name (by decide +kernel)) ?_ (fun _ _ => rfl) (Nat.succ_pos _)
  walk_at "e"
  refine ⟨_, rfl, mpK (Nat.le_trans (Nat.le_of_eq hsh5) (by decide)), CompP_of (laidT (kkC ls cl) tx) (fun k => .str (tx k)) sh [] (fun k hk => ⟨_, .name, ?_⟩) ?_⟩
  · walk_at "e"
    exact ⟨_, 2, .str (tx k), rfl, rfl, by decide, by decide, rfl, rfl, rfl⟩
  walk_at "e"
  refine WPe_ListComp (CompOk.name (by decide +kernel)) ?_ (fun _ _ => rfl) (Nat.succ_pos _)
  walk_at "e"
  refine ⟨_, rfl, mpK (Nat.le_trans (Nat.le_of_eq hsh5) (by decide)), CompP_of (laidT (kkC ls cl) tx) (fun k => .list (kkC ls cl k)) sh [] (fun k hk => ⟨_, .name, ?_⟩) ?_⟩
  · walk_at "e"
    exact ⟨_, 0, .list (kkC ls cl k), rfl, rfl, by decide, by decide, rfl, rfl, rfl⟩
  walk_at "e"
  have h3d : datTs [lvsT, shT, rdT] = true := by
    show datTs [.list (ls.map lvT), .list (sh.map fun k => .str (tx k)), .list (sh.map fun k => .list (kkC ls cl k))] = true
    rw [datTs, datTs, datTs, datT, datT, datT, hlv.1, hsd.1, hrd.1]; rfl
  have h3p : depTs [lvsT, shT, rdT] ≤ 40 := by
    show depTs [.list (ls.map lvT), .list (sh.map fun k => .str (tx k)), .list (sh.map fun k => .list (kkC ls cl k))] ≤ 40
    rw [depTs, depTs, depTs, depT, depT, depT, hsd.2, show depTs [] = 0 from rfl]
    lia
  refine ⟨rfl, [lvsT, shT, rdT], rfl, ?_⟩
  refine C_neL h3d h3d h3p (.neg (by rw [eqTs_refl _ h3d]; decide) ?_)
  clear h3d h3p hrd hsd
  walk_at "m"
  refine WPe_List ?_
  walk_at "e"
  refine WPe_Fn W.to (by decide +kernel) rfl rfl rfl ?_
  walk_at "e"
  refine ⟨(List.range 5).map fun k => wishT (cl k), none, some 3, none, rfl, rfl, rfl, rfl, by decide, by rw [sizeLine_eq]; show 5 ≤ _; decide, ?_⟩
  rw [show sliceT ((List.range 5).map fun k => wishT (cl k)) none (some 3) none = ((List.range 3).map cl).map wishT from sliceT_take (b := 3) (by show 3 ≤ 5; decide)]
  walk_at "e"
  have hws : ∀ m, m ≤ 5 → ((List.range m).map cl).length ≤ 10 ∧ ∀ c ∈ (List.range m).map cl, c.length ≤ 4 ∧ ∀ l ∈ c, l.1 < 4 ∧ l.2 < 2 := fun m hm => ⟨by rw [List.length_map, List.length_range]; (exact Nat.le_trans hm (Nat.le_add_left _ _)), fun c hc => by
    obtain ⟨k, _, rfl⟩ := List.mem_map.mp hc
    exact ⟨(hcl k).few, (hcl k).ok⟩⟩
  refine ((con_told W.to W.len W.ran W.str W.int (hws 3 (by decide)).1 (hws 3 (by decide)).2 (by trivial)).le (lek rfl : 0 + 2 ≤ n + 19)).retE ?_
  walk_at "e"
  refine WPe_Fn W.to (by decide +kernel) rfl rfl rfl ?_
  walk_at "e"
  refine ((con_told W.to W.len W.ran W.str W.int (ws := (List.range 5).map cl) (hws 5 (by decide)).1 (hws 5 (by decide)).2 (by trivial)).le (lek rfl : 0 + 2 ≤ n + 19)).retE ?_
  walk_at "e"
  refine ⟨rfl, _, rfl, ?_⟩
  have h16 : ∀ r ∈ [toldB ((List.range 3).map cl), toldB ((List.range 5).map cl)], r.length = 16 := fun r hr => by
    rcases List.mem_cons.mp hr with rfl | hr
    · exact told_length _
    · rw [List.mem_singleton.mp hr]; exact told_length _
  generalize toldB ((List.range 3).map cl) = w3 at qd qe h16 ⊢
  generalize toldB ((List.range 5).map cl) = w5 at qd qe h16 ⊢
  have htl : (tabT ls es).length ≤ sizeLine := tab_line (by (exact Nat.le_trans hfew (Nat.le_add_left _ _)))
  have hsl : sliceT (tabT ls es) (some 1) (some (-1)) none = (midE ls es).map (entT ls) := slice_inner
  have hml : (midE ls es).length = es.length := midE_length ls es
  walk_at "m.red"
  refine WPs_cons ?_
  refine WPx_Assign (nameOk_of rfl) ?_ (fun _ _ => rfl)
  refine WPe_Fn W.un (by decide +kernel) rfl rfl rfl ?_
  walk_at "e"
  refine U_neg ?_
  walk_at "e"
  refine ⟨tabT ls es, some 1, some (-1), none, rfl, rfl, rfl, rfl, by decide, htl, ?_⟩
  rw [hsl]
  walk_at "e"
  refine ((con_unfolded W.un W.len W.ran L qk (by trivial)).le (lek rfl : 0 + 2 ≤ n + 19)).retE ?_
  walk_at "m.red"
  refine WPs_cons ?_
  refine WPx_If ?_
  refine WPb_Compare ?_ rfl
  refine WPe_B1 W.sor (.inl ⟨_, rfl⟩) rfl rfl rfl ?_
  refine WPe_ListComp (CompOk.name (by decide +kernel)) ?_ (fun _ _ => rfl) (Nat.succ_pos _)
  walk_at "e"
  refine U_neg ?_
  walk_at "e"
  refine ⟨tabT ls es, some 1, some (-1), none, rfl, rfl, rfl, rfl, by decide, htl, ?_⟩
  rw [hsl]
  refine ⟨_, rfl, mpK (Nat.le_trans (Nat.le_of_eq hml) (Nat.le_trans hfew (Nat.le_add_left _ _))), CompP_of (entT ls) (fun p => knT (getK (knL es) p.2)) (midE ls es) [] (fun p hp => ⟨_, .name, ?_⟩) ?_⟩
  · refine WPe_ditem trivial ?_
    walk_at "e"
    refine ⟨_, 1, .int (p.2 : Nat), rfl, rfl, by decide, by decide, rfl, ?_⟩
    exact ⟨_, _, _, _, rfl, rfl, kn_at (mid_at hp).1, rfl, rfl⟩
  have hA : ((midE ls es).map fun p => knT (getK (knL es) p.2)) = ((midE ls es).map fun p => getK (knL es) p.2).map knT := by rw [List.map_map]; rfl
  rw [List.nil_append, hA]
  have hAp := mid_known ls es
  have hAl : ((midE ls es).map fun p => getK (knL es) p.2).length = es.length := by rw [List.length_map, hml]
  generalize ((midE ls es).map fun p => getK (knL es) p.2) = A at hAp hAl ⊢
  refine F_sorted (ts := A.map knT) rfl (by rw [List.length_map, hAl]; (exact Nat.lt_of_le_of_lt hfew (by decide))) (fun t ht => ?_) (kns_dat _).1 (Nat.le_trans (kns_dat _).2 (by decide)) (kn_fam _) fun us hp hu => ?_
  · obtain ⟨q, _, rfl⟩ := List.mem_map.mp ht
    exact ⟨_, rfl⟩
  refine WPe_Fn W.du (by decide +kernel) rfl rfl rfl ?_
  walk_at "e"
  refine ((con_due W.du W.ran W.sor (rows := [w3, w5]) (Nat.le_refl 2) h16 (by trivial)).le (lek rfl : 0 + 2 ≤ n + 19)).ret ?_
  rintro t ⟨us', hp', hu', rfl⟩
  have fam' : Fam us' := fun a ha b hb => kn_fam _ a (hp'.mem_iff.mp ha) b (hp'.mem_iff.mp hb)
  have hus : us = us' := up_unique fam' (hp.trans (((hAp.trans qd).map knT).trans hp'.symm)) hu hu'
  subst hus
  obtain ⟨B, hB, rfl⟩ := perm_map_inv hp
  refine C_neL (kns_dat B).1 (kns_dat B).1 (Nat.le_trans (kns_dat B).2 (by decide)) (.neg (by rw [eqTs_refl _ (kns_dat B).1]; decide) ?_)
  clear hp hu hp' hu' hB hA hAp hAl qd fam'
  walk_at "m"
  refine WPs_cons ?_
  refine WPx_AssignComp (CompOk.name (by decide +kernel)) rfl ?_ (fun env eo => swaps_local eo rfl rfl rfl) (fun _ _ => rfl) (Nat.succ_pos _)
  walk_at "e"
  refine U_neg ?_
  walk_at "e"
  refine ⟨tabT ls es, some 1, some (-1), none, rfl, rfl, rfl, rfl, by decide, htl, ?_⟩
  rw [hsl]
  refine ⟨_, rfl, mpK (Nat.le_trans (Nat.le_of_eq hml) (Nat.le_trans hfew (Nat.le_add_left _ _))), CompP_of (entT ls) (fun p => .list (markT ls p.1)) (midE ls es) [] (fun p hp => ⟨_, .name, ?_⟩) ?_⟩
  · obtain ⟨hend, hfst⟩ := mid_at hp
    have ht4 : p.1.1 < 4 := EsOk.mid qk.lv p hp
    have hlv4 := lv_get L ht4
    rw [← hfst] at hlv4 ht4
    refine WPe_BinOp ?_
    refine WPe_item trivial ?_
    walk_at "m.red"
    refine WPe_var rfl (nameOk_of rfl) ?_ rfl
    refine WPe_item trivial ?_
    refine WPe_ditem trivial ?_
    walk_at "e"
    refine ⟨_, 1, .int (p.2 : Nat), rfl, rfl, by decide, by decide, rfl, ?_⟩
    refine ⟨_, _, _, _, rfl, rfl, kn_at hend, ?_⟩
    walk_at "e"
    refine ⟨_, 0, .int ((getK (knL es) p.2).1 : Nat), rfl, rfl, by decide, by decide, rfl, ?_⟩
    refine ⟨_, _, _, rfl, rfl, Int.natCast_nonneg _, by (exact s63 (Nat.le_trans (Nat.le_of_lt ht4) (by decide))), hlv4, ?_⟩
    rw [hfst]
    refine WPe_List ?_
    walk_at "e"
    refine WPe_B1 W.int (.inr ⟨_, rfl⟩) rfl rfl rfl ?_
    walk_at "e"
    refine ⟨_, 0, .list (markT ls p.1), rfl, rfl, by decide, by decide, rfl, ?_⟩
    walk_at "e"
    refine ⟨_, 3, .int (p.1.2.1 : Nat), rfl, rfl, by decide, by decide, rfl, ?_⟩
    refine F_intI ?_
    walk_at "e"
    refine WPe_B1 W.int (.inr ⟨_, rfl⟩) rfl rfl rfl ?_
    walk_at "e"
    refine ⟨_, 0, .list (markT ls p.1), rfl, rfl, by decide, by decide, rfl, ?_⟩
    walk_at "e"
    refine ⟨_, 5, .int (p.1.2.2 : Nat), rfl, rfl, by decide, by decide, rfl, ?_⟩
    refine F_intI ?_
    walk_at "e"
    refine ⟨rfl, _, rfl, ?_⟩
    exact B_addL (ts := [.int (lv ls p.1.1).r1, .str (lv ls p.1.1).w1]) (us := [.int 100, .int (p.1.2.1 : Nat), .int 100, .int (p.1.2.2 : Nat)]) (by rw [sizeLine_eq]; show 6 ≤ _; decide) rfl rfl ⟨rfl, rfl⟩
  have hsm := all_small L qk
  have hal := allM_length ls es
  have hpd := pss_dat hsm
  have comp1 : ∀ {m : List T}, m ∈ allM ls es → m.length ≤ 6 := fun {m} hm => by
    unfold allM at hm
    rcases List.mem_cons.mp hm with rfl | hm
    · exact Nat.le_add_left 1 5
    · rcases List.mem_append.mp hm with hm | hm
      · obtain ⟨p, _, rfl⟩ := List.mem_map.mp hm
        exact Nat.le_refl 6
      · rw [List.mem_singleton.mp hm]; exact Nat.le_add_left 1 5
  refine WPs_cons ?_
  refine WPx_AssignComp (CompOk.name (by decide +kernel)) rfl ?_ (fun env eo => swaps_local eo rfl rfl rfl) (fun _ _ => rfl) (Nat.succ_pos _)
  refine WPe_BinOp ?_
  refine WPe_BinOp ?_
  refine WPe_List ?_
  refine WPl_cons ?_ trivial
  refine WPe_List ?_
  walk_at "e"
  refine ⟨rfl, _, rfl, ?_⟩
  walk_at "e"
  refine ⟨rfl, _, rfl, ?_⟩
  refine WPe_B1 W.sor (.inl ⟨_, rfl⟩) rfl rfl rfl ?_
  walk_at "e"
  refine F_sorted (ts := (midE ls es).map fun p => .list (markT ls p.1)) rfl (by rw [List.length_map, hml]; (first | exact zLt hfew rfl | lia)) (fun t ht => ?_) (marks_dat ls _).1 (Nat.le_trans (marks_dat ls _).2 (by decide)) (marks_fam ls _) fun us hp hu => ?_
  · obtain ⟨q, _, rfl⟩ := List.mem_map.mp ht
    exact ⟨_, rfl⟩
  have hus : us = (midE ls es).map fun p => .list (markT ls p.1) := up_unique (marks_fam ls _) hp hu (marks_up ls es)
  subst hus
  clear hp hu
  refine B_addL (ts := [.list [.int 300]]) (us := (midE ls es).map fun p => .list (markT ls p.1)) (by rw [List.length_map, hml, sizeLine_eq]; show 1 + _ ≤ _; (first | exact zLe (Nat.add_le_add_left hfew 1) rfl | lia)) rfl rfl ?_
  refine WPe_List ?_
  refine WPl_cons ?_ trivial
  refine WPe_List ?_
  walk_at "e"
  refine U_neg ?_
  walk_at "e"
  refine ⟨rfl, _, rfl, ?_⟩
  walk_at "e"
  refine ⟨rfl, _, rfl, ?_⟩
  refine B_addL (ts := [.list [.int 300]] ++ (midE ls es).map fun p => .list (markT ls p.1)) (us := [.list [.int (-1)]]) (by rw [List.length_append, List.length_map, hml, sizeLine_eq]; show 1 + _ + 1 ≤ _; (first | exact zLe (Nat.succ_le_succ (Nat.add_le_add_left hfew 1)) rfl | lia)) rfl rfl ?_
  have hall : [T.list [.int 300]] ++ ((midE ls es).map fun p => T.list (markT ls p.1)) ++ [.list [.int (-1)]] = (allM ls es).map T.list := by
    unfold allM
    rw [List.map_cons, List.map_append, List.map_map]; rfl
  rw [hall]
  refine ⟨_, rfl, by rw [List.length_map, hal, sizeLine_eq]; (first | exact zLe (Nat.add_le_add_right hfew 2) rfl | lia), CompP_of T.list (fun m => .list (m.map psT)) (allM ls es) [] (fun m hm => ⟨_, .name, ?_⟩) ?_⟩
  · refine WPe_ListComp (CompOk.name (by decide +kernel)) ?_ (fun _ _ => rfl) (Nat.succ_pos _)
    walk_at "e"
    refine ⟨m, rfl, by have := comp1 hm; rw [sizeLine_eq]; (exact Nat.le_trans this (Nat.le_add_left _ _)), CompP_map psT m [] (fun t ht => ⟨_, .name, ?_⟩) ⟨rfl, rfl⟩⟩
    refine WPe_List ?_
    walk_at "e"
    refine WPe_strT W.str rfl rfl ?_
    walk_at "e"
    refine ⟨t, rfl, hsm m hm t ht, ?_⟩
    walk_at "e"
    exact ⟨rfl, _, rfl, rfl, rfl⟩
  refine WPs_cons ?_
  refine WPx_If ?_
  refine WPb_Compare ?_ rfl
  refine WPe_ListComp (CompOk.name (by decide +kernel)) ?_ (fun _ _ => rfl) (Nat.succ_pos _)
  walk_at "e"
  have hal2 : (allE ls es).length = es.length + 2 := by rw [← hal, ← all_fst, List.length_map]
  refine ⟨(allE ls es).map fun p => .list [.list p.1, .int p.2], by rw [← tab_all]; rfl, by rw [List.length_map, hal2, sizeLine_eq]; (first | exact zLe (Nat.add_le_add_right hfew 2) rfl | lia), CompP_of (fun p => .list [.list p.1, .int p.2]) (fun p => .list (p.1.map psT)) (allE ls es) [] (fun p hp => ⟨_, .name, ?_⟩) ?_⟩
  · have hm : p.1 ∈ allM ls es := by rw [← all_fst]; exact List.mem_map_of_mem hp
    refine WPe_ListComp (CompOk.name (by decide +kernel)) ?_ (fun _ _ => rfl) (Nat.succ_pos _)
    walk_at "e"
    refine ⟨_, 0, .list p.1, rfl, rfl, by decide, by decide, rfl, ?_⟩
    refine ⟨p.1, rfl, by have := comp1 hm; rw [sizeLine_eq]; (exact Nat.le_trans this (Nat.le_add_left _ _)), CompP_map psT p.1 [] (fun t ht => ⟨_, .name, ?_⟩) ⟨rfl, rfl⟩⟩
    refine WPe_List ?_
    walk_at "e"
    refine WPe_strT W.str rfl rfl ?_
    walk_at "e"
    refine ⟨t, rfl, hsm _ hm t ht, ?_⟩
    walk_at "e"
    exact ⟨rfl, _, rfl, rfl, rfl⟩
  have hfs : ((allE ls es).map fun p => T.list (p.1.map psT)) = (allM ls es).map fun m => T.list (m.map psT) := by rw [← all_fst, List.map_map]; rfl
  rw [List.nil_append, hfs]
  walk_at "e"
  refine C_neL hpd.1 hpd.1 (Nat.le_trans hpd.2 (by decide)) (.neg (by rw [eqTs_refl _ hpd.1]; decide) ?_)
  walk_at "m"
  refine WPe_ListComp (CompOk.name (by decide +kernel)) ?_ (fun _ _ => rfl) (Nat.succ_pos _)
  walk_at "e"
  have hen : en.length = 2 := by have := congrArg List.length qe; rw [List.length_map] at this; exact this
  refine ⟨_, rfl, mpK (Nat.le_trans (Nat.le_of_eq hen) (by decide)), CompP_of (fun (e : Nat) => T.int (e : Int)) (fun e => .str (strB (ex 0 (getK (knL es) e)))) en [] (fun e he => ⟨_, .name, ?_⟩) ?_⟩
  · obtain ⟨h0, h2, h3⟩ := qo e he
    have hlk := kn_at h0
    refine WPe_BinOp ?_
    refine WPe_item trivial ?_
    refine WPe_ditem trivial ?_
    walk_at "e"
    refine ⟨_, _, _, _, rfl, rfl, hlk, ?_⟩
    walk_at "e"
    refine ⟨_, 1, .str (strB (getK (knL es) e).2), rfl, rfl, by decide, by decide, rfl, ?_⟩
    refine WPe_BinOp ?_
    walk_at "m.red"
    refine WPe_int ?_
    refine WPe_item trivial ?_
    refine WPe_ditem trivial ?_
    walk_at "e"
    refine ⟨_, _, _, _, rfl, rfl, hlk, ?_⟩
    walk_at "e"
    refine ⟨_, 0, .int ((getK (knL es) e).1 : Nat), rfl, rfl, by decide, by decide, rfl, ?_⟩
    have hpw : (2 : Int) ^ (((getK (knL es) e).1 : Nat) : Int).toNat = ((2 ^ (getK (knL es) e).1 : Nat) : Int) := by rw [Int.toNat_natCast]; exact (Int.natCast_pow 2 _).symm
    refine B_pow (Int.natCast_nonneg _) (by have : (Builtin.Int.intBits 2 : Int) = 2 := by decide +kernel
                                            rw [this]; (first | exact z27 (zLe h2 rfl) | lia)) ?_
    rw [hpw]
    have hp4 : 2 ^ (getK (knL es) e).1 ≤ 2 ^ 4 := Nat.pow_le_pow_right (by decide) h2
    have hmul : (strB (getK (knL es) e).2).length * (((2 ^ (getK (knL es) e).1 : Nat) : Int)).toNat ≤ sizeLine := by
      rw [Int.toNat_natCast, strB_length, sizeLine_eq]
      exact Nat.le_trans (Nat.mul_le_mul h3 hp4) (by decide)
    refine B_mulS (Int.natCast_nonneg _) (by (first | exact z20 hp4 rfl | omega)) (by rw [strB_length]; (exact Nat.lt_of_le_of_lt h3 (by decide))) hmul ?_
    rw [Int.toNat_natCast, strB_rep]
    exact ⟨rfl, rfl⟩
  have hends : (en.map fun e => T.str (strB (ex 0 (getK (knL es) e)))) = [.str (strB w3), .str (strB w5)] := by
    have : (en.map fun e => T.str (strB (ex 0 (getK (knL es) e)))) = (en.map fun e => ex 0 (getK (knL es) e)).map fun b => T.str (strB b) := by rw [List.map_map]; rfl
    rw [this, qe]; rfl
  rw [List.nil_append, hends]
  walk_at "e"
  exact C_eqL rfl rfl (Nat.zero_le _) (hΨr _ _ (by rw [eqTs_refl _ (by rfl)]))
end
end

section
structure TextsOk (ls : List Pr) : Prop where
  w : WordsOk ls
  j : JoinOk ls
  one : ∀ j < 4, TextOk (lv ls j).w1 ∧ keyT (lv ls j).w1 = [.int (lv ls j).r1, .str (lv ls j).w1]
theorem names_get {ps : List Pr} (h : ps.length = 4) {j : Nat} (hj : j < 4) : (ps.map Pr.t)[((j : Nat) : Int).toNat]? = some (ps.getD j default).t := by
  rw [Int.toNat_natCast, List.getElem?_map, List.getD_eq_getElem?_getD, List.getElem?_eq_getElem (by (first | exact Nat.lt_of_lt_of_eq hj h.symm | lia))]; rfl
theorem ranks_get {ps ls : List Pr} (h : ps.length = 4) {j : Nat} (hj : j < 4) : (ps.map fun p => T.int (rkP ls p : Nat))[((j : Nat) : Int).toNat]? = some (.int (rkP ls (ps.getD j default) : Nat)) := by
  rw [Int.toNat_natCast, List.getElem?_map, List.getD_eq_getElem?_getD, List.getElem?_eq_getElem (by (first | exact Nat.lt_of_lt_of_eq hj h.symm | lia))]; rfl
theorem digs_get {cs : List Int} {i j : Nat} (hj : j < 4) : ((List.range' 0 4).map fun j => T.int (dgP cs i j : Nat))[((j : Nat) : Int).toNat]? = some (.int (dgP cs i j : Nat)) := by
  rw [Int.toNat_natCast, List.getElem?_map, List.getElem?_range' hj, Nat.zero_add, Nat.one_mul]; rfl
theorem pr_side {ls ps : List Pr} (L : Lev ls) (hp4 : ps.length = 4) (hin : ∀ p ∈ ps, p ∈ ls) {cs : List Int} {i j : Nat} (hj : j < 4) :
    ([.list [.int (ps.getD j default).r0, .str (ps.getD j default).w0], .list [.int (ps.getD j default).r1, .str (ps.getD j default).w1]] : List T)[((dgP cs i j % 2 : Nat) : Int).toNat]? = some (.list (litW ls (litP cs ps ls i j))) := by
  have hm : ps.getD j default ∈ ps := by
    rw [List.getD_eq_getElem?_getD, List.getElem?_eq_getElem (by (first | exact Nat.lt_of_lt_of_eq hj hp4.symm | lia))]
    exact List.getElem_mem _
  have e := (rk_at L (hin _ hm)).2
  unfold litW litP wd
  dsimp only
  rw [e, Int.toNat_natCast]
  generalize ps.getD j default = p
  rcases Nat.mod_two_eq_zero_or_one (dgP cs i j) with h | h <;> rw [h] <;> rfl
section
variable {C : Cx} {n : Nat}
theorem law_loop {bi ins dt kd dt' kd' cv pt tb sub pr ce na fi nd to du un : Addr} (W : W2 C bi ins dt kd dt' kd' cv pt tb sub pr ce na fi nd to du un)
    {ls : List Pr} (L : Lev ls) (X : TextsOk ls) {ps : List Pr} (hp4 : ps.length = 4) (hin : ∀ p ∈ ps, p ∈ ls) {cs : List Int} (hcs : cs.length = 6) (Q : LawQ (clP cs ps ls) (kkC ls (clP cs ps ls)))
    {Ψr : Out → Prop} (hΨr : ∀ t O', t = T.bool true → Ψr (.ret (.val t) O')) :
    WPs C (n + 19) (fnScope PW "law").names [("read", .ref 2), ("shelf", .ref 1), ("order", .val (.list (ls.map lvT))), ("ranks", .val (.list (ps.map fun p => .int (rkP ls p : Nat)))), ("levels", .val (.list (ls.map lvT))), ("names", .val (.list (ps.map Pr.t))), ("cells", .val (.list (intsT cs)))]
      [.gone, .list [], .list []] ((fnBody PW "law").drop 8) Ψr := by
  have hcl := cl_ok (cs := cs) L hp4 hin
  let cl := clP cs ps ls
  let kk := kkC ls cl
  let tx := txP cs ps ls
  let rdT : T := .list ((shN kk 5).map fun k => .list (kk k))
  let base : Vars := [("wishes", .ref 6), ("laid", .ref 5), ("ends", .ref 4), ("table", .ref 3), ("shelf", .ref 1), ("order", .val (.list (ls.map lvT))), ("ranks", .val (.list (ps.map fun p => .int (rkP ls p : Nat)))), ("levels", .val (.list (ls.map lvT))), ("names", .val (.list (ps.map Pr.t))), ("cells", .val (.list (intsT cs)))]
  walk_at "m.body"
  refine WPs_cons ?_
  refine WPx_Assign (nameOk_of rfl) ?_ (fun _ _ => rfl)
  refine WPe_ListOwn ?_
  refine WPl_cons ?_ trivial
  refine WPe_List ?_
  refine WPl_cons ?_ trivial
  refine WPe_List ?_
  walk_at "e"
  refine ⟨rfl, _, rfl, ?_⟩
  walk_at "e"
  refine ⟨rfl, _, rfl, ?_⟩
  refine WPl_cons ?_ trivial
  refine WPe_List ?_
  refine WPl_cons ?_ trivial
  refine WPe_List ?_
  walk_at "e"
  refine U_neg ?_
  walk_at "e"
  refine ⟨rfl, _, rfl, ?_⟩
  walk_at "e"
  refine ⟨rfl, _, rfl, ?_⟩
  walk_at "e"
  refine ⟨rfl, tabT ls [], rfl, ?_⟩
  walk_at "m.red"
  refine WPs_cons ?_
  refine WPx_empty (nameOk_of rfl) (fun _ _ => rfl) ?_
  walk_at "m.red"
  refine WPs_cons ?_
  refine WPx_empty (nameOk_of rfl) (fun _ _ => rfl) ?_
  walk_at "m.red"
  refine WPs_cons ?_
  refine WPx_empty (nameOk_of rfl) (fun _ _ => rfl) ?_
  walk_at "m.red"
  refine WPs_cons ?_
  refine WPx_For (.name (nameOk_of rfl)) ?_ (fun _ _ => rfl) (Nat.succ_pos _)
  refine WPe_B1 W.ran (.inr ⟨_, rfl⟩) rfl rfl rfl ?_
  walk_at "e"
  refine F_range1 ?_
  refine ⟨_, rangeT 0 1 5, rfl, itemsD_range (a := 0) (b := 5) (by decide) (by decide), ?_⟩
  refine ForP_rng (σ := Nat × Option T) (fun st => match st.2 with | none => base | some t => ("read", .val t) :: base)
    (fun st => [.gone, .list ((shN kk st.1).map fun k => .str (tx k)), .list [], .list (tabT ls (esN cl kk st.1)), .list ((enN cl kk st.1).map fun e => .int (e : Nat)), .list ((List.range st.1).map (laidT kk tx)), .list ((List.range st.1).map fun k => wishT (cl k))])
    (fun i m st => st.1 = i ∧ i + m = 5 ∧ (i = 5 → st.2 = some rdT)) 7 (fun _ => rfl) (fun st => by cases st.2 <;> rfl) ?_ ?_ 0 5 (0, none) _ ⟨rfl, rfl, fun h => by cases h⟩ (Sub.cons rfl (Sub.cons rfl (Sub.cons rfl (Sub.cons rfl (Sub.cons rfl (Sub.cons rfl (Sub.cons rfl (Sub.cons rfl (Sub.cons rfl (Sub.cons rfl Sub.nil))))))))))
  · rintro _ m ⟨i, o⟩ ⟨rfl, him, hro⟩
    dsimp only at him ⊢
    clear hro
    have hi5 : i < 5 := by (exact ltA him)
    have hci := hcl i
    have hcg : (intsT cs)[((i : Nat) : Int).toNat]? = some (.int (cs.getD i 0)) := by rw [Int.toNat_natCast]; exact intsT_get (by (first | exact Nat.lt_of_lt_of_eq (zLt (Nat.le_of_lt (ltA him)) rfl) hcs.symm | lia))
    have hi63 : ((i : Nat) : Int) < 2 ^ 63 := by (exact s63 (Nat.le_trans (Nat.le_of_lt hi5) (by decide)))
    refine ⟨_, .name, fun Ψl hΨl => ?_⟩
    refine WPs.sub (ρ' := ("k", .val (.int (i : Nat))) :: base) ?_ (by
      cases o with
      | none => exact Sub.refl
      | some t => exact (Sub.cons rfl (Sub.cons rfl (Sub.cons rfl (Sub.cons rfl (Sub.cons rfl (Sub.cons rfl (Sub.cons rfl (Sub.cons rfl (Sub.cons rfl (Sub.cons rfl (Sub.cons rfl Sub.nil))))))))))))
    -- the figures
    refine WPs_cons ?_
    refine WPx_Assign (nameOk_of rfl) ?_ (fun env eo => swaps_cell eo rfl)
    refine WPe_ListComp (CompOk.name (by decide +kernel)) ?_ (fun _ _ => rfl) (Nat.succ_pos _)
    refine WPe_B1 W.ran (.inr ⟨_, rfl⟩) rfl rfl rfl ?_
    walk_at "e"
    refine F_range1 ?_
    have hr4 : itemsD ([.gone, .list ((shN kk i).map fun k => .str (tx k)), .list [], .list (tabT ls (esN cl kk i)), .list ((enN cl kk i).map fun e => .int (e : Nat)), .list ((List.range i).map (laidT kk tx)), .list ((List.range i).map fun k => wishT (cl k))] : List Ob) (.val (.range 0 4 1)) = some ((List.range' 0 4).map fun (i : Nat) => T.int (i : Int)) := itemsD_range (a := 0) (b := 4) (by decide) (by decide)
    have h4l : ((List.range' 0 4).map fun (i : Nat) => T.int (i : Int)).length ≤ sizeLine := by rw [sizeLine_eq]; show 4 ≤ _; decide
    refine ⟨_, hr4, h4l, CompP_of (fun (i : Nat) => T.int (i : Int)) (fun j => .int (dgP cs i j : Nat)) (List.range' 0 4) [] (fun j hj => ⟨_, .name, ?_⟩) ?_⟩
    · have hj4 : j < 4 := by simpa [List.mem_range'_1] using hj
      walk_at "e"
      refine ⟨_, _, _, rfl, rfl, Int.natCast_nonneg _, hi63, hcg, ?_⟩
      walk_at "e"
      refine B_pow (Int.natCast_nonneg _) ((by decide +kernel : ∀ j < 4, (Builtin.Int.intBits 3 : Int) * (j : Nat) ≤ 2 ^ 27) j hj4) ?_
      rw [Int.toNat_natCast]
      obtain ⟨z1, z2⟩ := (by decide : ∀ j < 4, (3 : Int) ^ j ≠ 0 ∧ ((3 : Int) ^ j).natAbs < 1073741824) j hj4
      refine B_floordiv z1 z2 ?_
      walk_at "e"
      refine B_mod (by decide) ?_
      rw [(dg_eq cs i j).1]
      exact ⟨rfl, rfl⟩
    walk_at "m.red"
    -- the words
    have hon : ∀ {j}, j ∈ List.range' 0 4 → j < 4 := fun {j} hj => by simpa [List.mem_range'_1] using hj
    refine WPs_cons ?_
    refine WPx_AssignComp (CompOk.name (by decide +kernel)) rfl ?_ (fun env eo => swaps_local eo rfl rfl rfl) (fun _ _ => rfl) (Nat.succ_pos _)
    refine WPe_B1 W.ran (.inr ⟨_, rfl⟩) rfl rfl rfl ?_
    walk_at "e"
    refine F_range1 ?_
    refine ⟨_, hr4, h4l, CompP_ofIf (fun (i : Nat) => T.int (i : Int)) (fun j => .list (litW ls (litP cs ps ls i j))) (fun j => decide (0 < dgP cs i j)) (List.range' 0 4) [] (fun j hj => ⟨_, .name, ?_, fun _ => ?_⟩) ?_⟩
    · refine WPb_Compare ?_ rfl
      walk_at "e"
      refine ⟨_, _, _, rfl, rfl, Int.natCast_nonneg _, by have := hon hj; (exact s63 (Nat.le_trans (Nat.le_of_lt this) (by decide))), digs_get (hon hj), ?_⟩
      walk_at "e"
      refine C_gtI ⟨_, rfl, rfl, ?_⟩
      exact decide_eq_decide.mpr (by (first | exact Int.natCast_pos | omega))
    · have hj4 := hon hj
      walk_at "e"
      refine ⟨_, _, _, rfl, rfl, Int.natCast_nonneg _, by (exact s63 (Nat.le_trans (Nat.le_of_lt hj4) (by decide))), names_get hp4 hj4, ?_⟩
      walk_at "e"
      refine ⟨_, _, _, rfl, rfl, Int.natCast_nonneg _, by (first | exact z63 (Nat.le_of_lt hj4) rfl | lia), digs_get hj4, ?_⟩
      walk_at "e"
      refine B_mod (by decide) ?_
      rw [show Int.fmod ((dgP cs i j : Nat) : Int) 2 = ((dgP cs i j % 2 : Nat) : Int) from fmod_nat _ 2 (by decide)]
      exact ⟨_, _, _, rfl, rfl, Int.natCast_nonneg _, by (first | exact z63 (Nat.le_of_lt (Nat.mod_lt _ (Nat.succ_pos 1))) rfl | lia), pr_side L hp4 hin hj4, rfl, rfl⟩
    have hwds : ((List.range' 0 4).filter fun j => decide (0 < dgP cs i j)).map (fun j => T.list (litW ls (litP cs ps ls i j))) = (cl i).map fun l => .list (litW ls l) := by
      show _ = ((onP cs i).map (litP cs ps ls i)).map _
      rw [List.map_map]; rfl
    rw [List.nil_append, hwds]
    walk_at "m.red"
    -- the text
    obtain ⟨sg1, sg2'⟩ := sg_eq cs i
    have hi2 : i % 2 < 2 := Nat.mod_lt _ (by decide)
    have htx : TextOk (tx i) := X.j.txt (cl i) hci _ sg2' _ hi2
    have hkey : keyT (tx i) = kk i := X.j.key (cl i) hci _ sg2' _ hi2
    have hsgs : signsS.cps.size = 4 := by decide +kernel
    refine WPs_cons ?_
    refine WPx_Assign (nameOk_of rfl) ?_ (fun _ _ => rfl)
    refine WPe_CallM (fun _ _ => rfl) (ns_of rfl) (by decide) rfl F.plainAttrs_str F.slot_str_join F.type_str_join ?_
    refine WPe_BinOp ?_
    refine WPe_sign trivial ?_
    walk_at "e"
    refine ⟨_, _, _, rfl, rfl, Int.natCast_nonneg _, hi63, hcg, ?_⟩
    walk_at "e"
    refine B_floordiv (by decide) (by decide) ?_
    walk_at "e"
    refine B_mod (by decide) ?_
    rw [sg1]
    refine ⟨signsS, _, signsS.cps.getD (sgP cs i) 0, rfl, rfl, Int.natCast_nonneg _, by (first | exact z62 (Nat.le_of_lt sg2') rfl | omega), ?_, ?_⟩
    · rw [Int.toNat_natCast, Array.getD, dif_pos (by rw [hsgs]; exact sg2')]
      exact Array.getElem?_eq_getElem (by rw [hsgs]; exact sg2')
    walk_at "e"
    refine B_mod (by decide) ?_
    rw [show Int.fmod ((i : Nat) : Int) 2 = ((i % 2 : Nat) : Int) from fmod_nat _ 2 (by decide)]
    refine B_add ?_
    rw [show (1 : Int) + ((i % 2 : Nat) : Int) = ((1 + i % 2 : Nat) : Int) by rfl]
    refine B_mulS (Int.natCast_nonneg _) (by (first | exact z20 (Nat.add_le_add_left (Nat.le_of_lt_succ (Nat.mod_lt _ (Nat.succ_pos 1))) 1) rfl | lia)) (by show (#[signsS.cps.getD (sgP cs i) 0] : Array Nat).size < 2 ^ 20; simp) (by show (#[signsS.cps.getD (sgP cs i) 0] : Array Nat).size * _ ≤ _; rw [Int.toNat_natCast, sizeLine_eq]; simp; (first | exact zLe (Nat.add_le_add_left (Nat.le_of_lt (Nat.mod_lt _ (Nat.succ_pos 1))) 1) rfl | lia)) ?_
    rw [Int.toNat_natCast]
    refine ⟨tyStr, ?_⟩
    refine WPl_cons ?_ trivial
    refine WPe_ListComp (CompOk.pair (by decide +kernel)) ?_ (fun _ _ => rfl) (Nat.succ_pos _)
    walk_at "e"
    refine ⟨_, rfl, by rw [List.length_map, sizeLine_eq]; have := hci.few; show (clP cs ps ls i).length ≤ _; (exact Nat.le_trans this (Nat.le_add_left _ _)), CompP_of (fun l => .list (litW ls l)) (fun l => .str (wd ls l)) (cl i) [] (fun l hl => ⟨_, .pair, ?_⟩) ?_⟩
    · walk_at "e"
      exact ⟨rfl, rfl⟩
    rw [List.nil_append]
    walk_at "e"
    obtain ⟨hf1, hf2⟩ := X.j.fit (cl i) hci _ sg2' _ hi2
    refine ConB.con (F_join (ts := (cl i).map fun l => .str (wd ls l)) rfl (strsT_map (wd ls) (cl i)) hf1 hf2 ?_)
    show SeqK _ _ _ _ _ (.next (("text", .val (.str (tx i))) :: _) _)
    walk_at "m.red"
    -- what is laid
    refine WPs_cons ?_
    refine WPx_append (i := 5) rfl (nameOk_of rfl) rfl rfl rfl rfl (fun _ _ => rfl) ?_
    refine WPe_List ?_
    refine WPl_cons ?_ trivial
    refine WPe_Comp2 (CompOk.pair (by decide +kernel)) (nameOk_of rfl) (nameOk_of rfl) (by decide) (by decide) rfl rfl (by decide) ?_ (fun _ _ => rfl) (Nat.succ_pos _)
    walk_at "e"
    have hfl : ((cl i).map (litW ls)).flatten = kk i := List.flatMap_def.symm
    refine ⟨(cl i).map (litW ls), by rw [List.map_map]; rfl, by rw [hfl, ckey_length, sizeLine_eq]; have := hci.few; show 2 * (clP cs ps ls i).length ≤ _; (first | exact zLe (Nat.mul_le_mul_left 2 this) rfl | lia), ?_⟩
    rw [hfl]
    walk_at "e"
    refine U_neg ?_
    walk_at "e"
    refine ⟨rfl, _, rfl, ?_⟩
    refine ⟨(List.range i).map (laidT kk tx), laidT kk tx i, rfl, rfl, by rw [List.length_map, List.length_range, sizeLine_eq]; (exact (Nat.le_trans (Nat.le_of_lt hi5) (by decide))), ?_⟩
    rw [show (List.range i).map (laidT kk tx) ++ [laidT kk tx i] = (List.range (i + 1)).map (laidT kk tx) by rw [List.range_succ, List.map_append]; rfl]
    walk_at "m.red"
    -- the wish
    refine WPs_cons ?_
    refine WPx_append (i := 6) rfl (nameOk_of rfl) rfl rfl rfl rfl (fun _ _ => rfl) ?_
    refine WPe_ListComp (CompOk.name (by decide +kernel)) ?_ (fun _ _ => rfl) (Nat.succ_pos _)
    refine WPe_B1 W.ran (.inr ⟨_, rfl⟩) rfl rfl rfl ?_
    walk_at "e"
    refine F_range1 ?_
    refine ⟨_, hr4, h4l, CompP_ofIf (fun (i : Nat) => T.int (i : Int)) (fun j => litT (litP cs ps ls i j)) (fun j => decide (0 < dgP cs i j)) (List.range' 0 4) [] (fun j hj => ⟨_, .name, ?_, fun _ => ?_⟩) ?_⟩
    · refine WPb_Compare ?_ rfl
      walk_at "e"
      refine ⟨_, _, _, rfl, rfl, Int.natCast_nonneg _, by have := hon hj; (first | exact z63 (Nat.le_of_lt this) rfl | lia), digs_get (hon hj), ?_⟩
      walk_at "e"
      refine C_gtI ⟨_, rfl, rfl, ?_⟩
      exact decide_eq_decide.mpr (by (first | exact Int.natCast_pos | lia))
    · have hj4 := hon hj
      refine WPe_List ?_
      walk_at "e"
      refine ⟨_, _, _, rfl, rfl, Int.natCast_nonneg _, by (first | exact z63 (Nat.le_of_lt hj4) rfl | lia), ranks_get hp4 hj4, ?_⟩
      walk_at "e"
      refine ⟨_, _, _, rfl, rfl, Int.natCast_nonneg _, by (first | exact z63 (Nat.le_of_lt hj4) rfl | lia), digs_get hj4, ?_⟩
      walk_at "e"
      refine B_mod (by decide) ?_
      rw [show Int.fmod ((dgP cs i j : Nat) : Int) 2 = ((dgP cs i j % 2 : Nat) : Int) from fmod_nat _ 2 (by decide)]
      walk_at "e"
      exact ⟨rfl, _, rfl, rfl, rfl⟩
    have hwsh : ((List.range' 0 4).filter fun j => decide (0 < dgP cs i j)).map (fun j => litT (litP cs ps ls i j)) = (cl i).map litT := by
      show _ = ((onP cs i).map (litP cs ps ls i)).map _
      rw [List.map_map]; rfl
    rw [List.nil_append, hwsh]
    refine ⟨(List.range i).map fun k => wishT (cl k), wishT (cl i), rfl, rfl, by rw [List.length_map, List.length_range, sizeLine_eq]; (first | exact zLe (Nat.le_of_lt (ltA him)) rfl | lia), ?_⟩
    rw [show ((List.range i).map fun k => wishT (cl k)) ++ [wishT (cl i)] = (List.range (i + 1)).map fun k => wishT (cl k) by rw [List.range_succ, List.map_append]; rfl]
    walk_at "m.red"
    -- the shelf
    have htxs : ∀ k, TextOk (tx k) := fun k => X.j.txt (cl k) (hcl k) _ (sg_eq cs k).2 _ (Nat.mod_lt _ (by decide))
    have hkV : ∀ k, keyV (.str (tx k)) = .list (kk k) := fun k => congrArg T.list (X.j.key (cl k) (hcl k) _ (sg_eq cs k).2 _ (Nat.mod_lt _ (by decide)))
    have hsl := shN_length kk i
    have hsl' := shN_length kk (i + 1)
    obtain ⟨r1, r2, r3, r4⟩ := run_facts cl kk (i := i) (by (exact Nat.le_of_lt hi5))
    have KL : KeyAt C (0 + 3) cv (fun t => ∃ k, t = .str (tx k)) keyV := (key_cv W.c).weaken fun u ⟨k, e⟩ => ⟨_, e, htxs k⟩
    refine WPs_cons ?_
    refine WPx_If ?_
    refine WPb_Compare ?_ rfl
    obtain ⟨fdi, bodyi, Fi⟩ := W.b.ins.fn (by decide +kernel)
    refine WPe_Call Fi (ns_of rfl) (by decide) (WPe_glob W.b.ins.glob rfl ⟨rfl, ?_⟩ rfl)
    walk_at "e"
    refine WPe_glob W.c.df.glob rfl ?_ rfl
    walk_at "e"
    refine ⟨rfl, ((call_ins W.b KL (Nat.succ_pos _) (O := [.gone, .list ((shN kk i).map fun k => .str (tx k)), .list [], .list (tabT ls (esN cl kk i)), .list ((enN cl kk i).map fun e => .int (e : Nat)), .list ((List.range (i + 1)).map (laidT kk tx)), .list ((List.range (i + 1)).map fun k => wishT (cl k))]) (i := 1) (x := .str (tx i)) ⟨trivial, trivial, trivial, trivial, trivial, trivial, trivial, trivial⟩ rfl (by rw [List.length_map, hsl, sizeLine_eq]; (first | exact zLe (Nat.le_of_lt (ltA him)) rfl | lia)) (fun u hu => ?_) ⟨i, rfl⟩ (fun u ⟨k, e⟩ => ?_) (fun u ⟨k, e⟩ v ⟨k', e'⟩ => ?_) ?_).le (lek rfl : 0 + 3 + 2 ≤ n + 19)).mono ?_⟩
    · obtain ⟨k, _, rfl⟩ := List.mem_map.mp hu
      exact ⟨k, rfl⟩
    · rw [e, hkV k, datT, depT, (ckey_dat ls (cl k)).1, (ckey_dat ls (cl k)).2]
      exact ⟨rfl, by decide⟩
    · rw [e, e', hkV k, hkV k', cmpT_list]; exact ckey_cmp ls _ _
    · unfold UpBy
      rw [List.pairwise_map]
      exact (sh_up i).imp fun {a b} h => by rw [hkV, hkV, ltT_list]; exact h
    rintro d O' ⟨rfl, rfl⟩
    have hins : insW (fun a b => ltT (keyV a) (keyV b)) (.str (tx i)) ((shN kk i).map fun k => .str (tx k)) = (shN kk (i + 1)).map fun k => .str (tx k) := by
      rw [insW_map (f := fun k => T.str (tx k))]
      have : (fun a b : Nat => ltT (keyV (.str (tx a))) (keyV (.str (tx b)))) = slt kk := by
        funext a b
        rw [hkV, hkV, ltT_list]; rfl
      rw [this]; rfl
    rw [hins]
    walk_at "e"
    refine C_isNotNone (by intro u q; cases q) (.neg (by decide) ?_)
    refine WPs_nil ?_
    walk_at "m.red"
    refine WPs_cons ?_
    refine WPx_If ?_
    refine WPb_Compare ?_ rfl
    walk_at "e"
    refine WPe_List ?_
    walk_at "e"
    refine ⟨rfl, _, rfl, ?_⟩
    refine C_in (ts := [.int 2, .int 4]) rfl rfl (Nat.zero_le _) rfl ⟨_, rfl, ?_⟩
    rw [(by decide : ∀ i < 5, ([T.int 2, .int 4].any fun t => eqT t (.int ((i : Nat) : Int))) = decide (i = 2 ∨ i = 4)) i hi5]
    by_cases h24 : i = 2 ∨ i = 4
    · rw [if_pos (decide_eq_true h24)]
      obtain ⟨n1, n2⟩ := run_node (cl := cl) (kk := kk) h24
      refine WPs_cons ?_
      refine WPx_AssignComp (CompOk.name (by decide +kernel)) rfl ?_ (fun env eo => swaps_local eo rfl rfl rfl) (fun _ _ => rfl) (Nat.succ_pos _)
      walk_at "e"
      refine ⟨_, rfl, mpK (Nat.le_trans (Nat.le_of_eq hsl') (Nat.le_trans hi5 (Nat.le_add_left _ _))), CompP_of (fun k => .str (tx k)) (fun k => .list (kk k)) (shN kk (i + 1)) [] (fun k hk => ⟨_, .name, ?_⟩) ?_⟩
      · refine WPe_Fn W.c.df (by decide +kernel) rfl rfl rfl ?_
        walk_at "e"
        refine ((con_cv W.c (htxs k) (by exact ⟨trivial, trivial, trivial, trivial, trivial, trivial, trivial, trivial⟩)).le (lek rfl : 0 + 3 ≤ n + 19)).retE ?_
        exact ⟨rfl, by rw [show keyT (tx k) = kk k from X.j.key (cl k) (hcl k) _ (sg_eq cs k).2 _ (Nat.mod_lt _ (by decide))]⟩
      rw [List.nil_append]
      walk_at "m.red"
      refine WPs_cons ?_
      refine WPx_append (i := 4) rfl (nameOk_of rfl) rfl rfl rfl rfl (fun _ _ => rfl) ?_
      refine WPe_Fn W.nd (by decide +kernel) rfl rfl rfl ?_
      refine WPl_cons ?_ trivial
      refine WPe_ListComp (CompOk.name (by decide +kernel)) ?_ (fun _ _ => rfl) (Nat.succ_pos _)
      walk_at "e"
      refine ⟨_, rfl, mpK (Nat.le_trans (Nat.le_of_eq hsl') (Nat.le_trans hi5 (Nat.le_add_left _ _))), CompP_of (fun k => .list (kk k)) (fun k => clT ls (cl k)) (shN kk (i + 1)) [] (fun k hk => ⟨_, .name, ?_⟩) ?_⟩
      · walk_at "e"
        refine ⟨kk k, some 1, none, some 2, rfl, rfl, rfl, rfl, by decide, by rw [ckey_length, sizeLine_eq]; have := (hcl k).few; show 2 * (clP cs ps ls k).length ≤ _; (first | exact zLe (Nat.mul_le_mul_left 2 this) rfl | lia), ?_⟩
        rw [show sliceT (kk k) (some 1) none (some 2) = (cl k).map fun l => .str (wd ls l) from ckey_words (hcl k).few]
        exact ⟨rfl, rfl⟩
      rw [List.nil_append, show ((shN kk (i + 1)).map fun k => clT ls (cl k)) = ((shN kk (i + 1)).map cl).map (clT ls) by rw [List.map_map]; rfl]
      walk_at "e"
      have hR : RowsIn (4 - 4) ((shN kk (i + 1)).map cl) := ⟨by rw [List.length_map, hsl']; (exact Nat.le_trans hi5 (Nat.le_add_left _ _)), fun c hc => by
        obtain ⟨k, _, rfl⟩ := List.mem_map.mp hc
        exact ⟨(hcl k).few, fun l hl => ⟨Nat.zero_le _, (hcl k).ok l hl⟩⟩⟩
      have r3 := r3 hi5
      refine Con.own1 (i := 3) (ds := [.val (.list (((shN kk (i + 1)).map cl).map (clT ls))), .val (.list ((ls.drop (4 - 4)).map lvT)), .ref 0]) (by exact ⟨trivial, trivial, trivial, trivial, trivial, trivial, trivial, trivial⟩) rfl (by simp)
        ((con_node (n := 0) W.nd W.b W.c W.fi W.s W.len W.ran W.str L X.w 4 (Nat.le_refl 4) ((shN kk (i + 1)).map cl) (esN cl kk i) hR r1 (by show _ + 16 ≤ 60; (first | exact zLe (Nat.add_le_add_right ((by assumption) hi5) 16) rfl | lia))).le (lek rfl : 0 + 4 + 4 ≤ n + 19)) ?_
      rintro t ob' ⟨rfl, rfl⟩
      refine ⟨(enN cl kk i).map fun e => .int (e : Nat), _, rfl, rfl, mpK (Nat.le_trans r4 (Nat.le_add_left _ _)), ?_⟩
      walk_at "m.red"
      walk_at "m"
      refine (hΨl _ _ ?_).1
      refine ⟨(i + 1, some (.list ((shN kk (i + 1)).map fun k => .list (kk k)))), [], ⟨rfl, by (exact nxA him), fun h => by rw [h]⟩, (Sub.cons rfl (Sub.cons rfl (Sub.cons rfl (Sub.cons rfl (Sub.cons rfl (Sub.cons rfl (Sub.cons rfl (Sub.cons rfl (Sub.cons rfl (Sub.cons rfl (Sub.cons rfl Sub.nil))))))))))), ?_⟩
      dsimp only
      rw [n1, n2, List.map_append]; rfl
    · rw [if_neg (by simpa using h24)]
      obtain ⟨n1, n2⟩ := run_same (cl := cl) (kk := kk) hi5 h24
      walk_at "m"
      refine (hΨl _ _ ?_).1
      refine ⟨(i + 1, none), [], ⟨rfl, by (first | exact nxA him | lia), fun h => absurd (.inr (by (first | exact Nat.add_right_cancel h | lia))) h24⟩, (Sub.cons rfl (Sub.cons rfl (Sub.cons rfl (Sub.cons rfl (Sub.cons rfl (Sub.cons rfl (Sub.cons rfl (Sub.cons rfl (Sub.cons rfl (Sub.cons rfl Sub.nil)))))))))), ?_⟩
      dsimp only
      rw [n1, n2]; rfl
  · rintro i ⟨i', o⟩ ρ ⟨rfl, him, ho⟩ hsub
    have him : i' = 5 := him
    subst him
    obtain rfl : o = some rdT := ho rfl
    refine WPs.sub ?_ hsub
    exact law_back W L hcl Q hΨr
end
end

section
theorem lv_fam (ps : List Pr) : Fam (ps.map lvT) := fun a ha b hb => by
  obtain ⟨p, _, rfl⟩ := List.mem_map.mp ha
  obtain ⟨q, _, rfl⟩ := List.mem_map.mp hb
  unfold lvT
  rw [cmpT_list, cmpTs]
  split
  · rw [cmpTs]; split <;> rfl
  · rfl
theorem lv_up {st : List T} {x : T} (hst : ∀ t ∈ st, ∃ q, t = lvT q) (hx : ∃ q, x = lvT q) (hu : Up st) : Up (insW (fun a b => ltT a b) x st) ∧ CmpOk id x st ∧ Rises id x st 0 st.length := by
  have cmp : ∀ a b : T, (∃ q, a = lvT q) → (∃ q, b = lvT q) → cmpT a b = true := by
    rintro a b ⟨p, rfl⟩ ⟨q, rfl⟩
    exact lv_fam [p, q] _ (List.mem_cons_self ..) _ (List.mem_cons_of_mem _ (List.mem_cons_self ..))
  refine ⟨insW_up (P := fun t => ∃ q, t = lvT q) ltT_asym (fun a b d h1 h2 h3 => leT_tr (cmp a b h1 h2) (cmp b d h2 h3) (cmp a d h1 h3)) hx hst hu, ⟨?_, fun t ht => ?_⟩, ?_⟩
  · obtain ⟨q, rfl⟩ := hx; rfl
  · refine ⟨?_, cmp t x (hst t ht) hx, ?_⟩ <;> obtain ⟨q, rfl⟩ := hst t ht
    · rfl
    · exact Nat.le_trans (Nat.le_refl 1) (by decide)
  · exact UpBy.rises (kf := id) hu (fun a ha b hb => cmp a b (hst a ha) (hst b hb)) (fun a ha => cmp a x (hst a ha) hx) 0 st.length
section
variable {C : Cx} {n : Nat}
theorem con_law {al bi ins dt kd dt' kd' cv pt tb sub pr ce na fi nd to du un : Addr} (Wl : DefAt C PW "law" al .none .none) (W : W2 C bi ins dt kd dt' kd' cv pt tb sub pr ce na fi nd to du un)
    (hT : ∀ ls, Lev ls → TextsOk ls) (hQ : ∀ (cl : Nat → Cl) (kk : Nat → List T), (∀ k, ClOk (cl k)) → LawQ cl kk) {ns : List Int} (hns : ns.length ≤ 63) :
    Con C (n + 20) (.ref al) [] [.val (.list (intsT ns))] [] fun d O' => RetD [] O' d fun t => t = .bool true := by
  refine Con_fn ["script"] Wl trivial (by simp) rfl (by decide +kernel) (fun pm cd doc => vs1 fun _ => rfl) ?_
  intro Ψr hΨr
  walk_at "m.body"
  walk_at "asg"
  refine WPe_Fn W.ce (by decide +kernel) rfl rfl rfl ?_
  walk_at "e"
  refine ((con_cells W.ce W.len W.ran (O := []) trivial hns).le (lek rfl : 0 + 2 ≤ n + 19)).ret ?_
  rintro t ⟨cs, hcs, rfl⟩
  walk_at "m.red"
  walk_at "asg"
  refine WPe_Fn W.na (by decide +kernel) rfl rfl rfl ?_
  walk_at "e"
  refine ⟨_, 5, .int (cs.getD 5 0), rfl, rfl, by decide, by decide, intsT_get (i := 5) (by (exact Nat.le_of_eq hcs.symm)), ?_⟩
  walk_at "e"
  refine ((con_names W.na W.pr W.len W.ran (O := []) trivial).le (lek rfl : 0 + 3 ≤ n + 19)).ret ?_
  rintro t ⟨ps, F, rfl⟩
  have hp4 := F.four
  walk_at "m.red"
  walk_at "asg"
  refine WPe_B1 W.sor (.inl ⟨_, rfl⟩) rfl rfl rfl ?_
  refine WPe_ListComp (CompOk.name (by decide +kernel)) ?_ (fun _ _ => rfl) (Nat.succ_pos _)
  walk_at "e"
  refine ⟨_, rfl, mpK (Nat.le_trans (Nat.le_of_eq hp4) (by decide)), CompP_of Pr.t lvT ps [] (fun p hp => ⟨_, .name, ?_⟩) ?_⟩
  · walk_at "e"
    exact ⟨_, 1, lvT p, rfl, rfl, by decide, by decide, rfl, rfl, rfl⟩
  refine F_sorted (ts := ps.map lvT) rfl (by rw [List.length_map, hp4]; decide) (fun t ht => ?_) (lvs_dat _).1 (Nat.le_trans (lvs_dat _).2 (by decide)) (lv_fam _) fun us hp hu => ?_
  · obtain ⟨p, _, rfl⟩ := List.mem_map.mp ht
    exact ⟨_, rfl⟩
  obtain ⟨ls, hls, rfl, L⟩ := lev_of F hp hu
  have X := hT ls L
  have T1 := X.one
  clear hp
  have hin : ∀ p ∈ ps, p ∈ ls := fun p hp => hls.mem_iff.mpr hp
  walk_at "m.red"
  refine WPs_cons ?_
  refine WPx_Assign (nameOk_of rfl) ?_ (fun env eo => swaps_cell eo rfl)
  refine WPe_ListComp (CompOk.name (by decide +kernel)) ?_ (fun _ _ => rfl) (Nat.succ_pos _)
  walk_at "e"
  refine ⟨_, rfl, mpK (Nat.le_trans (Nat.le_of_eq hp4) (by decide)), CompP_of Pr.t (fun p => .int (rkP ls p : Nat)) ps [] (fun p hp => ⟨_, .name, ?_⟩) ?_⟩
  · obtain ⟨r4, hr⟩ := rk_at L (hin p hp)
    refine WPe_item trivial ?_
    refine WPe_ListComp (CompOk.name (by decide +kernel)) ?_ (fun _ _ => rfl) (Nat.succ_pos _)
    refine WPe_B1 W.ran (.inr ⟨_, rfl⟩) rfl rfl rfl ?_
    walk_at "e"
    refine F_range1 ?_
    refine ⟨rangeT 0 1 4, itemsD_range (a := 0) (b := 4) (by decide) (by decide), rgK (by decide), ?_⟩
    rw [show rangeT 0 1 4 = (List.range' 0 4).map fun (i : Nat) => T.int (i : Int) from rangeT_map 0 4]
    refine CompP_ofIf (fun (i : Nat) => T.int (i : Int)) (fun (i : Nat) => T.int (i : Int)) (fun i => decide (i = rkP ls p)) (List.range' 0 4) [] (fun k hk => ⟨_, .name, ?_, fun _ => ?_⟩) ?_
    · have hk4 : k < 4 := by simpa [List.mem_range'_1] using hk
      refine WPb_Compare ?_ rfl
      walk_at "e"
      refine ⟨_, _, _, rfl, rfl, Int.natCast_nonneg _, by (exact s63 (Nat.le_trans (Nat.le_of_lt hk4) (by decide))), lv_get L hk4, ?_⟩
      walk_at "e"
      refine ⟨_, 1, lvT p, rfl, rfl, by decide, by decide, rfl, ?_⟩
      refine C_eqL (ts := [.int (lv ls k).r1, .str (lv ls k).w1]) (us := [.int p.r1, .str p.w1]) rfl rfl (Nat.zero_le _) ⟨_, rfl, rfl, ?_⟩
      have := lv_eq L hk4 r4
      rw [hr] at this
      exact this
    · walk_at "e"
      exact ⟨rfl, rfl⟩
    walk_at "e"
    refine ⟨_, 0, .int (rkP ls p : Nat), rfl, rfl, by decide, by decide, ?_, rfl, rfl⟩
    show (List.map _ _)[0]? = _
    rw [(by decide : ∀ j < 4, ((List.range' 0 4).filter fun i => decide (i = j)) = [j]) _ r4]; rfl
  walk_at "m.red"
  refine WPs_cons ?_
  refine WPx_empty (nameOk_of rfl) (fun _ _ => rfl) ?_
  walk_at "m.red"
  refine WPs_cons ?_
  refine WPx_For (.name (nameOk_of rfl)) ?_ (fun _ _ => rfl) (Nat.succ_pos _)
  walk_at "e"
  refine ⟨_, _, rfl, rfl, ?_⟩
  refine ForP_map (σ := List T) Pr.t (fun st => [("order", .ref 0), ("ranks", .val (.list (ps.map fun p => .int (rkP ls p : Nat)))), ("levels", .val (.list (ls.map lvT))), ("names", .val (.list (ps.map Pr.t))), ("cells", .val (.list (intsT cs)))]) (fun st => [.list st])
    (fun rest st => ∃ done, done ++ rest = ps ∧ st.Perm (done.map lvT) ∧ Up st) 1 (fun _ => rfl) (fun _ => rfl) ?_ ?_ ps [] _ ⟨[], rfl, .refl _, List.Pairwise.nil⟩ (Sub.cons rfl (Sub.cons rfl (Sub.cons rfl (Sub.cons rfl (Sub.cons rfl Sub.nil)))))
  · rintro p rest st ⟨done, hd, hst, hup⟩
    have hpin : p ∈ ps := by rw [← hd]; exact List.mem_append_right _ (List.mem_cons_self ..)
    obtain ⟨r4, hr⟩ := rk_at L (hin p hpin)
    obtain ⟨t1, t2⟩ := T1 _ r4
    rw [hr] at t1 t2
    have hmem : ∀ t ∈ st, ∃ q, t = lvT q := fun t ht => by
      obtain ⟨q, _, rfl⟩ := List.mem_map.mp (hst.mem_iff.mp ht)
      exact ⟨q, rfl⟩
    obtain ⟨u1, u2, u3⟩ := lv_up hmem ⟨p, rfl⟩ hup
    have hsl : st.length ≤ 100 := by
      have h1 := hst.length_eq
      have h2 := congrArg List.length hd
      rw [List.length_map] at h1
      rw [List.length_append, hp4] at h2
      (first | exact zLe (zEq h1 (Nat.le_trans (Nat.le_add_right _ _) (Nat.le_of_eq h2))) rfl | lia)
    refine ⟨_, .name, fun Ψl hΨl => ?_⟩
    refine WPs_cons ?_
    refine WPx_Expr ?_ (fun _ _ => rfl)
    refine WPe_Fn W.b.ins (by decide +kernel) rfl rfl rfl ?_
    walk_at "e"
    refine WPe_Fn W.c.df (by decide +kernel) rfl rfl rfl ?_
    walk_at "e"
    refine ⟨_, 1, lvT p, rfl, rfl, by decide, by decide, rfl, ?_⟩
    walk_at "e"
    refine ⟨_, 1, .str p.w1, rfl, rfl, by decide, by decide, rfl, ?_⟩
    walk_at "e"
    refine ((con_cv W.c t1 (O := [.list st]) ⟨trivial, trivial⟩).le (lek rfl : 0 + 3 ≤ n + 19)).retE ?_
    rw [t2]
    walk_at "e"
    refine ((con_ins0 (n := 0) W.b (x := lvT p) hsl u2 u3).le (lek rfl : 0 + 2 ≤ n + 19)).eqE ?_
    refine ⟨rfl, ?_⟩
    walk_at "m"
    refine (hΨl _ _ ?_).1
    refine ⟨_, [], ⟨done ++ [p], by rw [List.append_assoc]; exact hd, ?_, u1⟩, Sub.cons rfl (Sub.cons rfl (Sub.cons rfl (Sub.cons rfl (Sub.cons rfl Sub.nil)))), rfl⟩
    rw [List.map_append]
    exact insW_perm.trans ((hst.cons _).trans (List.perm_append_comm (l₁ := [lvT p])))
  · rintro st ρ ⟨done, hd, hst, hup⟩ hsub
    rw [List.append_nil] at hd
    rw [hd] at hst
    clear hd
    have hst : st = ls.map lvT := up_unique (lv_fam ls) (hst.trans (hls.map lvT).symm) hup hu
    subst hst
    refine WPs.sub ?_ hsub
    refine WPs_freeze (i := 0) rfl ?_
    refine WPs_cons ?_
    refine WPx_empty (nameOk_of rfl) (fun _ _ => rfl) ?_
    refine WPs_cons ?_
    refine WPx_empty (nameOk_of rfl) (fun _ _ => rfl) ?_
    refine WPs.sub (ρ' := [("read", .ref 2), ("shelf", .ref 1), ("order", .val (.list (ls.map lvT))), ("ranks", .val (.list (ps.map fun p => .int (rkP ls p : Nat)))), ("levels", .val (.list (ls.map lvT))), ("names", .val (.list (ps.map Pr.t))), ("cells", .val (.list (intsT cs)))]) ?_ (Sub.cons rfl (Sub.cons rfl (Sub.cons rfl (Sub.cons rfl (Sub.cons rfl (Sub.cons rfl (Sub.cons rfl Sub.nil)))))))
    exact law_loop W L X hp4 hin hcs (hQ _ _ (cl_ok L hp4 hin)) hΨr
end
end

end Mine
end

section
set_option Elab.async false
set_option maxRecDepth 100000
set_option maxHeartbeats 1000000
set_option linter.unusedVariables false
namespace Mine
open PySem PySem.W PyProof.Rows PySem.NumText

noncomputable def S : Nat → List Cl → List Bool
  | 0, rows => [decide ([] ∉ rows)]
  | k + 1, rows => S k (cut (3 - k) 0 rows) ++ S k (cut (3 - k) 1 rows)
theorem S_length : ∀ (k : Nat) (rows : List Cl), (S k rows).length = 2 ^ k
  | 0, _ => rfl
  | k + 1, rows => by rw [S, List.length_append, S_length k, S_length k, Nat.pow_succ, Nat.mul_two]
theorem rep_add {α : Type} {a b : Nat} {x : α} : List.replicate (a + b) x = List.replicate a x ++ List.replicate b x := List.replicate_append_replicate.symm
theorem cut_nil {j s : Nat} {rows : List Cl} (h : [] ∈ rows) : [] ∈ cut j s rows := List.mem_map.mpr ⟨[], List.mem_filter.mpr ⟨h, rfl⟩, rfl⟩
theorem S_none : ∀ (k : Nat) {rows : List Cl}, [] ∈ rows → S k rows = List.replicate (2 ^ k) false
  | 0, rows, h => by rw [S, decide_eq_false (by simpa using h)]; rfl
  | k + 1, rows, h => by rw [S, S_none k (cut_nil h), S_none k (cut_nil h), ← rep_add, Nat.pow_succ, Nat.mul_two]
theorem S_all : ∀ (k : Nat), S k [] = List.replicate (2 ^ k) true
  | 0 => rfl
  | k + 1 => by
    have e : ∀ j s, cut j s [] = [] := fun _ _ => rfl
    rw [S, e, e, S_all k, ← rep_add, Nat.pow_succ, Nat.mul_two]
noncomputable def evR (a : Nat → Nat) (rows : List Cl) : Bool := rows.all fun c => c.any fun l => a l.1 == l.2
theorem ev_cut (a : Nat → Nat) (j : Nat) : ∀ rows : List Cl, evR a (cut j (a j) rows) = evR a rows
  | [] => rfl
  | c :: rows => by
    have ih := ev_cut a j rows
    unfold evR at ih ⊢
    rw [cut_cons, List.all_cons]
    by_cases hc : c.contains (j, a j) = true
    · have : (c.any fun l => a l.1 == l.2) = true := List.any_eq_true.mpr ⟨(j, a j), by simpa using hc, by simp⟩
      rw [if_pos hc, this, Bool.true_and, ih]
    · rw [if_neg hc, List.all_cons, ih]
      congr 1
      unfold cutC
      rw [List.any_filter]
      rw [Bool.eq_iff_iff, List.any_eq_true, List.any_eq_true]
      constructor
      · rintro ⟨l, h1, h2⟩
        exact ⟨l, h1, (Bool.and_eq_true_iff.mp h2).2⟩
      · rintro ⟨l, h1, h2⟩
        refine ⟨l, h1, Bool.and_eq_true_iff.mpr ⟨?_, h2⟩⟩
        rw [bne_iff_ne]
        intro e
        apply hc
        have h2 : a l.1 = l.2 := by simpa using h2
        have : l = (j, a j) := Prod.ext e (by rw [← h2, e])
        rw [← this]
        simpa using h1
theorem ev_end (a : Nat → Nat) {rows : List Cl} (h : RowsIn 4 rows) : evR a rows = decide ([] ∉ rows) := by
  have hnil : ∀ c ∈ rows, c = [] := fun c hc => by
    cases c with
    | nil => rfl
    | cons l c =>
      obtain ⟨h1, h2, _⟩ := (h.ok _ hc).2 l (List.mem_cons_self ..)
      lia
  cases rows with
  | nil => rfl
  | cons c rows =>
    rw [hnil c (List.mem_cons_self ..)]
    rw [decide_eq_false (by simp)]; rfl
theorem told_S {ws : List Cl} (h : RowsIn 0 ws) : toldB ws = S 4 ws := by
  have key : ∀ way, metB ws way = decide ([] ∉ cut 3 (bitW way 3) (cut 2 (bitW way 2) (cut 1 (bitW way 1) (cut 0 (bitW way 0) ws)))) := fun way => by
    have h4 : RowsIn 4 (cut 3 (bitW way 3) (cut 2 (bitW way 2) (cut 1 (bitW way 1) (cut 0 (bitW way 0) ws)))) := h.cut.cut.cut.cut
    rw [← ev_end (bitW way) h4, ev_cut (bitW way) 3, ev_cut (bitW way) 2, ev_cut (bitW way) 1, ev_cut (bitW way) 0]; rfl
  unfold toldB
  rw [List.map_congr_left fun way _ => key way]
  rfl
theorem told_perm {ws us : List Cl} (h : ws.Perm us) : toldB ws = toldB us := by
  unfold toldB
  refine List.map_congr_left fun way _ => ?_
  unfold metB
  rw [Bool.eq_iff_iff, List.all_eq_true, List.all_eq_true]
  exact ⟨fun q c hc => q c (h.mem_iff.mpr hc), fun q c hc => q c (h.mem_iff.mp hc)⟩
noncomputable def red : Nat → List Bool → Kn
  | 0, bs => (4, bs)
  | k + 1, bs => if bs.take (2 ^ k) = bs.drop (2 ^ k) then red k (bs.take (2 ^ k)) else (3 - k, bs)
theorem red_pair {k : Nat} {A B : List Bool} (hA : A.length = 2 ^ k) : red (k + 1) (A ++ B) = if A = B then red k A else (3 - k, A ++ B) := by
  rw [red, List.take_left' hA, List.drop_left' hA]
theorem red_facts : ∀ (k : Nat) (bs : List Bool), k ≤ 4 → bs.length = 2 ^ k → 4 - k ≤ (red k bs).1 ∧ (red k bs).1 ≤ 4 ∧ (red k bs).2.length ≤ 2 ^ k ∧ ((red k bs).1 < 4 → 0 < k)
  | 0, bs, _, h => ⟨Nat.le_refl _, Nat.le_refl _, Nat.le_of_eq h, fun h => absurd h (Nat.lt_irrefl 4)⟩
  | k + 1, bs, hk, h => by
    rw [red]
    split
    · obtain ⟨h1, h2, h3, h4⟩ := red_facts k (bs.take (2 ^ k)) (by (exact Nat.le_of_succ_le hk)) (by rw [List.length_take, h, Nat.pow_succ]; (first | exact Nat.min_eq_left (Nat.le_mul_of_pos_right _ (Nat.succ_pos 1)) | lia))
      exact ⟨by (first | exact Nat.le_trans (Nat.pred_le _) h1 | lia), h2, Nat.le_trans h3 (by rw [Nat.pow_succ]; (exact Nat.le_add_left _ _)), fun _ => Nat.succ_pos _⟩
    · exact ⟨by show 4 - (k + 1) ≤ 3 - k; (first | exact Nat.le_of_eq (Nat.succ_sub_succ_eq_sub 3 _) | lia), by show 3 - k ≤ 4; (first | exact Nat.le_succ_of_le (Nat.sub_le 3 _) | omega), Nat.le_of_eq h, fun _ => Nat.succ_pos _⟩
theorem repL_two {α : Type} (m : Nat) (xs : List α) : repL (2 * m) xs = repL m xs ++ repL m xs := by
  unfold repL
  rw [Nat.two_mul, rep_add, List.flatten_append]
theorem ex_up {j : Nat} {p : Kn} (h : j + 1 ≤ p.1) : ex j p = ex (j + 1) p ++ ex (j + 1) p := by
  unfold ex
  have : p.1 - j = (p.1 - (j + 1)) + 1 := by (first | exact zSub h | lia)
  rw [this, Nat.pow_succ, Nat.mul_comm, repL_two]
theorem ex_red : ∀ (k : Nat) (bs : List Bool), k ≤ 4 → bs.length = 2 ^ k → ex (4 - k) (red k bs) = bs
  | 0, bs, _, _ => by
    show repL 1 bs = bs
    exact List.append_nil bs
  | k + 1, bs, hk, h => by
    have hl : (bs.take (2 ^ k)).length = 2 ^ k := by rw [List.length_take, h, Nat.pow_succ]; (first | exact Nat.min_eq_left (Nat.le_mul_of_pos_right _ (Nat.succ_pos 1)) | lia)
    rw [red]
    split
    · rename_i e
      have ih := ex_red k (bs.take (2 ^ k)) (by (exact Nat.le_of_succ_le hk)) hl
      have hf := (red_facts k (bs.take (2 ^ k)) (by (first | exact Nat.le_of_succ_le hk | lia)) hl).1
      have h1 : 4 - k = 4 - (k + 1) + 1 := by (first | exact zSub hk | lia)
      rw [h1] at ih hf
      rw [ex_up hf, ih]
      conv => lhs; rhs; rw [e]
      exact List.take_append_drop ..
    · show repL (2 ^ ((3 - k) - (4 - (k + 1)))) bs = bs
      have : 3 - k - (4 - (k + 1)) = 0 := by (first | exact Nat.sub_eq_zero_of_le (Nat.le_of_eq (Nat.succ_sub_succ_eq_sub 3 _).symm) | lia)
      rw [this]
      exact List.append_nil bs
theorem red_inj {k : Nat} {A B : List Bool} (hk : k ≤ 4) (hA : A.length = 2 ^ k) (hB : B.length = 2 ^ k) (h : red k A = red k B) : A = B := by
  rw [← ex_red k A hk hA, h, ex_red k B hk hB]
theorem red_rep (b : Bool) : ∀ k, red k (List.replicate (2 ^ k) b) = (4, [b])
  | 0 => rfl
  | k + 1 => by
    rw [Nat.pow_succ, Nat.mul_two, rep_add, red_pair List.length_replicate, if_pos rfl, red_rep b k]
noncomputable def subs : Nat → List Bool → List Kn
  | 0, _ => []
  | k + 1, bs => (if bs.take (2 ^ k) = bs.drop (2 ^ k) then [] else [(3 - k, bs)]) ++ (subs k (bs.take (2 ^ k)) ++ subs k (bs.drop (2 ^ k)))
theorem subs_pair {k : Nat} {A B : List Bool} (hA : A.length = 2 ^ k) : subs (k + 1) (A ++ B) = (if A = B then [] else [(3 - k, A ++ B)]) ++ (subs k A ++ subs k B) := by
  rw [subs, List.take_left' hA, List.drop_left' hA]
theorem subs_rep (b : Bool) : ∀ k, subs k (List.replicate (2 ^ k) b) = []
  | 0 => rfl
  | k + 1 => by
    rw [Nat.pow_succ, Nat.mul_two, rep_add, subs_pair List.length_replicate, if_pos rfl, subs_rep b k]; rfl
end Mine
end

section
set_option Elab.async false
set_option maxRecDepth 100000
set_option maxHeartbeats 1000000
set_option linter.unusedVariables false
namespace Mine
open PySem PySem.W PyProof.Rows PySem.NumText

structure Inv (es : List Tri) : Prop where
  ent : ∀ i t, es[i]? = some t → t.1 < 4 ∧ EndOk i t.2.1 ∧ EndOk i t.2.2 ∧ ∃ A B : List Bool, A.length = 2 ^ (3 - t.1) ∧ B.length = 2 ^ (3 - t.1) ∧ A ≠ B ∧
    getK (knL es) t.2.1 = red (3 - t.1) A ∧ getK (knL es) t.2.2 = red (3 - t.1) B ∧ (knL es)[i]? = some (t.1, A ++ B)
  nodup : (knL es).Nodup
theorem inv_nil : Inv [] := ⟨fun i t h => by simp at h, List.nodup_nil⟩
theorem EndOk.le {i j e : Nat} (h : EndOk i e) (hij : i ≤ j) : EndOk j e := by
  rcases h with h | h | ⟨h1, h2⟩
  · exact .inl h
  · exact .inr (.inl h)
  · exact .inr (.inr ⟨h1, by (first | exact Nat.lt_of_lt_of_le h2 (Nat.add_le_add_left hij 8) | lia)⟩)
theorem getK_more {kn more : List Kn} {e : Nat} (h : EndOk kn.length e) : getK (kn ++ more) e = getK kn e := by
  unfold getK
  split
  · rfl
  · split
    · rfl
    · rename_i h0 h1
      rcases h with h | h | ⟨h2, h3⟩
      · exact absurd h h0
      · exact absurd h h1
      · rw [List.getD_eq_getElem?_getD, List.getD_eq_getElem?_getD, List.getElem?_append_left (by (first | exact Nat.sub_lt_left_of_lt_add h2 h3 | omega))]
theorem knL_more (es : List Tri) : ∀ more : List Tri, ∃ ks, knL (es ++ more) = knL es ++ ks := fun more => by
  have h : ∀ (more : List Tri) (kn : List Kn), ∃ ks, more.foldl knStep kn = kn ++ ks := fun more => by
    induction more with
    | nil => exact fun kn => ⟨[], (List.append_nil _).symm⟩
    | cons t more ih =>
      intro kn
      obtain ⟨ks, e⟩ := ih (knStep kn t)
      rw [List.foldl_cons, e]
      unfold knStep
      exact ⟨_, List.append_assoc ..⟩
  obtain ⟨ks, e⟩ := h more (knL es)
  exact ⟨ks, by unfold knL at e ⊢; rw [List.foldl_append]; exact e⟩
theorem getK_es {es more : List Tri} {e : Nat} (h : EndOk es.length e) : getK (knL (es ++ more)) e = getK (knL es) e := by
  obtain ⟨ks, q⟩ := knL_more es more
  rw [q]
  exact getK_more (by rw [knL_length]; exact h)
theorem Inv.lv {es : List Tri} (I : Inv es) {i : Nat} {p : Kn} (h : (knL es)[i]? = some p) : p.1 < 4 := by
  have hl : i < es.length := by rw [← knL_length]; exact (List.getElem?_eq_some_iff.mp h).1
  obtain ⟨h1, _, _, A, B, _, _, _, _, _, h7⟩ := I.ent i _ (List.getElem?_eq_getElem hl)
  rw [h] at h7
  rw [Option.some.inj h7]; exact h1
theorem Inv.inj {es : List Tri} (I : Inv es) {e e' : Nat} (h : EndOk es.length e) (h' : EndOk es.length e') (q : getK (knL es) e = getK (knL es) e') : e = e' := by
  have at_ : ∀ e, 8 ≤ e → e < 8 + es.length → ∃ p, (knL es)[e - 8]? = some p ∧ getK (knL es) e = p := fun e h1 h2 => by
    have hl : e - 8 < (knL es).length := by rw [knL_length]; (first | exact Nat.sub_lt_left_of_lt_add h1 h2 | omega)
    refine ⟨_, List.getElem?_eq_getElem hl, ?_⟩
    unfold getK
    rw [if_neg (by (first | exact Nat.ne_zero_of_lt h1 | lia)), if_neg (by (first | exact zNe h1 rfl | lia)), List.getD_eq_getElem?_getD, List.getElem?_eq_getElem hl]; rfl
  have g0 : getK (knL es) 0 = (4, [false]) := rfl
  have g1 : getK (knL es) 1 = (4, [true]) := rfl
  have far : ∀ e, 8 ≤ e → e < 8 + es.length → (getK (knL es) e).1 < 4 := fun e h1 h2 => by
    obtain ⟨p, q1, q2⟩ := at_ e h1 h2
    rw [q2]; exact I.lv q1
  rcases h with rfl | rfl | ⟨h1, h2⟩ <;> rcases h' with rfl | rfl | ⟨h3, h4⟩
  · rfl
  · rw [g0, g1] at q; cases q
  · have := far e' h3 h4; rw [← q, g0] at this; exact absurd this (Nat.lt_irrefl 4)
  · rw [g0, g1] at q; cases q
  · rfl
  · have := far e' h3 h4; rw [← q, g1] at this; exact absurd this (Nat.lt_irrefl 4)
  · have := far e h1 h2; rw [q, g0] at this; exact absurd this (Nat.lt_irrefl 4)
  · have := far e h1 h2; rw [q, g1] at this; exact absurd this (Nat.lt_irrefl 4)
  · obtain ⟨p, a1, a2⟩ := at_ e h1 h2
    obtain ⟨p', b1, b2⟩ := at_ e' h3 h4
    have hp : p = p' := by rw [← a2, ← b2, q]
    subst hp
    have := (List.getElem?_inj (List.getElem?_eq_some_iff.mp a1).1 I.nodup).mp (a1.trans b1.symm)
    (first | exact (Nat.sub_add_cancel h1).symm.trans ((congrArg (· + 8) this).trans (Nat.sub_add_cancel h3)) | omega)
theorem append_inj_len {A B A' B' : List Bool} (h : A ++ B = A' ++ B') (hl : A.length = A'.length) : A = A' ∧ B = B' := List.append_inj h hl
theorem Inv.snoc {es : List Tri} (I : Inv es) {j a b : Nat} {A B : List Bool} (hj : j < 4) (ha : EndOk es.length a) (hb : EndOk es.length b) (hA : A.length = 2 ^ (3 - j)) (hB : B.length = 2 ^ (3 - j)) (hne : A ≠ B)
    (ra : getK (knL es) a = red (3 - j) A) (rb : getK (knL es) b = red (3 - j) B) (hn : (j, a, b) ∉ es) : Inv (es ++ [(j, a, b)]) ∧ knL (es ++ [(j, a, b)]) = knL es ++ [(j, A ++ B)] := by
  have h4 : 4 - (3 - j) = j + 1 := by (first | exact (Nat.succ_sub (Nat.sub_le 3 _)).trans (congrArg Nat.succ (Nat.sub_sub_self (Nat.le_of_lt_succ hj))) | omega)
  have hk : knL (es ++ [(j, a, b)]) = knL es ++ [(j, A ++ B)] := by
    rw [knL_snoc]
    unfold knStep
    dsimp only
    rw [ra, rb, ← h4, ex_red _ _ (by (first | exact Nat.le_succ_of_le (Nat.sub_le 3 _) | lia)) hA, ex_red _ _ (by (first | exact Nat.le_succ_of_le (Nat.sub_le 3 _) | lia)) hB]
  refine ⟨⟨fun i t ht => ?_, ?_⟩, hk⟩
  · rw [hk]
    have kl := knL_length es
    by_cases hi : i < es.length
    · rw [List.getElem?_append_left hi] at ht
      obtain ⟨h1, h2, h3, A', B', h5, h6, h7, h8, h9, h10⟩ := I.ent i t ht
      refine ⟨h1, h2, h3, A', B', h5, h6, h7, ?_, ?_, ?_⟩
      · rw [getK_more (by rw [kl]; exact h2.le (Nat.le_of_lt hi))]; exact h8
      · rw [getK_more (by rw [kl]; exact h3.le (Nat.le_of_lt hi))]; exact h9
      · rw [List.getElem?_append_left (by rw [kl]; exact hi)]; exact h10
    · have hi2 : i = es.length := by
        have := (List.getElem?_eq_some_iff.mp ht).1
        rw [List.length_append, List.length_singleton] at this
        (first | exact Nat.eq_of_lt_succ_of_not_lt this hi | lia)
      subst hi2
      rw [List.getElem?_append_right (Nat.le_refl _), Nat.sub_self] at ht
      obtain rfl := Option.some.inj ht
      refine ⟨hj, ha, hb, A, B, hA, hB, hne, ?_, ?_, ?_⟩
      · rw [getK_more (by rw [kl]; exact ha)]; exact ra
      · rw [getK_more (by rw [kl]; exact hb)]; exact rb
      · rw [← kl, List.getElem?_append_right (Nat.le_refl _), Nat.sub_self]; rfl
  · rw [hk]
    refine List.nodup_append.mpr ⟨I.nodup, List.nodup_cons.mpr ⟨List.not_mem_nil, List.nodup_nil⟩, fun x hx y hy q => ?_⟩
    rw [List.mem_singleton.mp hy] at q
    subst q
    obtain ⟨i, hi⟩ := List.mem_iff_getElem?.mp hx
    have hl : i < es.length := by rw [← knL_length]; exact (List.getElem?_eq_some_iff.mp hi).1
    obtain ⟨h1, h2, h3, A', B', h5, h6, h7, h8, h9, h10⟩ := I.ent i _ (List.getElem?_eq_getElem hl)
    rw [hi] at h10
    have e := Option.some.inj h10
    have ej : j = (es[i]).1 := congrArg Prod.fst e
    obtain ⟨eA, eB⟩ := append_inj_len (congrArg Prod.snd e) (by rw [hA, h5, ej])
    apply hn
    have e1 := I.inj ha (h2.le (Nat.le_of_lt hl)) (by rw [ra, h8, eA, ej])
    have e2 := I.inj hb (h3.le (Nat.le_of_lt hl)) (by rw [rb, h9, eB, ej])
    have : (j, a, b) = es[i] := Prod.ext ej (Prod.ext e1 e2)
    rw [this]; exact List.getElem_mem _
structure NodeP (k : Nat) (rows : List Cl) (es : List Tri) (r : Nat × List Tri) : Prop where
  inv : Inv r.2
  more : ∃ more, r.2 = es ++ more
  endOk : EndOk r.2.length r.1
  val : getK (knL r.2) r.1 = red k (S k rows)
  set : ∀ x, x ∈ knL r.2 ↔ x ∈ knL es ∨ x ∈ subs k (S k rows)
theorem node_tells : ∀ (k : Nat), k ≤ 4 → ∀ (rows : List Cl) (es : List Tri), RowsIn (4 - k) rows → Inv es → NodeP k rows es (nodeP k rows es) := fun k => by
  induction k with
  | zero =>
    intro _ rows es hR I
    by_cases h0 : [] ∈ rows
    · rw [node_zero es h0]
      exact ⟨I, ⟨[], (List.append_nil _).symm⟩, .inl rfl, by rw [S_none 0 h0]; rfl, fun x => ⟨.inl, fun h => h.elim id fun h => (nomatch h)⟩⟩
    · by_cases h1 : rows = []
      · subst h1
        rw [node_one]
        exact ⟨I, ⟨[], (List.append_nil _).symm⟩, .inr (.inl rfl), rfl, fun x => ⟨.inl, fun h => h.elim id fun h => (nomatch h)⟩⟩
      · obtain ⟨c0, hc0⟩ := List.exists_mem_of_ne_nil _ h1
        obtain ⟨l0, hl0⟩ := List.exists_mem_of_ne_nil c0 fun e => h0 (e ▸ hc0)
        obtain ⟨b1, b2, _⟩ := (hR.ok c0 hc0).2 l0 hl0
        exact absurd (Nat.lt_of_le_of_lt b1 b2) (Nat.lt_irrefl 4)
  | succ k ih =>
    intro hk rows es hR I
    by_cases h0 : [] ∈ rows
    · rw [node_zero es h0]
      exact ⟨I, ⟨[], (List.append_nil _).symm⟩, .inl rfl, by rw [S_none _ h0, red_rep]; rfl, fun x => ⟨.inl, fun h => h.elim id fun h => by rw [S_none _ h0, subs_rep] at h; cases h⟩⟩
    · by_cases h1 : rows = []
      · subst h1
        rw [node_one]
        exact ⟨I, ⟨[], (List.append_nil _).symm⟩, .inr (.inl rfl), by rw [S_all, red_rep]; rfl, fun x => ⟨.inl, fun h => h.elim id fun h => by rw [S_all, subs_rep] at h; cases h⟩⟩
      · rw [node_succ es h0 h1]
        have hj : 4 - (k + 1) = 3 - k := by (first | exact Nat.succ_sub_succ_eq_sub 3 _ | lia)
        have hj1 : 3 - k + 1 = 4 - k := by (first | exact (Nat.succ_sub (Nat.le_of_succ_le_succ hk)).symm | lia)
        have hj3 : 3 - (3 - k) = k := by (first | exact Nat.sub_sub_self (Nat.le_of_succ_le_succ hk) | omega)
        rw [hj] at hR
        have N0 := ih (by (exact Nat.le_of_succ_le hk)) (cut (3 - k) 0 rows) es (hj1 ▸ hR.cut) I
        have N1 := ih (by (exact Nat.le_of_succ_le hk)) (cut (3 - k) 1 rows) _ (hj1 ▸ hR.cut) N0.inv
        have lA := S_length k (cut (3 - k) 0 rows)
        have lB := S_length k (cut (3 - k) 1 rows)
        obtain ⟨I0, ⟨m0, e0⟩, o0, v0, s0⟩ := N0
        obtain ⟨I1, ⟨m1, e1⟩, o1, v1, s1⟩ := N1
        show NodeP _ _ _ _
        have hS : S (k + 1) rows = S k (cut (3 - k) 0 rows) ++ S k (cut (3 - k) 1 rows) := rfl
        rw [← getK_es (more := m1) o0, ← e1] at v0
        have o0' : EndOk (nodeP k (cut (3 - k) 1 rows) (nodeP k (cut (3 - k) 0 rows) es).2).2.length (nodeP k (cut (3 - k) 0 rows) es).1 := o0.le (by rw [e1, List.length_append]; exact Nat.le_add_right _ _)
        have s1' : ∀ x, x ∈ knL (nodeP k (cut (3 - k) 1 rows) (nodeP k (cut (3 - k) 0 rows) es).2).2 ↔ x ∈ knL es ∨ x ∈ subs k (S k (cut (3 - k) 0 rows)) ∨ x ∈ subs k (S k (cut (3 - k) 1 rows)) := fun x => by rw [s1, s0, or_assoc]
        have mo : ∃ more, (nodeP k (cut (3 - k) 1 rows) (nodeP k (cut (3 - k) 0 rows) es).2).2 = es ++ more := ⟨m0 ++ m1, by rw [e1, e0, List.append_assoc]⟩
        clear s0 s1 o0 e0 e1 I0
        generalize (nodeP k (cut (3 - k) 0 rows) es).1 = a at v0 o0' ⊢
        generalize nodeP k (cut (3 - k) 1 rows) (nodeP k (cut (3 - k) 0 rows) es).2 = r at I1 o1 v1 v0 o0' s1' mo ⊢
        obtain ⟨b, es2⟩ := r
        dsimp only at I1 o1 v1 v0 o0' s1' mo ⊢
        generalize S k (cut (3 - k) 0 rows) = A at lA hS v0 s1'
        generalize S k (cut (3 - k) 1 rows) = B at lB hS v1 s1'
        unfold joinP
        by_cases hab : a = b
        · subst hab
          have hAB : A = B := red_inj (by (first | exact Nat.le_of_succ_le hk | lia)) lA lB (v0.symm.trans v1)
          subst hAB
          rw [if_pos rfl]
          refine ⟨I1, mo, o1, ?_, fun x => ?_⟩
          · rw [hS, red_pair lA, if_pos rfl]; exact v0
          · rw [s1', hS, subs_pair lA, if_pos rfl, List.nil_append, List.mem_append]
        · have hAB : A ≠ B := fun e => hab (I1.inj o0' o1 (by rw [v0, v1, e]))
          rw [if_neg hab]
          have hred : red (k + 1) (S (k + 1) rows) = (3 - k, A ++ B) := by rw [hS, red_pair lA, if_neg hAB]
          have hsub : ∀ x, x ∈ subs (k + 1) (S (k + 1) rows) ↔ x = (3 - k, A ++ B) ∨ x ∈ subs k A ∨ x ∈ subs k B := fun x => by
            rw [hS, subs_pair lA, if_neg hAB, List.mem_append, List.mem_singleton, List.mem_append]
          by_cases hm : (3 - k, a, b) ∈ es2
          · rw [if_pos hm]
            have hil : es2.idxOf (3 - k, a, b) < es2.length := List.idxOf_lt_length_of_mem hm
            have hig : es2[es2.idxOf (3 - k, a, b)]? = some (3 - k, a, b) := by rw [List.getElem?_eq_getElem hil]; exact congrArg some (List.getElem_idxOf hil)
            obtain ⟨q1, q2, q3, A', B', q5, q6, q7, q8, q9, q10⟩ := I1.ent _ _ hig
            dsimp only at q5 q6 q8 q9 q10
            rw [hj3] at q5 q6 q8 q9
            have eA : A' = A := red_inj (by (first | exact Nat.le_of_succ_le hk | lia)) q5 lA (by rw [← q8, v0])
            have eB : B' = B := red_inj (by (first | exact Nat.le_of_succ_le hk | lia)) q6 lB (by rw [← q9, v1])
            subst eA; subst eB
            have hin : ((3 - k, A' ++ B') : Kn) ∈ knL es2 := List.mem_of_getElem? q10
            refine ⟨I1, mo, .inr (.inr ⟨Nat.le_add_right 8 _, Nat.add_lt_add_left hil 8⟩), ?_, fun x => ?_⟩
            · rw [hred]
              show getK (knL es2) (8 + _) = _
              unfold getK
              rw [if_neg (by (first | exact zNe (Nat.le_add_right 8 _) rfl | lia)), if_neg (by (first | exact zNe (Nat.le_add_right 8 _) rfl | lia)), Nat.add_sub_cancel_left, List.getD_eq_getElem?_getD, q10]; rfl
            · rw [hsub]
              constructor
              · intro h
                rcases (s1' x).mp h with h | h | h
                · exact .inl h
                · exact .inr (.inr (.inl h))
                · exact .inr (.inr (.inr h))
              · rintro (h | h | h | h)
                · exact (s1' x).mpr (.inl h)
                · rw [h]; exact hin
                · exact (s1' x).mpr (.inr (.inl h))
                · exact (s1' x).mpr (.inr (.inr h))
          · rw [if_neg hm]
            obtain ⟨I2, hk2⟩ := I1.snoc (j := 3 - k) (by (first | exact Nat.sub_lt_succ 3 _ | lia)) o0' o1 (by rw [hj3]; exact lA) (by rw [hj3]; exact lB) hAB (by rw [hj3]; exact v0) (by rw [hj3]; exact v1) hm
            obtain ⟨more, rfl⟩ := mo
            refine ⟨I2, ⟨more ++ [(3 - k, a, b)], List.append_assoc ..⟩, .inr (.inr ⟨Nat.le_add_right 8 _, by show 8 + _ < 8 + _; rw [List.length_append (bs := [(3 - k, a, b)])]; exact Nat.lt_succ_self _⟩), ?_, fun x => ?_⟩
            · rw [hred]
              show getK (knL _) (8 + _) = _
              rw [hk2]
              unfold getK
              rw [if_neg (by (first | exact zNe (Nat.le_add_right 8 _) rfl | lia)), if_neg (by (first | exact zNe (Nat.le_add_right 8 _) rfl | lia)), Nat.add_sub_cancel_left, List.getD_eq_getElem?_getD, ← knL_length, List.getElem?_append_right (Nat.le_refl _), Nat.sub_self]; rfl
            · show x ∈ knL _ ↔ _
              rw [hk2, hsub, List.mem_append, List.mem_singleton, s1']
              constructor
              · rintro ((h | h | h) | h)
                · exact .inl h
                · exact .inr (.inr (.inl h))
                · exact .inr (.inr (.inr h))
                · exact .inr (.inl h)
              · rintro (h | h | h | h)
                · exact .inl (.inl h)
                · exact .inr h
                · exact .inl (.inr (.inl h))
                · exact .inl (.inr (.inr h))
end Mine
end

section
set_option Elab.async false
set_option maxRecDepth 100000
set_option maxHeartbeats 1000000
set_option linter.unusedVariables false
namespace Mine
open PySem PySem.W PyProof.Rows PySem.NumText

theorem mem_subs {x : Kn} : ∀ (k : Nat) {bs : List Bool}, k ≤ 4 → bs.length = 2 ^ k → (x ∈ subs k bs ↔ (∃ j < k, ∃ i < 2 ^ j, x = (4 - k + j, (bs.drop (i * 2 ^ (k - j))).take (2 ^ (k - j)))) ∧ unlike x.2 = true)
  | 0, bs, _, _ => ⟨fun h => (nomatch h), fun ⟨⟨j, hj, _⟩, _⟩ => absurd hj (Nat.not_lt_zero j)⟩
  | k + 1, bs, hk, h => by
    have hp : 2 ^ (k + 1) = 2 ^ k + 2 ^ k := by rw [Nat.pow_succ, Nat.mul_two]
    have hpos : 0 < 2 ^ k := Nat.two_pow_pos k
    have hA : (bs.take (2 ^ k)).length = 2 ^ k := by rw [List.length_take, h, hp]; (first | exact Nat.min_eq_left (Nat.le_add_left _ _) | lia)
    have hB : (bs.drop (2 ^ k)).length = 2 ^ k := by rw [List.length_drop, h, hp]; (first | exact Nat.add_sub_self_left _ _ | lia)
    have hun : unlike bs = true ↔ bs.take (2 ^ k) ≠ bs.drop (2 ^ k) := by
      unfold unlike
      have : bs.length / 2 = 2 ^ k := by rw [h, hp]; (first | exact (congrArg (· / 2) (Nat.mul_two _).symm).trans (Nat.mul_div_cancel _ (Nat.succ_pos 1)) | lia)
      rw [this, bne_iff_ne]
    have e1 : ∀ j, 4 - (k + 1) + (j + 1) = 4 - k + j := fun j => by (first | exact zAs.symm.trans (congrArg (· + _) (zSub hk).symm) | lia)
    have e2 : ∀ j, k + 1 - (j + 1) = k - j := fun j => by (first | exact Nat.add_sub_add_right _ 1 _ | lia)
    have piece : ∀ j < k, ∀ i, i < 2 ^ j → i * 2 ^ (k - j) + 2 ^ (k - j) ≤ 2 ^ k := fun j hj i hi => by
      have h1 : (i + 1) * 2 ^ (k - j) ≤ 2 ^ j * 2 ^ (k - j) := Nat.mul_le_mul_right _ hi
      rw [← Nat.pow_add, show j + (k - j) = k by (first | exact Nat.add_sub_of_le (Nat.le_of_lt hj) | lia), Nat.add_mul, Nat.one_mul] at h1
      exact h1
    have full : ∀ j < k, 2 ^ j * 2 ^ (k - j) = 2 ^ k := fun j hj => by rw [← Nat.pow_add]; congr 1; (first | exact Nat.add_sub_of_le (Nat.le_of_lt hj) | lia)
    have inA : ∀ j < k, ∀ i < 2 ^ j, ((bs.take (2 ^ k)).drop (i * 2 ^ (k - j))).take (2 ^ (k - j)) = (bs.drop (i * 2 ^ (k - j))).take (2 ^ (k - j)) := fun j hj i hi => by
      have := piece j hj i hi
      rw [List.drop_take, List.take_take, Nat.min_eq_left (by (first | exact Nat.le_sub_of_add_le' this | omega))]
    have inB : ∀ j < k, ∀ i < 2 ^ j, ((bs.drop (2 ^ k)).drop (i * 2 ^ (k - j))).take (2 ^ (k - j)) = (bs.drop ((2 ^ j + i) * 2 ^ (k - j))).take (2 ^ (k - j)) := fun j hj i hi => by
      rw [List.drop_drop, Nat.add_mul, full j hj]
    rw [subs, List.mem_append, List.mem_append, mem_subs k (by (exact Nat.le_of_succ_le hk)) hA, mem_subs k (by (first | exact Nat.le_of_succ_le hk | lia)) hB]
    constructor
    · rintro (h1 | ⟨⟨j, hj, i, hi, rfl⟩, hu⟩ | ⟨⟨j, hj, i, hi, rfl⟩, hu⟩)
      · by_cases e : bs.take (2 ^ k) = bs.drop (2 ^ k)
        · rw [if_pos e] at h1; cases h1
        · rw [if_neg e, List.mem_singleton] at h1
          subst h1
          refine ⟨⟨0, Nat.succ_pos k, 0, Nat.zero_lt_one, ?_⟩, hun.mpr e⟩
          rw [Nat.zero_mul, List.drop_zero, Nat.sub_zero, List.take_of_length_le (Nat.le_of_eq h)]
          exact Prod.ext (by show 3 - k = 4 - (k + 1) + 0; (first | exact (Nat.succ_sub_succ_eq_sub 3 _).symm | lia)) rfl
      · refine ⟨⟨j + 1, Nat.succ_lt_succ hj, i, by rw [Nat.pow_succ]; (first | exact Nat.lt_of_lt_of_le hi (Nat.le_mul_of_pos_right _ (Nat.succ_pos 1)) | lia), ?_⟩, hu⟩
        rw [e1, e2, inA j hj i hi]
      · refine ⟨⟨j + 1, Nat.succ_lt_succ hj, 2 ^ j + i, by rw [Nat.pow_succ]; (first | exact Nat.lt_of_lt_of_eq (Nat.add_lt_add_left hi _) (Nat.mul_two _).symm | lia), ?_⟩, hu⟩
        rw [e1, e2, inB j hj i hi]
    · rintro ⟨⟨j, hj, i, hi, rfl⟩, hu⟩
      cases j with
      | zero =>
        have hi0 : i = 0 := by rw [Nat.pow_zero] at hi; (first | exact Nat.lt_one_iff.mp hi | lia)
        subst hi0
        dsimp only at hu
        rw [Nat.zero_mul, List.drop_zero, Nat.sub_zero, List.take_of_length_le (Nat.le_of_eq h)] at hu ⊢
        refine .inl ?_
        rw [if_neg (hun.mp hu), List.mem_singleton]
        exact Prod.ext (by show 4 - (k + 1) + 0 = 3 - k; (first | exact Nat.succ_sub_succ_eq_sub 3 _ | lia)) rfl
      | succ j =>
        have hj' : j < k := Nat.lt_of_succ_lt_succ hj
        dsimp only at hu
        rw [e2] at hu
        rw [e1, e2]
        by_cases hlt : i < 2 ^ j
        · exact .inr (.inl ⟨⟨j, hj', i, hlt, by rw [inA j hj' i hlt]⟩, hu⟩)
        · refine .inr (.inr ⟨⟨j, hj', i - 2 ^ j, by rw [Nat.pow_succ] at hi; omega, ?_⟩, hu⟩)
          rw [inB j hj' (i - 2 ^ j) (by rw [Nat.pow_succ] at hi; omega), show 2 ^ j + (i - 2 ^ j) = i by (first | exact Nat.add_sub_of_le (Nat.le_of_not_lt hlt) | omega)]
theorem mem_cand {x : Kn} {row : List Bool} : x ∈ candR row ↔ ∃ j < 4, ∃ i < 2 ^ j, x = (j, (row.drop (i * 2 ^ (4 - j))).take (2 ^ (4 - j))) := by
  have hz : ∀ j < 4, 16 / 2 ^ j = 2 ^ (4 - j) := by decide
  unfold candR
  rw [List.mem_flatMap]
  constructor
  · rintro ⟨j, hj, hx⟩
    have hj4 : j < 4 := by simpa [List.mem_range'_1] using hj
    obtain ⟨i, hi, rfl⟩ := List.mem_map.mp hx
    exact ⟨j, hj4, i, by simpa [List.mem_range'_1] using hi, by unfold stretch; rw [hz j hj4]⟩
  · rintro ⟨j, hj, i, hi, rfl⟩
    refine ⟨j, by simpa [List.mem_range'_1] using hj, List.mem_map.mpr ⟨i, by simpa [List.mem_range'_1] using hi, ?_⟩⟩
    unfold stretch
    rw [hz j hj]
theorem subs_cand {x : Kn} {row : List Bool} (h : row.length = 16) : x ∈ subs 4 row ↔ x ∈ candR row ∧ unlike x.2 = true := by
  rw [mem_subs 4 (Nat.le_refl 4) h, mem_cand]
  constructor
  · rintro ⟨⟨j, hj, i, hi, e⟩, hu⟩
    exact ⟨⟨j, hj, i, hi, by rw [e, Nat.sub_self, Nat.zero_add]⟩, hu⟩
  · rintro ⟨⟨j, hj, i, hi, e⟩, hu⟩
    exact ⟨⟨j, hj, i, hi, by rw [e, Nat.sub_self, Nat.zero_add]⟩, hu⟩
theorem fold_due (xs : List Kn) : ∀ due : List Kn, due.Nodup → (xs.foldl addD due).Nodup ∧ ∀ x, x ∈ xs.foldl addD due ↔ x ∈ due ∨ (x ∈ xs ∧ unlike x.2 = true) := by
  induction xs with
  | nil => exact fun due h => ⟨h, fun x => ⟨.inl, fun h => h.elim id fun h => (nomatch h.1)⟩⟩
  | cons p xs ih =>
    intro due h
    have hadd : (addD due p).Nodup ∧ ∀ x, x ∈ addD due p ↔ x ∈ due ∨ (x = p ∧ unlike p.2 = true) := by
      unfold addD
      cases hu : unlike p.2 with
      | false => exact ⟨h, fun x => ⟨.inl, fun q => q.elim id fun q => absurd q.2 Bool.false_ne_true⟩⟩
      | true =>
        cases hc : due.contains p with
        | true =>
          have hm : p ∈ due := by simpa using hc
          exact ⟨h, fun x => ⟨.inl, fun q => q.elim id fun q => q.1 ▸ hm⟩⟩
        | false =>
          have hm : p ∉ due := by simpa using hc
          rw [if_pos (by rfl)]
          refine ⟨List.nodup_append.mpr ⟨h, List.nodup_cons.mpr ⟨List.not_mem_nil, List.nodup_nil⟩, fun a ha b hb q => hm (by rw [← List.mem_singleton.mp hb, ← q]; exact ha)⟩, fun x => ?_⟩
          rw [List.mem_append, List.mem_singleton]
          exact ⟨fun q => q.imp id fun q => ⟨q, rfl⟩, fun q => q.imp id fun q => q.1⟩
    obtain ⟨i1, i2⟩ := ih _ hadd.1
    refine ⟨i1, fun x => ?_⟩
    rw [List.foldl_cons, i2, hadd.2, List.mem_cons]
    constructor
    · rintro ((q | ⟨rfl, q⟩) | ⟨q1, q2⟩)
      · exact .inl q
      · exact .inr ⟨.inl rfl, q⟩
      · exact .inr ⟨.inr q1, q2⟩
    · rintro (q | ⟨rfl | q1, q2⟩)
      · exact .inl (.inl q)
      · exact .inl (.inr ⟨rfl, q2⟩)
      · exact .inr ⟨q1, q2⟩
theorem law_q (cl : Nat → Cl) (kk : Nat → List T) (hcl : ∀ k, ClOk (cl k)) : LawQ cl kk := by
  have rowsIn : ∀ i, i ≤ 5 → RowsIn (4 - 4) ((shN kk i).map cl) := fun i hi => ⟨by rw [List.length_map, shN_length]; (exact Nat.le_trans hi (Nat.le_add_left _ _)), fun c hc => by
    obtain ⟨k, _, rfl⟩ := List.mem_map.mp hc
    exact ⟨(hcl k).few, fun l hl => ⟨Nat.zero_le _, (hcl k).ok l hl⟩⟩⟩
  have told : ∀ i, i ≤ 5 → S 4 ((shN kk i).map cl) = toldB ((List.range i).map cl) := fun i hi => by
    rw [← told_S (rowsIn i hi)]
    exact told_perm ((shN_perm kk i).map cl)
  have N1 : NodeP 4 _ _ (rN1 cl kk) := node_tells 4 (Nat.le_refl 4) ((shN kk 3).map cl) [] (rowsIn 3 (by decide)) inv_nil
  have N2 : NodeP 4 _ _ (rN2 cl kk) := node_tells 4 (Nat.le_refl 4) ((shN kk 5).map cl) _ (rowsIn 5 (by decide)) N1.inv
  obtain ⟨f1, f2, _⟩ := run_facts cl kk (i := 5) (Nat.le_refl 5)
  have hes : esN cl kk 5 = (rN2 cl kk).2 := rfl
  have hen : enN cl kk 5 = [(rN1 cl kk).1, (rN2 cl kk).1] := rfl
  rw [hes] at f2
  obtain ⟨I1, _, o1, v1, s1⟩ := N1
  obtain ⟨I2, ⟨more, e2⟩, o2, v2, s2⟩ := N2
  rw [told 3 (by decide)] at v1 s1
  rw [told 5 (by decide)] at v2 s2
  have v1' : getK (knL (rN2 cl kk).2) (rN1 cl kk).1 = red 4 (toldB ((List.range 3).map cl)) := by rw [e2, getK_es o1]; exact v1
  have o1' : EndOk (rN2 cl kk).2.length (rN1 cl kk).1 := o1.le (by rw [e2, List.length_append]; exact Nat.le_add_right _ _)
  have l3 := told_length ((List.range 3).map cl)
  have l5 := told_length ((List.range 5).map cl)
  refine ⟨?_, ?_, ?_, ?_⟩
  · rw [hes]
    refine ⟨by (exact Nat.le_trans f2 (Nat.le_add_left _ _)), fun t ht => ?_, fun i t ht e he => ?_⟩
    · obtain ⟨i, hi⟩ := List.mem_iff_getElem?.mp ht
      exact (I2.ent i t hi).1
    · obtain ⟨h1, h2, h3, A, B, h4, h5, _, h6, h7, _⟩ := I2.ent i t ht
      have hil := (List.getElem?_eq_some_iff.mp ht).1
      have htk : ∀ e, EndOk i e → getK (knL ((rN2 cl kk).2.take i)) e = getK (knL (rN2 cl kk).2) e := fun e he => by
        have := getK_es (es := (rN2 cl kk).2.take i) (more := (rN2 cl kk).2.drop i) (e := e) (by rw [List.length_take]; exact he.le (by (first | exact Nat.le_min.mpr ⟨Nat.le_refl _, Nat.le_of_lt hil⟩ | lia)))
        rw [List.take_append_drop] at this
        exact this.symm
      have fin : ∀ e (C : List Bool), EndOk i e → C.length = 2 ^ (3 - t.1) → getK (knL (rN2 cl kk).2) e = red (3 - t.1) C → EndOk i e ∧ t.1 < (getK (knL ((rN2 cl kk).2.take i)) e).1 ∧ (getK (knL ((rN2 cl kk).2.take i)) e).1 ≤ 4 ∧ (getK (knL ((rN2 cl kk).2.take i)) e).2.length ≤ 16 := fun e C he hC hr => by
        rw [htk e he, hr]
        obtain ⟨q1, q2, q3, _⟩ := red_facts (3 - t.1) C (by (first | exact Nat.le_succ_of_le (Nat.sub_le 3 _) | omega)) hC
        refine ⟨he, by (first | exact zEq ((Nat.succ_sub (Nat.sub_le 3 _)).trans (congrArg Nat.succ (Nat.sub_sub_self (Nat.le_of_lt_succ h1)))).symm q1 | lia), q2, Nat.le_trans q3 ?_⟩
        exact Nat.le_trans (Nat.pow_le_pow_right (by decide) (show 3 - t.1 ≤ 4 by (first | exact Nat.le_succ_of_le (Nat.sub_le 3 _) | omega))) (by decide)
      rcases he with rfl | rfl
      · exact fin _ A h2 h4 h6
      · exact fin _ B h3 h5 h7
  · rw [hes]
    obtain ⟨d1, d2⟩ := fold_due ([toldB ((List.range 3).map cl), toldB ((List.range 5).map cl)].flatMap candR) [] List.nodup_nil
    refine (List.perm_ext_iff_of_nodup I2.nodup d1).mpr fun x => ?_
    show _ ↔ x ∈ dueP _
    unfold dueP
    rw [s2, s1, d2, subs_cand l3, subs_cand l5, List.mem_flatMap]
    constructor
    · rintro ((h | ⟨h, hu⟩) | ⟨h, hu⟩)
      · cases h
      · exact .inr ⟨⟨_, List.mem_cons_self .., h⟩, hu⟩
      · exact .inr ⟨⟨_, List.mem_cons_of_mem _ (List.mem_cons_self ..), h⟩, hu⟩
    · rintro (h | ⟨⟨r, hr, h⟩, hu⟩)
      · cases h
      · rcases List.mem_cons.mp hr with rfl | hr
        · exact .inl (.inr ⟨h, hu⟩)
        · rw [List.mem_singleton.mp hr] at h
          exact .inr ⟨h, hu⟩
  · rw [hes, hen, List.map_cons, List.map_cons, v1', v2]
    have := ex_red 4 (toldB ((List.range 3).map cl)) (Nat.le_refl 4) l3
    have h5 := ex_red 4 (toldB ((List.range 5).map cl)) (Nat.le_refl 4) l5
    rw [Nat.sub_self] at this h5
    rw [this, h5]; rfl
  · rw [hes, hen]
    intro e he
    have fin : ∀ bs : List Bool, bs.length = 2 ^ 4 → getK (knL (rN2 cl kk).2) e = red 4 bs → (getK (knL (rN2 cl kk).2) e).1 ≤ 4 ∧ (getK (knL (rN2 cl kk).2) e).2.length ≤ 16 := fun bs hb hr => by
      rw [hr]
      obtain ⟨_, q2, q3, _⟩ := red_facts 4 bs (Nat.le_refl 4) hb
      exact ⟨q2, q3⟩
    rcases List.mem_cons.mp he with rfl | he
    · exact ⟨o1', fin _ l3 v1'⟩
    · obtain rfl := List.mem_singleton.mp he
      exact ⟨o2, fin _ l5 v2⟩
end Mine
end

section
set_option Elab.async false
set_option maxRecDepth 100000
set_option maxHeartbeats 1000000
set_option linter.unusedVariables false
namespace Mine
open PySem

noncomputable def isW (c : Nat) : Bool := !isDig c && !isSgn c
noncomputable def toStr (l : List Nat) : Str := ⟨l.toArray⟩
noncomputable def lexL : Nat → List Nat → List (List Nat)
  | 0, l => [l]
  | n + 1, l => match l.dropWhile isW with
    | [] => [l]
    | c :: r => if isDig c then l.takeWhile isW :: (c :: r).takeWhile isDig :: lexL n ((c :: r).dropWhile isDig) else l.takeWhile isW :: [c] :: lexL n r

theorem getD_drop {text : Array Nat} {p : Nat} : text.getD p 0 = (text.toList.drop p).headD 0 := by
  rw [Array.getD_eq_getD_getElem?, List.headD_eq_head?_getD, List.head?_drop, Array.getElem?_toList]
theorem digits_list {text : Array Nat} : ∀ (n p : Nat), (text.toList.drop p).length ≤ n → digits text n p = ((text.toList.drop p).takeWhile isDig).length
  | 0, p, h => by
    have : text.toList.drop p = [] := List.eq_nil_of_length_eq_zero (by (first | exact Nat.eq_zero_of_le_zero h | lia))
    rw [this]; rfl
  | n + 1, p, h => by
    unfold digits
    rw [getD_drop]
    cases e : text.toList.drop p with
    | nil => rfl
    | cons c r =>
      have e2 : text.toList.drop (p + 1) = r := by rw [← List.drop_drop, e]; rfl
      rw [e] at h
      rw [digits_list n (p + 1) (by rw [e2]; simp at h; omega), e2]
      show (if isDig c = true then _ else _) = _
      rw [List.takeWhile_cons]
      split <;> simp
theorem find_list {text : Array Nat} (hs : text.size ≤ 100000) : ∀ (n s : Nat), (text.toList.drop s).length < n → findFrom text text.size n s = match (text.toList.drop s).dropWhile isW with
    | [] => none
    | c :: r => some (s + ((text.toList.drop s).takeWhile isW).length, s + ((text.toList.drop s).takeWhile isW).length + if isDig c then ((c :: r).takeWhile isDig).length else 1)
  | 0, s, h => by lia
  | n + 1, s, h => by
    unfold findFrom
    have hl : (text.toList.drop s).length = text.size - s := by rw [List.length_drop, Array.length_toList]
    cases e : text.toList.drop s with
    | nil =>
      rw [e] at hl
      have : ¬ s < text.size := by simp at hl; (first | exact fun zz => Nat.not_le_of_lt zz (Nat.le_of_sub_eq_zero hl.symm) | lia)
      rw [if_neg this]; rfl
    | cons c r =>
      have hlt : s < text.size := by rw [e] at hl; simp at hl; (first | exact Nat.lt_of_sub_eq_succ hl.symm | omega)
      have e2 : text.toList.drop (s + 1) = r := by rw [← List.drop_drop, e]; rfl
      rw [if_pos hlt, getD_drop, e]
      show (if isDig c = true then _ else if isSgn c = true then _ else _) = _
      cases hd : isDig c with
      | true =>
        have hw : isW c = false := by unfold isW; rw [hd]; rfl
        rw [if_pos rfl, List.dropWhile_cons, List.takeWhile_cons, hw, digits_list _ _ (by rw [hl, Nat.min_eq_right (by (first | exact Nat.le_trans (Nat.sub_le _ _) (zLe hs rfl) | lia))]; exact Nat.le_refl _), e]
        simp [hd]
      | false =>
        rw [if_neg Bool.false_ne_true]
        cases hg : isSgn c with
        | true =>
          have hw : isW c = false := by unfold isW; rw [hd, hg]; rfl
          rw [if_pos rfl, List.dropWhile_cons, List.takeWhile_cons, hw]
          simp [hd]
        | false =>
          have hw : isW c = true := by unfold isW; rw [hd, hg]; rfl
          rw [if_neg Bool.false_ne_true, List.dropWhile_cons, List.takeWhile_cons, hw, find_list hs n (s + 1) (by rw [e2]; rw [e] at h; simp at h; omega), e2]
          simp only [if_true]
          cases r.dropWhile isW with
          | nil => rfl
          | cons c' r' => simp only [List.length_cons]; congr 2 <;> lia
theorem extract_list {text : Array Nat} {b e : Nat} : (⟨text.extract b e⟩ : Str) = toStr ((text.toList.drop b).take (e - b)) := by
  unfold toStr
  congr 1
  apply Array.toList_inj.mp
  rw [Array.toList_extract, List.extract_eq_take_drop]
theorem drop_takeWhile {p : Nat → Bool} {l : List Nat} {k : Nat} (hk : k = (l.takeWhile p).length) : l.take k = l.takeWhile p ∧ l.drop k = l.dropWhile p := by
  have h := List.takeWhile_append_dropWhile (p := p) (l := l)
  subst hk
  generalize l.takeWhile p = a at *
  generalize l.dropWhile p = b at *
  subst h
  exact ⟨List.take_left' rfl, List.drop_left' rfl⟩
theorem cuts_list {text : Array Nat} (hs : text.size ≤ 100000) : ∀ (n st : Nat), cuts text n st = (lexL n (text.toList.drop st)).map toStr
  | 0, st => by
    show [(⟨text.extract st text.size⟩ : Str)] = [toStr (text.toList.drop st)]
    rw [extract_list, List.take_of_length_le (by rw [List.length_drop, Array.length_toList]; (exact Nat.le_refl _))]
  | n + 1, st => by
    unfold cuts lexL
    rw [find_list hs _ st (by rw [List.length_drop, Array.length_toList]; (exact Nat.le_refl _))]
    have hwd := List.takeWhile_append_dropWhile (p := isW) (l := text.toList.drop st)
    cases hd : (text.toList.drop st).dropWhile isW with
    | nil =>
      dsimp only
      rw [extract_list, List.take_of_length_le (by rw [List.length_drop, Array.length_toList]; (exact Nat.le_refl _))]; rfl
    | cons c r =>
      dsimp only
      obtain ⟨t1, t2⟩ := drop_takeWhile (p := isW) (l := text.toList.drop st) rfl
      generalize hw : (text.toList.drop st).takeWhile isW = wd at *
      have e1 : (⟨text.extract st (st + wd.length)⟩ : Str) = toStr wd := by rw [extract_list, show st + wd.length - st = wd.length by (first | exact Nat.add_sub_self_left _ _ | lia), t1]
      have d1 : text.toList.drop (st + wd.length) = c :: r := by rw [← List.drop_drop, t2, hd]
      cases hc : isDig c with
      | true =>
        rw [if_pos rfl, if_pos rfl]
        obtain ⟨q1, q2⟩ := drop_takeWhile (p := isDig) (l := c :: r) rfl
        rw [e1, extract_list, d1, show st + wd.length + ((c :: r).takeWhile isDig).length - (st + wd.length) = ((c :: r).takeWhile isDig).length by (first | exact Nat.add_sub_self_left _ _ | lia), q1, cuts_list hs n, ← List.drop_drop, d1, q2]
        rfl
      | false =>
        rw [if_neg Bool.false_ne_true, if_neg Bool.false_ne_true]
        rw [e1, extract_list, d1, show st + wd.length + 1 - (st + wd.length) = 1 by (first | exact Nat.add_sub_self_left _ _ | lia), cuts_list hs n, ← List.drop_drop, d1]
        rfl
inductive Lex : List Nat → List T → Prop
  | nil : Lex [] []
  | sign {c r ts} : isSgn c = true → Lex r ts → Lex (c :: r) ts
  | word {w rest ts} : w ≠ [] → (∀ c ∈ w, isW c = true) → (∀ c r, rest = c :: r → isW c = false) → Lex rest ts → Lex (w ++ rest) (partT (toStr w) ++ ts)
  | dig {d rest ts} : d ≠ [] → (∀ c ∈ d, isDig c = true) → (∀ c r, rest = c :: r → isDig c = false) → Lex rest ts → Lex (d ++ rest) (partT (toStr d) ++ ts)
theorem part_nil : partT (toStr []) = [] := by decide +kernel
theorem part_sign {c : Nat} (h : isSgn c = true) : partT (toStr [c]) = [] := by
  unfold isSgn at h
  simp only [Bool.or_eq_true, beq_iff_eq] at h
  rcases h with ((rfl | rfl) | rfl) | rfl <;> decide +kernel
theorem takeWhile_all {p : Nat → Bool} {w rest : List Nat} (h1 : ∀ c ∈ w, p c = true) (h2 : ∀ c r, rest = c :: r → p c = false) : (w ++ rest).takeWhile p = w ∧ (w ++ rest).dropWhile p = rest := by
  induction w with
  | nil =>
    cases rest with
    | nil => exact ⟨rfl, rfl⟩
    | cons c r =>
      have := h2 c r rfl
      simp [this]
  | cons x w ih =>
    obtain ⟨a, b⟩ := ih fun c hc => h1 c (List.mem_cons_of_mem _ hc)
    have hx := h1 x (List.mem_cons_self ..)
    rw [List.cons_append, List.takeWhile_cons, List.dropWhile_cons, hx, a, b]
    exact ⟨rfl, rfl⟩
noncomputable abbrev P (n : Nat) (l : List Nat) : List T := (lexL n l).flatMap fun v => partT (toStr v)
theorem P_word {n : Nat} {w rest : List Nat} (h1 : ∀ c ∈ w, isW c = true) (h2 : ∀ c r, rest = c :: r → isW c = false) : P (n + 1) (w ++ rest) = partT (toStr w) ++ P (n + 1) rest := by
  obtain ⟨a, b⟩ := takeWhile_all h1 h2
  unfold P
  rw [lexL, lexL, a, b]
  cases rest with
  | nil =>
    simp only [List.append_nil, List.dropWhile_nil, List.flatMap_cons, List.flatMap_nil, List.append_nil]
    rw [part_nil, List.append_nil]
  | cons c r =>
    have hc := h2 c r rfl
    rw [List.dropWhile_cons, List.takeWhile_cons, hc]
    simp only [Bool.false_eq_true, if_false]
    split <;> simp only [List.flatMap_cons, part_nil, List.nil_append]
theorem lex_P {l : List Nat} {ts : List T} (h : Lex l ts) : ∀ n, l.length < n → P n l = ts := by
  induction h with
  | nil =>
    intro n hn
    cases n with
    | zero => lia
    | succ n => unfold P; rw [lexL]; simp only [List.dropWhile_nil, List.flatMap_cons, List.flatMap_nil, part_nil, List.append_nil]
  | @sign c r ts hc _ ih =>
    intro n hn
    cases n with
    | zero => lia
    | succ n =>
      have hd : isDig c = false := by
        unfold isSgn at hc
        simp only [Bool.or_eq_true, beq_iff_eq] at hc
        rcases hc with ((rfl | rfl) | rfl) | rfl <;> rfl
      have hw : isW c = false := by unfold isW; rw [hc, Bool.not_true, Bool.and_false]
      unfold P
      rw [lexL, List.dropWhile_cons, List.takeWhile_cons, hw]
      simp only [Bool.false_eq_true, if_false]
      rw [hd]
      simp only [Bool.false_eq_true, if_false, List.flatMap_cons, part_nil, part_sign hc, List.nil_append]
      exact ih n (by simp at hn; omega)
  | @word w rest ts hne h1 h2 _ ih =>
    intro n hn
    cases n with
    | zero => lia
    | succ n =>
      rw [P_word h1 h2, ih (n + 1) (by rw [List.length_append] at hn; (first | exact Nat.lt_of_add_left_lt hn | lia))]
  | @dig d rest ts hne h1 h2 _ ih =>
    intro n hn
    cases n with
    | zero => lia
    | succ n =>
      obtain ⟨a, b⟩ := takeWhile_all h1 h2
      cases d with
      | nil => exact absurd rfl hne
      | cons c d =>
        have hd : isDig c = true := h1 c (List.mem_cons_self ..)
        have hw : isW c = false := by unfold isW; rw [hd]; rfl
        unfold P
        rw [List.cons_append] at a b
        rw [List.cons_append, lexL, List.dropWhile_cons, List.takeWhile_cons, hw]
        simp only [Bool.false_eq_true, if_false]
        rw [hd]
        simp only [if_true, List.flatMap_cons, part_nil, List.nil_append]
        rw [a, b]
        congr 1
        exact ih n (by rw [List.length_append] at hn; simp at hn; (first | exact Nat.lt_of_succ_lt_succ (Nat.lt_of_le_of_lt (zEq (Nat.add_comm _ 1) (Nat.add_le_add_right (Nat.le_add_left 1 _) _)) hn) | lia))
theorem keyT_lex {x : Str} (hs : x.cps.size ≤ 100000) {ts : List T} (h : Lex x.cps.toList ts) : keyT x = ts := by
  unfold keyT splitS
  rw [cuts_list hs, List.flatMap_map]
  have := lex_P h (x.cps.size + 1) (by rw [Array.length_toList]; (exact Nat.le_refl _))
  rw [← this, List.drop_zero]
end Mine
end

section
set_option Elab.async false
set_option maxRecDepth 100000
set_option maxHeartbeats 1000000
set_option linter.unusedVariables false
namespace Mine
open PySem

theorem word_facts : ∀ p ∈ tabW, ∀ s, s < 2 → (p.word s).cps.toList ≠ [] ∧ (∀ c ∈ (p.word s).cps.toList, isW c = true ∧ c < 16 ^ 8) ∧ (p.word s).cps.size ≤ 10 ∧ eqTs (partT (p.word s)) [.int (p.rank s), .str (p.word s)] = true ∧ p.rank s ≠ 100 ∧ (p.rank s).natAbs ≤ 1000 := by
  have h : ∀ i < 12, ∀ s < 2, (((tabW.getD i default).word s).cps.toList ≠ [] ∧ (((tabW.getD i default).word s).cps.toList.all fun c => isW c && decide (c < 16 ^ 8)) = true ∧ ((tabW.getD i default).word s).cps.size ≤ 10) ∧ eqTs (partT ((tabW.getD i default).word s)) [.int ((tabW.getD i default).rank s), .str ((tabW.getD i default).word s)] = true ∧ (tabW.getD i default).rank s ≠ 100 ∧ ((tabW.getD i default).rank s).natAbs ≤ 1000 := by decide +kernel
  intro p hp s hs
  obtain ⟨i, hi, rfl⟩ := List.mem_iff_getElem.mp hp
  obtain ⟨⟨h1, h2, h3⟩, h4, h5, h6⟩ := h i hi s hs
  have e : tabW.getD i default = tabW[i] := by rw [List.getD_eq_getElem?_getD, List.getElem?_eq_getElem hi]; rfl
  rw [e] at h1 h2 h3 h4 h5 h6
  refine ⟨h1, fun c hc => ?_, h3, h4, h5, h6⟩
  have := List.all_eq_true.mp h2 c hc
  rw [Bool.and_eq_true, decide_eq_true_eq] at this
  exact this
noncomputable def lowL (l : List Nat) : List Nat := l.flatMap Unicode.lowerOf
theorem lower_list {x : Str} (h : ∀ c ∈ x.cps.toList, c ≠ 0x3A3) : (Txt.lower x).cps.toList = lowL x.cps.toList := by
  have e : Txt.lower x = ⟨(x.cps.mapIdx fun i c => (Unicode.lowerAt x.cps i).toArray).flatten⟩ := rfl
  rw [e]
  have e2 : (x.cps.mapIdx fun i c => (Unicode.lowerAt x.cps i).toArray) = x.cps.map fun c => (Unicode.lowerOf c).toArray := by
    apply Array.ext
    · simp
    · intro i h1 h2
      simp only [Array.getElem_mapIdx, Array.getElem_map]
      have hi : i < x.cps.size := by simpa using h2
      unfold Unicode.lowerAt
      rw [Array.getElem?_eq_getElem hi]
      have : (x.cps[i] == 0x3A3) = false := beq_false_of_ne (h _ (by simp))
      dsimp only
      rw [this]; rfl
  rw [e2]
  simp only [Array.toList_flatten, Array.toList_map, List.map_map, lowL, List.flatMap]
  congr 1
noncomputable def lowW (p : Pr) : List Nat := lowL p.w0.cps.toList
theorem lowW_facts : ∀ p ∈ tabW, ∀ s, s < 2 → lowL (p.word s).cps.toList = lowW p ∧ (∀ c ∈ lowW p, isDig c = false) ∧ (lowW p).length ≤ 10 ∧ (∀ c ∈ (p.word s).cps.toList, c ≠ 0x3A3 ∧ isDig c = false) := by
  have h : ∀ i < 12, ∀ s < 2, (lowL ((tabW.getD i default).word s).cps.toList == lowW (tabW.getD i default)) = true ∧ ((lowW (tabW.getD i default)).all fun c => !isDig c) = true ∧ (lowW (tabW.getD i default)).length ≤ 10 ∧ (((tabW.getD i default).word s).cps.toList.all fun c => c != 0x3A3 && !isDig c) = true := by decide +kernel
  intro p hp s hs
  obtain ⟨i, hi, rfl⟩ := List.mem_iff_getElem.mp hp
  have e : tabW.getD i default = tabW[i] := by rw [List.getD_eq_getElem?_getD, List.getElem?_eq_getElem hi]; rfl
  obtain ⟨h1, h2, h3, h4⟩ := h i hi s hs
  rw [e] at h1 h2 h3 h4
  refine ⟨eq_of_beq h1, fun c hc => ?_, h3, fun c hc => ?_⟩
  · have := List.all_eq_true.mp h2 c hc
    simpa using this
  · have := List.all_eq_true.mp h4 c hc
    simpa using this
theorem tabW_low : (tabW.map lowW).Nodup := by decide +kernel
theorem word_ne : ∀ p ∈ tabW, p.w0.cps.toList ≠ p.w1.cps.toList := by
  have h : ∀ i < 12, (tabW.getD i default).w0.cps.toList ≠ (tabW.getD i default).w1.cps.toList := by decide +kernel
  intro p hp
  obtain ⟨i, hi, rfl⟩ := List.mem_iff_getElem.mp hp
  have e : tabW.getD i default = tabW[i] := by rw [List.getD_eq_getElem?_getD, List.getElem?_eq_getElem hi]; rfl
  have := h i hi
  rw [e] at this
  exact this
theorem toStr_eq (x : Str) : toStr x.cps.toList = x := by cases x; rfl
theorem dig_W {c : Nat} (h : isDig c = true) : isW c = false := by unfold isW; rw [h]; rfl
theorem sgn_W {c : Nat} (h : isSgn c = true) : isW c = false := by unfold isW; rw [h, Bool.not_true, Bool.and_false]
theorem sgn_lex {sep r : List Nat} {ts : List T} (h : ∀ c ∈ sep, isSgn c = true) (hl : Lex r ts) : Lex (sep ++ r) ts := by
  induction sep with
  | nil => exact hl
  | cons c s ih => exact Lex.sign (h c (List.mem_cons_self ..)) (ih fun d hd => h d (List.mem_cons_of_mem _ hd))
theorem Str.ext_list {x y : Str} (h : x.cps.toList = y.cps.toList) : x = y := by rw [← toStr_eq x, ← toStr_eq y, h]
theorem glued_list (sep : Str) : ∀ (r : List Str) (acc : Array Nat), (r.foldl (fun acc p => acc ++ sep.cps ++ p.cps) acc).toList = acc.toList ++ r.flatMap fun y => sep.cps.toList ++ y.cps.toList
  | [], acc => by simp
  | p :: r, acc => by
    rw [List.foldl_cons, glued_list sep r, List.flatMap_cons]
    simp
theorem join_list (sep : Str) (x : Str) (r : List Str) : (joinS sep (x :: r)).cps.toList = x.cps.toList ++ r.flatMap fun y => sep.cps.toList ++ y.cps.toList := by
  cases r with
  | nil => simp [joinS]
  | cons y r =>
    show (((x :: y :: r).drop 1).foldl (fun acc p => acc ++ sep.cps ++ p.cps) ((x :: y :: r).headD Str.empty).cps).toList = _
    exact glued_list sep (y :: r) x.cps
theorem num_facts {e : Nat} (h : e ≤ 200) : (numS e).cps.toList ≠ [] ∧ (∀ c ∈ (numS e).cps.toList, isDig c = true ∧ c < 16 ^ 8) ∧ (numS e).cps.size ≤ 3 ∧ partT (numS e) = [.int 100, .int e] := by
  have h1 : ∀ e < 201, ((numS e).cps.toList ≠ [] ∧ ((numS e).cps.toList.all fun c => isDig c && decide (c < 16 ^ 8)) = true ∧ (numS e).cps.size ≤ 3) ∧ eqTs (partT (numS e)) [.int 100, .int (e : Nat)] = true := by decide +kernel
  obtain ⟨⟨a, b, c⟩, d⟩ := h1 e (Nat.lt_succ_of_le h)
  refine ⟨a, fun x hx => ?_, c, eqTs_eq _ _ d⟩
  have := List.all_eq_true.mp b x hx
  rw [Bool.and_eq_true, decide_eq_true_eq] at this
  exact this
theorem sg2_facts : ∀ i < 4, ∀ r < 2, (∀ c ∈ (sg2 i r).cps.toList, isSgn c = true ∧ c < 16 ^ 8) ∧ (sg2 i r).cps.size ≤ 2 ∧ (sg2 i r).cps.toList ≠ [] := by
  have h : ∀ i < 4, ∀ r < 2, ((sg2 i r).cps.toList.all fun c => isSgn c && decide (c < 16 ^ 8)) = true ∧ (sg2 i r).cps.size ≤ 2 ∧ (sg2 i r).cps.toList ≠ [] := by decide +kernel
  intro i hi r hr
  obtain ⟨h1, h2, h3⟩ := h i hi r hr
  refine ⟨fun c hc => ?_, h2, h3⟩
  have := List.all_eq_true.mp h1 c hc
  rw [Bool.and_eq_true, decide_eq_true_eq] at this
  exact this
section
variable {ls : List Pr} (L : Lev ls)
include L
theorem lv_tab {j : Nat} (hj : j < 4) : lv ls j ∈ tabW := by
  have hl : j < ls.length := by rw [L.four]; exact hj
  have e : lv ls j = ls[j] := by unfold lv; rw [List.getD_eq_getElem?_getD, List.getElem?_eq_getElem hl]; rfl
  rw [e]; exact L.tab _ (List.getElem_mem hl)
theorem wd_facts {l : Lit} (h1 : l.1 < 4) (h2 : l.2 < 2) : (wd ls l).cps.toList ≠ [] ∧ (∀ c ∈ (wd ls l).cps.toList, isW c = true ∧ c < 16 ^ 8) ∧ (wd ls l).cps.toList.length ≤ 10 ∧ partT (wd ls l) = litW ls l := by
  obtain ⟨a, b, c, d, _⟩ := word_facts _ (lv_tab L h1) l.2 h2
  exact ⟨a, b, by rw [Array.length_toList]; exact c, eqTs_eq _ _ d⟩
theorem wd_low {l : Lit} (h1 : l.1 < 4) (h2 : l.2 < 2) : (Txt.lower (wd ls l)).cps.toList = lowW (lv ls l.1) ∧ (lowW (lv ls l.1)).length ≤ 10 := by
  obtain ⟨a, b, c, d⟩ := lowW_facts _ (lv_tab L h1) l.2 h2
  exact ⟨(lower_list fun c hc => (d c hc).1).trans a, c⟩
theorem low_level {i j : Nat} (hi : i < 4) (hj : j < 4) (e : lowW (lv ls i) = lowW (lv ls j)) : i = j := by
  obtain ⟨a, ha⟩ := List.mem_iff_getElem?.mp (lv_tab L hi)
  obtain ⟨b, hb⟩ := List.mem_iff_getElem?.mp (lv_tab L hj)
  have ga : (tabW.map lowW)[a]? = some (lowW (lv ls i)) := by rw [List.getElem?_map, ha]; rfl
  have gb : (tabW.map lowW)[b]? = some (lowW (lv ls i)) := by rw [List.getElem?_map, hb, e]; rfl
  have := (List.getElem?_inj (List.getElem?_eq_some_iff.mp ga).1 tabW_low).mp (ga.trans gb.symm)
  subst this
  rw [ha] at hb
  have := Option.some.inj hb
  exact lev_inj L hi hj (by rw [this]) (by rw [this])
theorem words_ok : WordsOk ls := by
  refine ⟨fun l h1 h2 => ?_, fun l l' h1 h2 h3 h4 => ?_, fun t h1 h2 h3 => ?_, fun j hj => ?_⟩
  · obtain ⟨a, b⟩ := wd_low L h1 h2
    have hs : (Txt.lower (wd ls l)).length ≤ 10 := by
      show (Txt.lower (wd ls l)).cps.size ≤ 10
      rw [← Array.length_toList, a]; exact b
    unfold LowOk Builtin.Str.tooLong
    rw [decide_eq_false_iff_not, sizeLine_eq]
    (first | exact Nat.not_lt.mpr (zLe hs rfl) | lia)
  · obtain ⟨a, _⟩ := wd_low L h1 h2
    obtain ⟨b, _⟩ := wd_low L h3 h4
    unfold costT
    by_cases e : l = l'
    · subst e
      rw [if_pos (by exact BEq.rfl), if_pos rfl]
    · rw [if_neg e]
      by_cases e1 : l.1 = l'.1
      · rw [if_pos e1]
        have hne : ¬ (wd ls l == wd ls l') = true := by
          intro q
          have q := congrArg (fun x : Str => x.cps.toList) (eq_of_beq q)
          obtain ⟨i, s⟩ := l
          obtain ⟨j, s'⟩ := l'
          dsimp only at e1 h2 h4
          subst e1
          have hw := word_ne _ (lv_tab L h1)
          have q : ((lv ls i).word s).cps.toList = ((lv ls i).word s').cps.toList := q
          have hs : s = 0 ∨ s = 1 := by (first | exact Nat.le_one_iff_eq_zero_or_eq_one.mp (Nat.le_of_lt_succ h2) | lia)
          have hs' : s' = 0 ∨ s' = 1 := by (first | exact Nat.le_one_iff_eq_zero_or_eq_one.mp (Nat.le_of_lt_succ h4) | lia)
          rcases hs with rfl | rfl <;> rcases hs' with rfl | rfl
          · exact e rfl
          · exact hw q
          · exact hw q.symm
          · exact e rfl
        have hlow : (Txt.lower (wd ls l) == Txt.lower (wd ls l')) = true := by
          rw [beq_iff_eq]
          exact Str.ext_list (by rw [a, b, e1])
        rw [if_neg hne, if_pos hlow]
      · rw [if_neg e1]
        have hlow : ¬ (Txt.lower (wd ls l) == Txt.lower (wd ls l')) = true := by
          intro q
          have q := congrArg (fun x : Str => x.cps.toList) (eq_of_beq q)
          exact e1 (low_level L h1 h3 (by rw [← a, ← b]; exact q))
        have hne : ¬ (wd ls l == wd ls l') = true := fun q => hlow (by rw [eq_of_beq q]; exact BEq.rfl)
        rw [if_neg hne, if_neg hlow]
  · obtain ⟨w1, w2, w3, w4⟩ := wd_facts L (l := (t.1, 1)) h1 (Nat.lt_succ_self 1)
    obtain ⟨f1, f2, f3, f4⟩ := num_facts h2
    obtain ⟨g1, g2, g3, g4⟩ := num_facts h3
    have hdot : (Str.ofString ".").cps.toList = [46] := by decide +kernel
    have hl : (markS ls t).cps.toList = (wd ls (t.1, 1)).cps.toList ++ ((numS t.2.1).cps.toList ++ (46 :: ((numS t.2.2).cps.toList ++ []))) := by
      have e : (markS ls t).cps.toList = (((wd ls (t.1, 1)).cps.toList ++ (numS t.2.1).cps.toList) ++ (Str.ofString ".").cps.toList) ++ (numS t.2.2).cps.toList := by
        show (((_ ++ _ : Array Nat) ++ _ : Array Nat) ++ _ : Array Nat).toList = _
        rw [Array.toList_append, Array.toList_append, Array.toList_append]; rfl
      rw [e, hdot, List.append_nil, List.append_assoc, List.append_assoc]; rfl
    have hsz : (markS ls t).cps.size ≤ 17 := by
      rw [← Array.length_toList, hl, List.length_append, List.length_append, List.length_cons, List.length_append, List.length_nil]
      have e1 : (numS t.2.1).cps.toList.length = (numS t.2.1).cps.size := Array.length_toList
      have e2 : (numS t.2.2).cps.toList.length = (numS t.2.2).cps.size := Array.length_toList
      (first | exact zLe (Nat.add_le_add w3 (Nat.add_le_add (zEq e1 f3) (Nat.succ_le_succ (zEq e2 g3)))) rfl | lia)
    refine ⟨⟨Nat.le_trans hsz (by decide), fun c hc => ?_⟩, keyT_lex (Nat.le_trans hsz (by decide)) ?_⟩
    · rw [hl, List.append_nil] at hc
      rcases List.mem_append.mp hc with hc | hc
      · exact (w2 c hc).2
      · rcases List.mem_append.mp hc with hc | hc
        · exact (f2 c hc).2
        · rcases List.mem_cons.mp hc with rfl | hc
          · decide
          · exact (g2 c hc).2
    · rw [hl]
      have s3 := Lex.dig (rest := []) g1 (fun c hc => (g2 c hc).1) (fun c r e => by cases e) Lex.nil
      have s2 := Lex.sign (c := 46) (by rfl) s3
      have s1 := Lex.dig f1 (fun c hc => (f2 c hc).1) (fun c r e => by cases e; rfl) s2
      have s0 := Lex.word w1 (fun c hc => (w2 c hc).1) (fun c r e => by
        cases hf : (numS t.2.1).cps.toList with
        | nil => exact absurd hf f1
        | cons x y =>
          rw [hf] at e
          cases e
          exact dig_W (f2 c (by rw [hf]; exact List.mem_cons_self ..)).1) s1
      rw [toStr_eq, toStr_eq, toStr_eq, w4, f4, g4] at s0
      exact s0
  · obtain ⟨_, _, h3, _⟩ := wd_facts L (l := (j, 1)) hj (Nat.lt_succ_self 1)
    rw [Array.length_toList] at h3
    exact h3
theorem lex_word {l : Lit} (h1 : l.1 < 4) (h2 : l.2 < 2) {rest : List Nat} {ts : List T} (hr : ∀ c r, rest = c :: r → isSgn c = true) (hl : Lex rest ts) : Lex ((wd ls l).cps.toList ++ rest) (litW ls l ++ ts) := by
  obtain ⟨w1, w2, w3, w4⟩ := wd_facts L h1 h2
  have s := Lex.word w1 (fun c hc => (w2 c hc).1) (fun c r e => sgn_W (hr c r e)) hl
  rw [toStr_eq, w4] at s
  exact s
theorem lex_more {sep : List Nat} (hs : ∀ c ∈ sep, isSgn c = true) (hne : sep ≠ []) : ∀ {c : Cl}, (∀ l ∈ c, l.1 < 4 ∧ l.2 < 2) →
    Lex ((c.map (wd ls)).flatMap fun y => sep ++ y.cps.toList) (ckey ls c) ∧ ∀ x r, ((c.map (wd ls)).flatMap fun y => sep ++ y.cps.toList) = x :: r → isSgn x = true
  | [], _ => ⟨Lex.nil, fun c r e => by cases e⟩
  | l :: c, h => by
    obtain ⟨a, b⟩ := lex_more hs hne (c := c) fun x hx => h x (List.mem_cons_of_mem _ hx)
    obtain ⟨h1, h2⟩ := h l (List.mem_cons_self ..)
    rw [List.map_cons, List.flatMap_cons, List.append_assoc]
    constructor
    · exact sgn_lex hs (lex_word L h1 h2 b a)
    · intro x r e
      cases hsep : sep with
      | nil => exact absurd hsep hne
      | cons y z =>
        rw [hsep] at e
        cases e
        exact hs _ (by rw [hsep]; exact List.mem_cons_self ..)
theorem more_short {sep : List Nat} (h2 : sep.length ≤ 2) : ∀ {c : Cl}, (∀ l ∈ c, l.1 < 4 ∧ l.2 < 2) → ((c.map (wd ls)).flatMap fun y => sep ++ y.cps.toList).length ≤ 12 * c.length ∧ ∀ a, (c.map (wd ls)).foldl (fun a y => a + y.length + sep.length) a ≤ a + 12 * c.length
  | [], _ => ⟨Nat.zero_le _, fun a => Nat.le_refl _⟩
  | l :: c, h => by
    obtain ⟨i1, i2⟩ := more_short h2 (c := c) fun x hx => h x (List.mem_cons_of_mem _ hx)
    obtain ⟨h1, h3⟩ := h l (List.mem_cons_self ..)
    obtain ⟨_, _, w3, _⟩ := wd_facts L h1 h3
    have w3' : (wd ls l).length ≤ 10 := by rw [Array.length_toList] at w3; exact w3
    constructor
    · rw [List.map_cons, List.flatMap_cons, List.length_append, List.length_append, List.length_cons]
      (first | exact Nat.le_trans (Nat.add_le_add (Nat.add_le_add h2 w3) i1) (Nat.le_of_eq (Nat.add_comm 12 _)) | lia)
    · intro a
      have := i2 (a + (wd ls l).length + sep.length)
      rw [List.map_cons, List.foldl_cons, List.length_cons]
      lia
theorem join_ok : JoinOk ls := by
  have size : ∀ c, ClOk c → ∀ i < 4, ∀ r < 2, (joinS (sg2 i r) (c.map (wd ls))).cps.size ≤ 60 := fun c hc i hi r hr => by
    obtain ⟨g1, g2, g3⟩ := sg2_facts i hi r hr
    have hf := hc.few
    have ho := hc.ok
    cases c with
    | nil => exact Nat.zero_le _
    | cons l c =>
      rw [← Array.length_toList, List.map_cons, join_list, List.length_append]
      obtain ⟨h1, h2⟩ := ho l (List.mem_cons_self ..)
      obtain ⟨_, _, w3, _⟩ := wd_facts L h1 h2
      have := (more_short L (sep := (sg2 i r).cps.toList) (by rw [Array.length_toList]; exact g2) (c := c) fun x hx => ho x (List.mem_cons_of_mem _ hx)).1
      rw [List.length_cons] at hf
      (first | exact zLe (Nat.add_le_add w3 (Nat.le_trans this (Nat.mul_le_mul_left 12 (Nat.le_of_succ_le_succ hf)))) rfl | lia)
  refine ⟨fun c hc i hi r hr => ⟨?_, ?_⟩, fun c hc i hi r hr => ⟨Nat.le_trans (size c hc i hi r hr) (by decide), fun x hx => ?_⟩, fun c hc i hi r hr => keyT_lex (Nat.le_trans (size c hc i hi r hr) (by decide)) ?_⟩
  · obtain ⟨g1, g2, g3⟩ := sg2_facts i hi r hr
    have h1 := (more_short L (sep := (sg2 i r).cps.toList) (by rw [Array.length_toList]; exact g2) (c := c) hc.ok).2 0
    have hf := hc.few
    rw [← Array.foldl_toList]
    unfold Builtin.Str.tooLong
    rw [decide_eq_false_iff_not, sizeLine_eq]
    have e : (c.map (wd ls)).toArray.toList = c.map (wd ls) := rfl
    have e2 : (sg2 i r).cps.toList.length = (sg2 i r).length := Array.length_toList
    rw [e2] at h1
    rw [e]
    (first | exact Nat.not_lt.mpr (zLe (Nat.le_trans h1 (Nat.add_le_add_left (Nat.mul_le_mul_left 12 hf) 0)) rfl) | lia)
  · have h1 := size c hc i hi r hr
    show (joinS (sg2 i r) (c.map (wd ls))).cps.size ≤ _
    rw [sizeLine_eq]; (exact Nat.le_trans h1 (Nat.le_add_left _ _))
  · obtain ⟨g1, g2, g3⟩ := sg2_facts i hi r hr
    have ho := hc.ok
    cases c with
    | nil => cases hx
    | cons l c =>
      rw [List.map_cons, join_list] at hx
      have wdc : ∀ l : Lit, l.1 < 4 ∧ l.2 < 2 → ∀ x ∈ (wd ls l).cps.toList, x < 16 ^ 8 := fun l hl x hx => ((wd_facts L hl.1 hl.2).2.1 x hx).2
      rcases List.mem_append.mp hx with hx | hx
      · exact wdc l (ho l (List.mem_cons_self ..)) x hx
      · obtain ⟨y, hy, hx⟩ := List.mem_flatMap.mp hx
        rcases List.mem_append.mp hx with hx | hx
        · exact (g1 x hx).2
        · obtain ⟨l', hl', rfl⟩ := List.mem_map.mp hy
          exact wdc l' (ho l' (List.mem_cons_of_mem _ hl')) x hx
  · obtain ⟨g1, g2, g3⟩ := sg2_facts i hi r hr
    have ho := hc.ok
    cases c with
    | nil => exact Lex.nil
    | cons l c =>
      rw [List.map_cons, join_list]
      obtain ⟨h1, h2⟩ := ho l (List.mem_cons_self ..)
      obtain ⟨a, b⟩ := lex_more L (fun x hx => (g1 x hx).1) g3 (c := c) fun x hx => ho x (List.mem_cons_of_mem _ hx)
      exact lex_word L h1 h2 b a
theorem texts_ok : TextsOk ls := ⟨words_ok L, join_ok L, fun j hj => by
  obtain ⟨w1, w2, w3, w4⟩ := wd_facts L (l := (j, 1)) hj (Nat.lt_succ_self 1)
  have hs : (lv ls j).w1.cps.size ≤ 10 := by rw [Array.length_toList] at w3; exact w3
  refine ⟨⟨Nat.le_trans hs (by decide), fun c hc => (w2 c hc).2⟩, keyT_lex (Nat.le_trans hs (by decide)) ?_⟩
  have := lex_word L (l := (j, 1)) hj (Nat.lt_succ_self 1) (rest := []) (ts := []) (fun c r e => by cases e) Lex.nil
  rw [List.append_nil, List.append_nil] at this
  exact this⟩
end
end Mine
end

section
set_option Elab.async false
set_option maxRecDepth 100000
set_option maxHeartbeats 4000000
set_option linter.unusedVariables false
open PySem PySem.W PyProof.Rows
namespace Mine
noncomputable def stEntry (P : Params) (e : Str × Int × Nat × Nat) : DictEntry := { hash := PyData.keyHash P e.1, key := .str e.1 e.2.2.1, val := .int e.2.1 e.2.2.2 }
theorem find_stages {P : Params} (v : Str) : ∀ L : List (Str × Int × Nat × Nat), (((L.map (stEntry P)).find? fun e => Value.isStrOf v e.key) = none ∧ (L.map fun e => (e.1, e.2.1)).lookup v = none) ∨
    ∃ e t, ((L.map (stEntry P)).find? fun e => Value.isStrOf v e.key) = some e ∧ ∃ i : Int, e.val = .int i t ∧ (L.map fun e => (e.1, e.2.1)).lookup v = some i
  | [] => .inl ⟨rfl, rfl⟩
  | e :: L => by
    rw [List.map_cons, List.map_cons, List.find?_cons, List.lookup_cons]
    by_cases h : v = e.1
    · have h1 : Value.isStrOf v (stEntry P e).key = true := by
        show (e.1 == v) = true
        rw [h]; exact BEq.rfl
      have h2 : (v == e.1) = true := by rw [h]; exact BEq.rfl
      rw [h1, h2]
      exact .inr ⟨_, _, rfl, _, rfl, rfl⟩
    · have h1 : Value.isStrOf v (stEntry P e).key = false := beq_false_of_ne fun q => h q.symm
      have h2 : (v == e.1) = false := beq_false_of_ne h
      rw [h1, h2]
      exact find_stages v L
theorem stages_of {prog : Program} {w : World} {h : Heap} {a : Addr} {L : List (Str × Int × Nat × Nat)} {o : Obj} {es : Array DictEntry} {n : Nat} (ho : h.get? a = some o) (hx : o.ExactDict) (hd : o.data = .dict es n) (he : es.toList = L.map (stEntry w.params)) (hL : (L.map fun e => (e.1, e.2.1)) = stagesT) :
    ∃ f, h.MapOf (strKind prog w) a f ∧ ∀ v, (f v = none ∧ stage v = 0) ∨ ∃ t, f v = some (.int (stage v) t) := by
  refine ⟨fun k => findBy (strKind prog w).is es k, ⟨o, es, n, ho, hx, hd, fun e hm => ?_, fun k => rfl⟩, fun v => ?_⟩
  · have : e ∈ es.toList := by simpa using hm
    rw [he] at this
    obtain ⟨q, _, rfl⟩ := List.mem_map.mp this
    exact ⟨q.1, BEq.rfl, rfl⟩
  · have e1 : findBy (strKind prog w).is es v = (es.toList.find? fun e => Value.isStrOf v e.key).map (·.val) := by
      unfold findBy
      rw [← Array.find?_toList]; rfl
    show (findBy (strKind prog w).is es v = none ∧ _) ∨ ∃ t, findBy (strKind prog w).is es v = _
    rw [e1, he]
    unfold stage
    rw [← hL]
    rcases find_stages (P := w.params) v L with ⟨h1, h2⟩ | ⟨e, t, h1, i, h2, h3⟩
    · rw [h1, h2]
      exact .inl ⟨rfl, rfl⟩
    · rw [h1, h3]
      exact .inr ⟨t, by rw [Option.map_some, h2]; rfl⟩
theorem well_allInts {P : Params} {h : Heap} {H : PHeap} : ∀ {ns : List Int} {vs : List Value}, WellAll P h vs (ofPys (ns.map PyData.int)) → DenL H (intsT ns) vs
  | [], _, r => by
    rw [List.map_nil] at r
    unfold ofPys at r
    cases r
    exact .nil
  | n :: ns, _, r => by
    rw [List.map_cons] at r
    unfold ofPys at r
    cases r with
    | cons a b =>
      unfold ofPy at a
      cases a
      exact .cons (by unfold Den; exact ⟨_, rfl⟩) (well_allInts b)
theorem well_ints {P : Params} {h : Heap} {a : Addr} {ns : List Int} (w : Well P h (.ref a) (ofPy (.list (ns.map PyData.int)))) : Den h.get? (.list (intsT ns)) (.ref a) := by
  unfold ofPy at w
  cases w with
  | list hg hw =>
    unfold Den
    exact ⟨a, _, _, rfl, hg, well_allInts hw⟩
theorem room_caller {n : Nat} (h : n ≤ 100) : Room n callerA := ⟨fun _ => rfl, by show 1 + claimMargin + n ≤ 900; have : claimMargin = 300 := rfl; (first | exact zLe (Nat.add_le_add (Nat.add_le_add_left (Nat.le_of_eq this) 1) h) rfl | lia), by show 4 + 60 * n ≤ 9000; (first | exact zLe (Nat.add_le_add_left (Nat.mul_le_mul_left 60 h) 4) rfl | lia)⟩
theorem law_end {C : Cx} {n : Nat} {al l : Addr} {ns : List Int} {s : Shared} {Q : Value → Shared → Prop} {E : Value → Shared → Prop}
    (h : Con C n (.ref al) [] [.val (.list (intsT ns))] [] fun d O' => RetD [] O' d fun t => t = .bool true) (hn : n ≤ 100) (hB : C.B = s.heap) (hos : C.os = s.os) (hg : s.gens = #[])
    (hw : Well C.w.params s.heap (.ref l) (ofPy (.list (ns.map PyData.int)))) (hQ : ∀ s' : Shared, (∀ b o, s.heap.get? b = some o → s'.heap.get? b = some o) → s'.os = s.os → s'.gens = #[] → Q (.bool true) s') :
    wpC (model C.prog C.w) callerA (call (.ref al) [.ref l]) Q E s := by
  have M : Mem C callerA s.heap.get? [] [] s := ⟨fun a o e => by rw [hB] at e; exact e, fun a o e => e, rfl, List.nodup_nil, fun i a ob e => (by simp at e), fun a e => (by simp at e), hos.symm, hg, ⟨[], rfl, fun env e => (by simp at e)⟩⟩
  refine wpC_mono (h callerA s.heap.get? [] s [.ref l] [] E (room_caller hn) M ⟨well_ints hw, trivial⟩ rfl trivial) ?_ (fun _ _ q => q)
  rintro v s' ⟨d, O', H', as', ⟨t, rfl, rfl, rfl⟩, M', hv, _⟩
  have hv : Den H' (.bool true) v := hv
  unfold Den at hv
  subst hv
  exact hQ s' (fun b o e => M'.sat b o (M'.base b o (by rw [hB]; exact e))) (M'.os.trans hos) M'.gens
end Mine
end

section
set_option Elab.async false
set_option maxRecDepth 100000
set_option maxHeartbeats 8000000
open PySem PySem.W PyProof.Rows
namespace Mine.Hd
open_top hd for PySem.Challenge.rw_wn0033_02


end Mine.Hd
end

set_option Elab.async false
set_option maxRecDepth 100000
set_option maxHeartbeats 4000000
set_option linter.unusedVariables false
open PySem PySem.W PyProof.Rows
namespace Mine
theorem defAt_of {C : Cx} {K : Frag} (X : K.In C.B) {x : Str} {a c : Addr} {pm doc dV kV : Value} {o oc : Obj} {vs : Array Value} {t : Tok} (hm : C.mg x = some (.ref a)) (h1 : K.lookup a = some o)
    (h2 : o.data = .func (fdOf PW x pm (.ref c) doc dV kV)) (h3 : K.lookup c = some oc) (h4 : oc.data = .fields vs) (h5 : vs[1]? = some (.str x t)) : DefAt C PW x a dV kV :=
  ⟨hm, o, pm, .ref c, doc, X a o h1, h2, c, oc, vs, t, rfl, X c oc h3, h4, h5⟩
theorem kw_of {h : Heap} {a : Addr} {e : DictEntry} {n : Nat} {c : Value} (h1 : h.get? a = some { cls := c, data := .dict #[e] n }) {t : Tok} (hk : e.key = .str "key" t) (hv : e.val = .none) : ∃ m, h.Ns a m ∧ m "key" = some .none := by
  refine ⟨fun x => nsFind #[e] x, ⟨_, _, _, h1, rfl, fun e' he => ?_, fun _ => rfl⟩, ?_⟩
  · have : e' = e := by simpa using he
    subst this
    exact ⟨_, _, hk⟩
  · unfold nsFind findBy
    simp [hk, Value.isStr, hv]
section
variable {C : Cx} {P : Params}
theorem bi_of (KX : (Mine.Hd.hd.heap_39 P).In C.B) (hb : ∀ x : Str, x ≠ "__name__" → C.mb x = bootBuiltins x) {x : Str} {v : Value} (h1 : nsIn (Mine.Hd.hd.heap_39 P) mainGlobals x = some none) (h2 : (x == "__name__") = false) (h3 : bootBuiltins x = some v) : Bi C x v :=
  ⟨mg_none_of KX C.g h1, (hb x (fun e => by rw [e] at h2; exact absurd h2 (by decide))).trans h3⟩
theorem pat_of (KX : (Mine.Hd.hd.heap_39 P).In C.B) : PatAt C.B 54 :=
  ⟨_, 53, _, _, _, _, _, _, _, _, _, KX 54 _ rfl, rfl, rfl, rfl, KX 53 _ rfl, rfl, by decide +kernel⟩
noncomputable def stL : List (Str × Int × Nat × Nat) := [("dev", 10, 360, 361), ("alpha", 20, 362, 363), ("a", 20, 364, 365), ("beta", 30, 366, 367), ("b", 30, 368, 369), ("c", 40, 370, 371), ("RC", 50, 372, 373), ("rc", 50, 374, 375), ("pl", 200, 376, 377), ("p", 200, 378, 379)]
theorem tab_of (KX : (Mine.Hd.hd.heap_39 C.w.params).In C.B) : ∃ f, C.B.MapOf (strKind C.prog C.w) 55 f ∧ ∀ v, (f v = none ∧ stage v = 0) ∨ ∃ t, f v = some (.int (stage v) t) :=
  stages_of (L := stL) (KX 55 _ rfl) ⟨rfl, rfl, rfl⟩ rfl rfl rfl
theorem w2_of (KX : (Mine.Hd.hd.heap_39 C.w.params).In C.B) (hb : ∀ x : Str, x ≠ "__name__" → C.mb x = bootBuiltins x) : W2 C 49 40 41 42 32 33 62 54 55 69 76 83 90 97 102 107 114 119 := by
  have b : BisW C PW 49 40 41 42 32 33 := ⟨defAt_of KX (mg_of KX C.g rfl) rfl rfl rfl rfl rfl, defAt_of KX (mg_of KX C.g rfl) rfl rfl rfl rfl rfl, ⟨⟨_, _, _, KX 41 _ rfl, rfl⟩, kw_of (KX 42 _ rfl) rfl rfl⟩, ⟨⟨_, _, _, KX 32 _ rfl, rfl⟩, kw_of (KX 33 _ rfl) rfl rfl⟩, bi_of KX hb rfl rfl rfl⟩
  have c : CvW C PW 62 54 55 := ⟨defAt_of KX (mg_of KX C.g rfl) rfl rfl rfl rfl rfl, pat_of KX, mg_of KX C.g rfl, mg_of KX C.g rfl, tab_of KX, ⟨_, KX 55 _ rfl, rfl, rfl⟩, rfl, bi_of KX hb rfl rfl rfl, bi_of KX hb rfl rfl rfl⟩
  have s : SubW C PW 69 := ⟨defAt_of KX (mg_of KX C.g rfl) rfl rfl rfl rfl rfl, ⟨_, mg_of KX C.g rfl⟩, ⟨_, mg_of KX C.g rfl⟩⟩
  exact ⟨b, c, s, defAt_of KX (mg_of KX C.g rfl) rfl rfl rfl rfl rfl, defAt_of KX (mg_of KX C.g rfl) rfl rfl rfl rfl rfl, defAt_of KX (mg_of KX C.g rfl) rfl rfl rfl rfl rfl, defAt_of KX (mg_of KX C.g rfl) rfl rfl rfl rfl rfl, defAt_of KX (mg_of KX C.g rfl) rfl rfl rfl rfl rfl, defAt_of KX (mg_of KX C.g rfl) rfl rfl rfl rfl rfl, defAt_of KX (mg_of KX C.g rfl) rfl rfl rfl rfl rfl, defAt_of KX (mg_of KX C.g rfl) rfl rfl rfl rfl rfl,
    bi_of KX hb rfl rfl rfl, bi_of KX hb rfl rfl rfl, bi_of KX hb rfl rfl rfl, bi_of KX hb rfl rfl rfl, bi_of KX hb rfl rfl rfl⟩
end
end Mine
set_option maxHeartbeats 8000000 in
theorem PySem.Challenge.cw_wn0033_02_holds : PySem.Challenge.rw_wn0033_02.Holds := by
  refine Mine.Hd.hd ?_
  intro w s0 s1 mg mb G Y fa o pm cd doc dV kV ho hd hcd hD hmg hg args vals as hpre hlay hrd hwl hlo
  have KX := kIn_of Y
  clear Y ho hd hcd hD
  wrow_args hpre hlay hrd hwl hlo
  rename_i ns _ _ _ _ _ _ _ l _ _ _ _ hw _ _ _ hlen _
  have e1 : mg "law" = some (.ref 124) := mg_of KX G.T.g rfl
  have e2 : fa = 124 := by
    have := hmg.symm.trans e1
    injection this with this
    injection this
  subst e2
  have := Mine.con_law (C := ⟨PySem.Challenge.pw_wn0033_02, w, s1.heap, s1.os, mg, mb, G.T.nolimit, G.T.g, G.T.b, G.T.nodigits⟩) (n := 0) (Mine.defAt_of KX (mg_of KX G.T.g rfl) rfl rfl rfl rfl rfl) (Mine.w2_of KX G.T.builtins)
    (fun ls h => Mine.texts_ok h) (fun cl kk h => Mine.law_q cl kk h) (ns := ns) (by omega)
  refine Mine.law_end this (by omega) rfl rfl hg hw fun s' k1 k2 k3 => ?_
  refine GoodW.toG ⟨.inl ⟨_, .bool true, [], rfl, fun _ => rfl, .bool true, ?_, ?_⟩, k1, k2, k3⟩
  · clear hmg e1 G KX this
    wrow_post
  · clear hmg e1 G KX this
    exact fun _ => ⟨List.nodup_nil, fun a h => by cases h⟩
