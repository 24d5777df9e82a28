/-
  SEAT b6626440a: WALKS: zzFinite (5), ZZlower (6), lower (7).
-/
import Derived.Test.Qxb6626440aRows
import Derived.Test.Qxb6626440aRound
import Derived.WalkKit
import Derived.WalkSpells
import Derived.WalkLawsBesides
import Derived.Deep.Draws
import Derived.Outline
namespace Go.Proofs.Qxb6626440a
open Go.RowKit
open Go.Proofs.Qxb6626440a.Ord

/-! ### What the operations give -/
theorem fmt64 : FloatKind.f64.format = Ieee.double := rfl

theorem run_arith (op : BinOp) (hop : op = .mul ∨ op = .quo ∨ op = .sub) (t : TypeId) (x y : Nat) (W : World) : ∃ r n, (binOp op t (.float .f64 x) (.float .f64 y)).run Try.prog W = .ok (.float .f64 r) (W.drewN n) := by
  cases h : floatBits op .f64 x y with
  | some r => exact ⟨r, 0, run_float_arith W op t .f64 x y r h⟩
  | none =>
    refine ⟨Question.cut (.nanBits .f64 x y) (W.tape W.drawn (.nanBits .f64 x y)), 1, ?_⟩
    rcases hop with rfl | rfl | rfl
    all_goals
      simp only [floatBits] at h
      simp [binOp, Op.floatArith, h, Question.forced]
      rfl

theorem run_max (ts : Array TypeId) (t : TypeId) (x y : Nat) (hx : NN x) (hy : NN y) (W : World) : (Builtin.max_ ts t #[.float .f64 x, .float .f64 y]).run Try.prog W = .ok (.float .f64 (fmax x y)) W := by
  unfold fmax
  rcases order_key x y hx hy with ⟨h, _⟩ | ⟨h, _⟩ | ⟨h, _⟩
  all_goals cases hb : (Ieee.double.read x).neg <;> simp [Builtin.max_, Builtin.max2, fmt64, h, FloatKind.decode, hb]
theorem run_min (ts : Array TypeId) (t : TypeId) (x y : Nat) (hx : NN x) (hy : NN y) (W : World) : (Builtin.min_ ts t #[.float .f64 x, .float .f64 y]).run Try.prog W = .ok (.float .f64 (fmin x y)) W := by
  unfold fmin
  rcases order_key x y hx hy with ⟨h, _⟩ | ⟨h, _⟩ | ⟨h, _⟩
  all_goals cases hb : (Ieee.double.read x).neg <;> simp [Builtin.min_, Builtin.min2, fmt64, h, FloatKind.decode, hb]

theorem run_max_any (ts : Array TypeId) (t : TypeId) (x y : Nat) (W : World) : ∃ r n, (Builtin.max_ ts t #[.float .f64 x, .float .f64 y]).run Try.prog W = .ok (.float .f64 r) (W.drewN n) := by
  by_cases h : NN x ∧ NN y
  · exact ⟨_, 0, run_max ts t x y h.1 h.2 W⟩
  · have ho := order_nan (x := x) (y := y) (by rcases Classical.em (NN x) with a | a; exact .inr (fun b => h ⟨a, b⟩); exact .inl a)
    refine ⟨Question.cut (.nanMinMax .f64 true x y) (W.tape W.drawn (.nanMinMax .f64 true x y)), 1, ?_⟩
    simp [Builtin.max_, Builtin.max2, fmt64, ho, Question.forced]
    rfl
theorem run_min_any (ts : Array TypeId) (t : TypeId) (x y : Nat) (W : World) : ∃ r n, (Builtin.min_ ts t #[.float .f64 x, .float .f64 y]).run Try.prog W = .ok (.float .f64 r) (W.drewN n) := by
  by_cases h : NN x ∧ NN y
  · exact ⟨_, 0, run_min ts t x y h.1 h.2 W⟩
  · have ho := order_nan (x := x) (y := y) (by rcases Classical.em (NN x) with a | a; exact .inr (fun b => h ⟨a, b⟩); exact .inl a)
    refine ⟨Question.cut (.nanMinMax .f64 false x y) (W.tape W.drawn (.nanMinMax .f64 false x y)), 1, ?_⟩
    simp [Builtin.min_, Builtin.min2, fmt64, ho, Question.forced]
    rfl

/-- An invalid operation's answer is a NaN. -/
theorem run_sub_none (t : TypeId) (x : Nat) (h : Ieee.double.sub x x = none) (W : World) : ∃ r, (binOp .sub t (.float .f64 x) (.float .f64 x)).run Try.prog W = .ok (.float .f64 r) W.drew ∧ ¬ NN r := by
  refine ⟨Question.cut (.nanBits .f64 x x) (W.tape W.drawn (.nanBits .f64 x x)), ?_, ?_⟩
  · simp [binOp, Op.floatArith, fmt64, h, Question.forced]
  · generalize W.tape W.drawn (.nanBits .f64 x x) = q
    simp only [Question.cut]
    unfold NN
    unfold Ieee.Format.read
    simp only [binade_eq, inf_eq, sign_eq]
    have e1 : ((q % 2) * 2 ^ 63 + 0x7ff0000000000000 + 1 + (q / 2) % (2 ^ 52 - 1)) % 9223372036854775808 = 0x7ff0000000000000 + 1 + (q / 2) % (2 ^ 52 - 1) := by omega
    rw [e1]
    rw [if_neg (by omega), if_neg (by omega), if_neg (by omega)]
    simp [Ieee.Datum.isNaN]

/-! ### zzFinite -/
theorem fin_yes (x : Nat) (h : IsNum x) (w : World) : Calls Try.prog 5 #[.float .f64 x] w fun e w' => e = .returned (.bool true) ∧ Below w.heap.size w w' := by
  have h1 : (FloatKind.f64.format.order x x == some Ordering.eq) = true := by rw [fmt64, order_self (num_nn h)]; rfl
  have h2 : ∀ W, (binOp .sub 22 (.float .f64 x) (.float .f64 x)).run Try.prog W = .ok (.float .f64 0) W := fun W => run_float_arith W .sub 22 .f64 x x 0 (sub_num h)
  have h3 : (FloatKind.f64.format.order 0 0 == some Ordering.eq) = true := by decide
  clear h
  go_enter Try.func5, Try.ntmps5
  go_wp2
  go_ret
  exact ⟨rfl, Below.refl _ _⟩

theorem fin_no (x : Nat) (h : ¬ IsNum x) (w : World) : Calls Try.prog 5 #[.float .f64 x] w fun e w' => e = .returned (.bool false) ∧ Below w.heap.size w w' := by
  by_cases hn : NN x
  · have h1 : (FloatKind.f64.format.order x x == some Ordering.eq) = true := by rw [fmt64, order_self hn]; rfl
    obtain ⟨r, h2, hr⟩ := run_sub_none 22 x (sub_inf hn h) w
    have h3 : (FloatKind.f64.format.order r 0 == some Ordering.eq) = false := by rw [fmt64, order_nan (.inl hr)]; rfl
    clear h hn hr
    go_enter Try.func5, Try.ntmps5
    go_wp2
    go_ret
    exact ⟨rfl, (Below.refl _ _).drew⟩
  · have h1 : (FloatKind.f64.format.order x x == some Ordering.eq) = false := by rw [fmt64, order_nan (.inl hn)]; rfl
    clear h hn
    go_enter Try.func5, Try.ntmps5
    go_wp2
    go_ret
    exact ⟨rfl, Below.refl _ _⟩

end Go.Proofs.Qxb6626440a
