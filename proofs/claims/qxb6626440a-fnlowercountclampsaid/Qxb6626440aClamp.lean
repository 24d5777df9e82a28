/-
  'Rows.FnLowerCountClampSaid', PROVED.
-/
import Derived.Test.Qxb6626440aLower
import Derived.ProofKit
import Derived.OpenShut
import Derived.ChangeOld
import Derived.Below
namespace Go.Proofs.Qxb6626440a.countClamp
open Go.RowKit
open Go.Proofs.Qxb6626440a.Ord

/-! ### THE PLAIN LAW -/
theorem zero_key : c 0 = 0 ∧ v 0 = 0 := by decide
theorem ofInt_zero : ofInt 0 = 0 := by decide
theorem nn_zero : NN 0 := by unfold NN; decide

theorem fmin_cv (x y : Nat) (hx : NN x) (hy : NN y) : (c (fmin x y) = c x ∧ v (fmin x y) = v x ∧ ¬ Lt y x) ∨ (c (fmin x y) = c y ∧ v (fmin x y) = v y ∧ ¬ Lt x y) := by
  rcases fmin_key x y hx hy with ⟨e, k⟩ | ⟨e, k⟩
  · left; rw [e]; exact ⟨rfl, rfl, k⟩
  · right; rw [e]; exact ⟨rfl, rfl, k⟩
theorem fmax_cv (x y : Nat) (hx : NN x) (hy : NN y) : (c (fmax x y) = c x ∧ v (fmax x y) = v x ∧ ¬ Lt x y) ∨ (c (fmax x y) = c y ∧ v (fmax x y) = v y ∧ ¬ Lt y x) := by
  rcases fmax_key x y hx hy with ⟨e, k⟩ | ⟨e, k⟩
  · left; rw [e]; exact ⟨rfl, rfl, k⟩
  · right; rw [e]; exact ⟨rfl, rfl, k⟩

/-- The threshold at a count is the count, raised to the threshold at none and capped. -/
theorem clamp (A h : Nat) (n : Int) (nA : NN A) (nh : NN h) (h0 : ¬ Lt h 0) : Ieee.double.order (thresh A h n) (fmin A (fmax (ofInt n) (thresh A h 0))) = some Ordering.eq := by
  have nn := ofInt_nn n
  have n0 := nn_zero
  have z := zero_key
  have m1 := fmax_nn _ _ nn nh
  have m2 := fmax_nn _ _ n0 nh
  have t0 := fmin_nn _ _ nA m2
  have m3 := fmax_nn _ _ nn t0
  unfold thresh
  rw [ofInt_zero]
  refine order_eq (fmin_nn _ _ nA m1) (fmin_nn _ _ nA m3) ?_
  have k1 := fmax_cv _ _ nn nh
  have k2 := fmax_cv _ _ n0 nh
  have k3 := fmin_cv _ _ nA m1
  have k4 := fmin_cv _ _ nA m2
  have k5 := fmax_cv _ _ nn t0
  have k6 := fmin_cv _ _ nA m3
  unfold Eq'
  unfold Lt at *
  rcases k1 with k1 | k1 <;> rcases k2 with k2 | k2 <;> rcases k3 with k3 | k3 <;> rcases k4 with k4 | k4 <;> rcases k5 with k5 | k5 <;> rcases k6 with k6 | k6 <;> omega

/-- A greater count gives no lower threshold. -/
theorem grows (A h : Nat) (n m : Int) (hnm : n ≤ m) (nA : NN A) (nh : NN h) : (Ieee.double.order (thresh A h n) (thresh A h m) == some Ordering.lt || Ieee.double.order (thresh A h n) (thresh A h m) == some Ordering.eq) = true := by
  have mo := ofInt_mono hnm
  have nn := ofInt_nn n
  have nm := ofInt_nn m
  have m1 := fmax_nn _ _ nn nh
  have m2 := fmax_nn _ _ nm nh
  unfold thresh
  refine order_le (fmin_nn _ _ nA m1) (fmin_nn _ _ nA m2) ?_
  have k1 := fmax_cv _ _ nn nh
  have k2 := fmax_cv _ _ nm nh
  have k3 := fmin_cv _ _ nA m1
  have k4 := fmin_cv _ _ nA m2
  unfold Lt at *
  rcases k1 with k1 | k1 <;> rcases k2 with k2 | k2 <;> rcases k3 with k3 | k3 <;> rcases k4 with k4 | k4 <;> omega

/-! ### THE WALKS -/
abbrev Law (init thr mx dec : Nat) (r : Int) (x : Nat) (n n2 : Int) (w : World) : Prop :=
  Calls Try.prog 4 #[.float .f64 init, .float .f64 thr, .float .f64 mx, .float .f64 dec, .int .i64 r, .float .f64 x, .int .i64 n, .int .i64 n2] w fun e w' => e = .returned (.bool true) ∧ Below w.heap.size w w'
def FinC (x : Nat) (b : Bool) : Prop := ∀ w : World, Calls Try.prog 5 #[.float .f64 x] w fun e w' => e = .returned (.bool b) ∧ Below w.heap.size w w'
def ZzT (init thr mx dec : Nat) (r : Int) (x : Nat) (n : Int) (t : Nat) : Prop := ∀ w : World, Calls Try.prog 6 #[.float .f64 init, .float .f64 thr, .float .f64 mx, .float .f64 dec, .int .i64 r, .float .f64 x, .int .i64 n] w fun e w' => ∃ p, e = .returned (.tuple #[.float .f64 p, .float .f64 t]) ∧ Below w.heap.size w w'

theorem chain {w X w' : World} (h : Below w.heap.size w X) (hb : Below X.heap.size X w') : Below w.heap.size w w' := h.trans (hb.mono h.size)

section
variable (init thr mx dec x T T0 T2 M K A : Nat) (r n n2 : Int)

theorem skip1 (w : World) (F1 : FinC x false) : Law init thr mx dec r x n n2 w := by
  go_enter Try.func4, Try.ntmps4
  go_wp2_with fail
  refine (F1 _).mono ?_
  rintro e w1 ⟨rfl, hb1⟩
  have HB : Hid (Below w.heap.size w w1) := hb1
  clear hb1
  go_wp2
  go_ret
  exact ⟨rfl, HB.out⟩

theorem skip2 (w : World) (F1 : FinC x true) (h0 : (FloatKind.f64.format.order x 0 == some Ordering.lt) = true) : Law init thr mx dec r x n n2 w := by
  go_enter Try.func4, Try.ntmps4
  go_wp2_with fail
  refine (F1 _).mono ?_
  rintro e w1 ⟨rfl, hb1⟩
  have HB : Hid (Below w.heap.size w w1) := hb1
  clear hb1
  go_wp2
  go_ret
  exact ⟨rfl, HB.out⟩

theorem skip3 (w : World) (F1 : FinC x true) (h0 : (FloatKind.f64.format.order x 0 == some Ordering.lt) = false) (F2 : FinC dec false) : Law init thr mx dec r x n n2 w := by
  go_enter Try.func4, Try.ntmps4
  go_wp2_with fail
  refine (F1 _).mono ?_
  rintro e w1 ⟨rfl, hb1⟩
  go_wp2_with fail
  refine (F2 _).mono ?_
  rintro e w2 ⟨rfl, hb2⟩
  have HB : Hid (Below w.heap.size w w2) := chain hb1 hb2
  clear hb1 hb2
  go_wp2
  go_ret
  exact ⟨rfl, HB.out⟩

set_option maxRecDepth 20000 in
set_option maxHeartbeats 2000000 in
theorem core_gt (w : World) (hn : ¬ n ≤ n2) (F1 : FinC x true) (h0 : (FloatKind.f64.format.order x 0 == some Ordering.lt) = false) (F2 : FinC dec true)
    (Z : ZzT init thr mx dec r x n T) (Z0 : ZzT init thr mx dec r x 0 T0) (Z2 : ZzT init thr mx dec r x n2 T2)
    (mM : ∀ W, (Builtin.max_ #[22, 22] 22 #[.float .f64 (floatOfInt .f64 n), .float .f64 T0]).run Try.prog W = .ok (.float .f64 M) W)
    (mK : ∀ W, (Builtin.min_ #[22, 22] 22 #[.float .f64 A, .float .f64 M]).run Try.prog W = .ok (.float .f64 K) W)
    (mA : ∀ W, (binOp .mul 22 (.float .f64 x) (.float .f64 dec)).run Try.prog W = .ok (.float .f64 A) W)
    (oT : FloatKind.f64.format.order T K = some Ordering.eq) : Law init thr mx dec r x n n2 w := by
  go_enter Try.func4, Try.ntmps4
  go_wp2_with fail
  refine (F1 _).mono ?_
  rintro e w1 ⟨rfl, hb1⟩
  go_wp2_with fail
  refine (F2 _).mono ?_
  rintro e w2 ⟨rfl, hb2⟩
  have HB2 : Hid (Below w.heap.size w w2) := chain hb1 hb2
  clear hb1 hb2
  go_wp2_with fail
  refine (Z _).mono ?_
  rintro e w3 ⟨p3, rfl, hb3⟩
  have HB3 : Hid (Below w.heap.size w w3) := chain HB2.out hb3
  clear hb3 HB2
  go_wp2_with fail
  refine (Z0 _).mono ?_
  rintro e w4 ⟨p4, rfl, hb4⟩
  have HB4 : Hid (Below w.heap.size w w4) := chain HB3.out hb4
  clear hb4 HB3
  go_wp2_with fail
  refine (Z2 _).mono ?_
  rintro e w5 ⟨p5, rfl, hb5⟩
  have HB5 : Hid (Below w.heap.size w w5) := chain HB4.out hb5
  clear hb5 HB4
  go_wp2
  go_ret
  exact ⟨rfl, HB5.out⟩

set_option maxRecDepth 20000 in
set_option maxHeartbeats 2000000 in
theorem core_le (w : World) (hn : n ≤ n2) (F1 : FinC x true) (h0 : (FloatKind.f64.format.order x 0 == some Ordering.lt) = false) (F2 : FinC dec true)
    (Z : ZzT init thr mx dec r x n T) (Z0 : ZzT init thr mx dec r x 0 T0) (Z2 : ZzT init thr mx dec r x n2 T2)
    (mM : ∀ W, (Builtin.max_ #[22, 22] 22 #[.float .f64 (floatOfInt .f64 n), .float .f64 T0]).run Try.prog W = .ok (.float .f64 M) W)
    (mK : ∀ W, (Builtin.min_ #[22, 22] 22 #[.float .f64 A, .float .f64 M]).run Try.prog W = .ok (.float .f64 K) W)
    (mA : ∀ W, (binOp .mul 22 (.float .f64 x) (.float .f64 dec)).run Try.prog W = .ok (.float .f64 A) W)
    (oT : FloatKind.f64.format.order T K = some Ordering.eq)
    (oL : (FloatKind.f64.format.order T T2 == some Ordering.lt || FloatKind.f64.format.order T T2 == some Ordering.eq) = true) : Law init thr mx dec r x n n2 w := by
  go_enter Try.func4, Try.ntmps4
  go_wp2_with fail
  refine (F1 _).mono ?_
  rintro e w1 ⟨rfl, hb1⟩
  go_wp2_with fail
  refine (F2 _).mono ?_
  rintro e w2 ⟨rfl, hb2⟩
  have HB2 : Hid (Below w.heap.size w w2) := chain hb1 hb2
  clear hb1 hb2
  go_wp2_with fail
  refine (Z _).mono ?_
  rintro e w3 ⟨p3, rfl, hb3⟩
  have HB3 : Hid (Below w.heap.size w w3) := chain HB2.out hb3
  clear hb3 HB2
  go_wp2_with fail
  refine (Z0 _).mono ?_
  rintro e w4 ⟨p4, rfl, hb4⟩
  have HB4 : Hid (Below w.heap.size w w4) := chain HB3.out hb4
  clear hb4 HB3
  go_wp2_with fail
  refine (Z2 _).mono ?_
  rintro e w5 ⟨p5, rfl, hb5⟩
  have HB5 : Hid (Below w.heap.size w w5) := chain HB4.out hb5
  clear hb5 HB4
  go_wp2
  go_ret
  exact ⟨rfl, HB5.out⟩

end

theorem walk (init thr mx dec : Nat) (r : Int) (x : Nat) (n n2 : Int) (w : World) : Law init thr mx dec r x n n2 w := by
  by_cases hx : IsNum x
  · have F1 : FinC x true := fun w => fin_yes x hx w
    have nx := num_nn hx
    cases hlt : (FloatKind.f64.format.order x 0 == some Ordering.lt)
    · by_cases hd : IsNum dec
      · have F2 : FinC dec true := fun w => fin_yes dec hd w
        obtain ⟨A, eA, nA⟩ := mul_num hx hd
        obtain ⟨h, eh, nh, hh⟩ := half_num hx
        have hx0 : ¬ Lt x 0 := by
          rcases order_key x 0 nx nn_zero with ⟨e, _⟩ | ⟨_, k⟩ | ⟨_, k⟩
          · rw [fmt64, e] at hlt; cases hlt
          · unfold Eq' at k; unfold Lt; omega
          · unfold Lt at *; omega
        have zt : ∀ k : Int, ZzT init thr mx dec r x k (thresh A h k) := fun k w => (zz_any init thr mx dec x A h k r eA nA eh nh w).mono fun e w' ⟨t, he, _, hb⟩ => ⟨t, he, hb⟩
        have nT : ∀ k : Int, NN (thresh A h k) := fun k => fmin_nn _ _ nA (fmax_nn _ _ (ofInt_nn k) nh)
        have oT := clamp A h n nA nh (hh hx0)
        have mM : ∀ W, (Builtin.max_ #[22, 22] 22 #[.float .f64 (floatOfInt .f64 n), .float .f64 (thresh A h 0)]).run Try.prog W = .ok (.float .f64 (fmax (ofInt n) (thresh A h 0))) W := fun W => run_max _ _ (ofInt n) _ (ofInt_nn n) (nT 0) W
        have mK : ∀ W, (Builtin.min_ #[22, 22] 22 #[.float .f64 A, .float .f64 (fmax (ofInt n) (thresh A h 0))]).run Try.prog W = .ok (.float .f64 (fmin A (fmax (ofInt n) (thresh A h 0)))) W := fun W => run_min _ _ _ _ nA (fmax_nn _ _ (ofInt_nn n) (nT 0)) W
        by_cases hn : n ≤ n2
        · exact core_le init thr mx dec x _ _ _ _ _ A r n n2 w hn F1 hlt F2 (zt n) (zt 0) (zt n2) mM mK (fun W => run_float_arith W .mul 22 .f64 x dec A eA) oT (grows A h n n2 hn nA nh)
        · exact core_gt init thr mx dec x _ _ _ _ _ A r n n2 w hn F1 hlt F2 (zt n) (zt 0) (zt n2) mM mK (fun W => run_float_arith W .mul 22 .f64 x dec A eA) oT
      · exact skip3 init thr mx dec x r n n2 w F1 hlt (fun w => fin_no dec hd w)
    · exact skip2 init thr mx dec x r n n2 w F1 hlt
  · exact skip1 init thr mx dec x r n n2 w (fun w => fin_no x hx w)

/-! ### THE ROW's STEP -/
open Go.ChangeShapes Go.WideShapes Go.ChangeAt
theorem own : ownKnob Try.prog.godebug = none := by kernel_rfl

set_option maxRecDepth 100000 in
theorem lifted (os : Os) (started : os.Started) (H : Type) (enc : TypeId × Value → H) :
    ReturnsInHanded {} Try.checked os 4 .any (Rows.fnLowerCountClampSpec.pre6 enc Try.prog Try.f4 Rows.fnLowerCountClampRow.domain false) (Rows.fnLowerCountClampSpec.post enc Try.prog Try.f4 false true false false) := by
  refine returnsInHanded_of_change (C := Try.checked) own started (by kernel_rfl) Try.func4
    (ChangeSpec.witness6 (enc := enc) (C := Try.checked) false ⟨#[], #[.float .f64 0, .float .f64 0, .float .f64 0, .float .f64 0, .int .i64 0, .float .f64 0, .int .i64 0, .int .i64 0], []⟩ 8 (by kernel_rfl) (by kernel_rfl) (by kernel_rfl) (by kernel_rfl)) ?_
  intro W base args ds gs before hval0 hW hcnd _
  have hval : ∀ (j : Nat) t v, Try.f4.params[j]? = some t → args[j]? = some v → Value.okWide Try.prog W .any base t v := hval0
  have hW' := hW
  obtain ⟨p, q, hA0, hV, rfl, hfz, hnd⟩ := hW
  have hA : DataW.TrodAll enc Try.prog W 0 (fun _ => true) true Try.f4.params.toList args.toList ds p := hA0
  rw [Try.params4] at hA hval
  obtain ⟨v0, vs0, d0, ds0, p0, q0, hargs, rfl, rfl, h0, r0⟩ := trodAll_cons hA
  obtain ⟨v1, vs1, d1, ds1, p1, q1, rfl, rfl, rfl, h1, r1⟩ := trodAll_cons r0
  obtain ⟨v2, vs2, d2, ds2, p2, q2, rfl, rfl, rfl, h2, r2⟩ := trodAll_cons r1
  obtain ⟨v3, vs3, d3, ds3, p3, q3, rfl, rfl, rfl, h3, r3⟩ := trodAll_cons r2
  obtain ⟨v4, vs4, d4, ds4, p4, q4, rfl, rfl, rfl, h4, r4⟩ := trodAll_cons r3
  obtain ⟨v5, vs5, d5, ds5, p5, q5, rfl, rfl, rfl, h5, r5⟩ := trodAll_cons r4
  obtain ⟨v6, vs6, d6, ds6, p6, q6, rfl, rfl, rfl, h6, r6⟩ := trodAll_cons r5
  obtain ⟨v7, vs7, d7, ds7, p7, q7, rfl, rfl, rfl, h7, r7⟩ := trodAll_cons r6
  obtain ⟨rfl, rfl, rfl⟩ := trodAll_nil r7
  obtain rfl : args = #[v0, v1, v2, v3, v4, v5, v6, v7] := by cases args; simp_all
  obtain ⟨rfl, rfl⟩ := trodVars_none hV
  obtain ⟨a0, rfl, rfl, rfl, w0⟩ := open_float Try.underlying22 (hval 0 22 v0 rfl rfl) h0
  obtain ⟨a1, rfl, rfl, rfl, w1⟩ := open_float Try.underlying22 (hval 1 22 v1 rfl rfl) h1
  obtain ⟨a2, rfl, rfl, rfl, w2⟩ := open_float Try.underlying22 (hval 2 22 v2 rfl rfl) h2
  obtain ⟨a3, rfl, rfl, rfl, w3⟩ := open_float Try.underlying22 (hval 3 22 v3 rfl rfl) h3
  obtain ⟨a4, rfl, rfl, rfl, w4⟩ := open_int Try.underlying3 (hval 4 3 v4 rfl rfl) h4
  obtain ⟨a5, rfl, rfl, rfl, w5⟩ := open_float Try.underlying22 (hval 5 22 v5 rfl rfl) h5
  obtain ⟨a6, rfl, rfl, rfl, w6⟩ := open_int Try.underlying3 (hval 6 3 v6 rfl rfl) h6
  obtain ⟨a7, rfl, rfl, rfl, w7⟩ := open_int Try.underlying3 (hval 7 3 v7 rfl rfl) h7
  clear hA0 hval0
  refine (walk a0 a1 a2 a3 a4 a5 a6 a7 W).mono fun e W' ⟨he, bel⟩ => ?_
  subst he
  exact ⟨_, rfl, _, _, _, [], _, [], hW', trodAll_mk1 (shut_bool Try.underlying4 _), (trodAll_cons_mk (shut_float Try.underlying22 w0) (trodAll_cons_mk (shut_float Try.underlying22 w1) (trodAll_cons_mk (shut_float Try.underlying22 w2) (trodAll_cons_mk (shut_float Try.underlying22 w3) (trodAll_cons_mk (shut_int Try.underlying3 w4) (trodAll_cons_mk (shut_float Try.underlying22 w5) (trodAll_cons_mk (shut_int Try.underlying3 w6) (trodAll_cons_mk (shut_int Try.underlying3 w7) trodAll_mk0)))))))), rfl, bel.frame _, fun h => by cases h⟩

theorem over : Rows.fnLowerCountClampRow.holds Try.pinned (OpenSpec.ofChange Rows.fnLowerCountClampSpec) :=
  OpenClaim.holds_of_wide 4 Try.f4 rfl rfl rfl rfl rfl rfl rfl ⟨rfl, rfl, rfl, rfl, rfl⟩ rfl rfl rfl rfl rfl (by kernel_rfl) Try.func4 (by kernel_rfl)
    (of_decide_eq_true (by kernel_rfl)) (by unfold Func.isWrapper; first | (rw [if_pos (by decide +kernel)]; kernel_rfl) | (rw [if_neg (by decide +kernel)]; exact ⟨rfl, rfl⟩))
    (fun os started H enc _ => lifted os started H enc)

/-- THE STATEMENT -/
theorem proved : Rows.FnLowerCountClampSaid :=
  over
end Go.Proofs.Qxb6626440a.countClamp
