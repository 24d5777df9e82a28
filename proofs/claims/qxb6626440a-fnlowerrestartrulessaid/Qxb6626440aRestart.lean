/-
  'Rows.FnLowerRestartRulesSaid', PROVED.
-/
import Derived.Test.Qxb6626440aLower
import Derived.ProofKit
import Derived.OpenShut
import Derived.ChangeOld
import Derived.Below
namespace Go.Proofs.Qxb6626440a.restartRules
open Go.RowKit
open Go.Proofs.Qxb6626440a.Ord

abbrev Law (init thr mx dec : Nat) (r : Int) (x : Nat) (n : Int) (x2 : Nat) (n2 : Int) (w : World) : Prop :=
  Calls Try.prog 3 #[.float .f64 init, .float .f64 thr, .float .f64 mx, .float .f64 dec, .int .i64 r, .float .f64 x, .int .i64 n, .float .f64 x2, .int .i64 n2] w fun e w' => e = .returned (.bool true) ∧ Below w.heap.size w w'
def FinC (x : Nat) (b : Bool) : Prop := ∀ w : World, Calls Try.prog 5 #[.float .f64 x] w fun e w' => e = .returned (.bool b) ∧ Below w.heap.size w w'
def ZzC (init thr mx dec : Nat) (r : Int) (x : Nat) (n : Int) (p t : Nat) : Prop := ∀ w : World, Calls Try.prog 6 #[.float .f64 init, .float .f64 thr, .float .f64 mx, .float .f64 dec, .int .i64 r, .float .f64 x, .int .i64 n] w fun e w' => e = .returned (.tuple #[.float .f64 p, .float .f64 t]) ∧ Below w.heap.size w w'
def ZzE (init thr mx dec : Nat) (r : Int) (x : Nat) (n : Int) (p : Nat) : Prop := ∀ w : World, Calls Try.prog 6 #[.float .f64 init, .float .f64 thr, .float .f64 mx, .float .f64 dec, .int .i64 r, .float .f64 x, .int .i64 n] w fun e w' => ∃ t, e = .returned (.tuple #[.float .f64 p, .float .f64 t]) ∧ Below w.heap.size w w'

theorem chain {w X w' : World} (h : Below w.heap.size w X) (hb : Below X.heap.size X w') : Below w.heap.size w w' := h.trans (hb.mono h.size)

section
variable (init thr mx dec x x2 T P I A : Nat) (r n n2 : Int)

theorem skip1 (w : World) (F1 : FinC x false) : Law init thr mx dec r x n x2 n2 w := by
  go_enter Try.func3, Try.ntmps3
  go_wp2_with fail
  refine (F1 _).mono ?_
  rintro e w1 ⟨rfl, hb1⟩
  have HB : Hid (Below w.heap.size w w1) := hb1
  clear hb1
  go_wp2
  go_ret
  exact ⟨rfl, HB.out⟩

theorem skip2 (w : World) (F1 : FinC x true) (F2 : FinC dec false) : Law init thr mx dec r x n x2 n2 w := by
  go_enter Try.func3, Try.ntmps3
  go_wp2_with fail
  refine (F1 _).mono ?_
  rintro e w1 ⟨rfl, hb1⟩
  go_wp2_with fail
  refine (F2 _).mono ?_
  rintro e w2 ⟨rfl, hb2⟩
  have HB : Hid (Below w.heap.size w w2) := chain hb1 hb2
  clear hb1 hb2
  go_wp2
  go_ret
  exact ⟨rfl, HB.out⟩

theorem skip3 (w : World) (F1 : FinC x true) (F2 : FinC dec true) (hi : (FloatKind.f64.format.order init init != some Ordering.eq) = true) : Law init thr mx dec r x n x2 n2 w := by
  go_enter Try.func3, Try.ntmps3
  go_wp2_with fail
  refine (F1 _).mono ?_
  rintro e w1 ⟨rfl, hb1⟩
  go_wp2_with fail
  refine (F2 _).mono ?_
  rintro e w2 ⟨rfl, hb2⟩
  have HB : Hid (Below w.heap.size w w2) := chain hb1 hb2
  clear hb1 hb2
  go_wp2
  go_ret
  exact ⟨rfl, HB.out⟩

set_option maxRecDepth 20000 in
set_option maxHeartbeats 2000000 in
theorem core0 (w : World) (hr : (r == 1) = false) (F1 : FinC x true) (F2 : FinC dec true) (hi : FloatKind.f64.format.order init init = some Ordering.eq)
    (Z0 : ZzC init thr mx dec 0 x n P T) (Z1 : ZzC init thr mx dec 1 x n I T) (ZG : ZzC init thr mx dec r x n P T) (Z2 : ZzE init thr mx dec 1 x2 n2 I)
    (mI : ∀ W, (Builtin.max_ #[22, 22] 22 #[.float .f64 init, .float .f64 4607182418800017408]).run Try.prog W = .ok (.float .f64 I) W)
    (mP : ∀ W, (Builtin.max_ #[22, 22] 22 #[.float .f64 T, .float .f64 4607182418800017408]).run Try.prog W = .ok (.float .f64 P) W)
    (mA : ∀ W, (binOp .mul 22 (.float .f64 x) (.float .f64 dec)).run Try.prog W = .ok (.float .f64 A) W)
    (oT : FloatKind.f64.format.order T T = some Ordering.eq) (oP : FloatKind.f64.format.order P P = some Ordering.eq) (oI : FloatKind.f64.format.order I I = some Ordering.eq)
    (oA : (FloatKind.f64.format.order T A == some Ordering.lt || FloatKind.f64.format.order T A == some Ordering.eq) = true) : Law init thr mx dec r x n x2 n2 w := by
  go_enter Try.func3, Try.ntmps3
  go_wp2_with fail
  refine (F1 _).mono ?_
  rintro e w1 ⟨rfl, hb1⟩
  go_wp2_with fail
  refine (F2 _).mono ?_
  rintro e w2 ⟨rfl, hb2⟩
  have HB2 : Hid (Below w.heap.size w w2) := chain hb1 hb2
  clear hb1 hb2
  go_wp2_with fail
  refine (Z0 _).mono ?_
  rintro e w3 ⟨rfl, hb3⟩
  have HB3 : Hid (Below w.heap.size w w3) := chain HB2.out hb3
  clear hb3 HB2
  go_wp2_with fail
  refine (Z1 _).mono ?_
  rintro e w4 ⟨rfl, hb4⟩
  have HB4 : Hid (Below w.heap.size w w4) := chain HB3.out hb4
  clear hb4 HB3
  go_wp2_with fail
  refine (ZG _).mono ?_
  rintro e w5 ⟨rfl, hb5⟩
  have HB5 : Hid (Below w.heap.size w w5) := chain HB4.out hb5
  clear hb5 HB4
  go_wp2_with fail
  refine (Z2 _).mono ?_
  rintro e w6 ⟨t, rfl, hb6⟩
  have HB6 : Hid (Below w.heap.size w w6) := chain HB5.out hb6
  clear hb6 HB5
  go_wp2
  go_ret
  exact ⟨rfl, HB6.out⟩

set_option maxRecDepth 20000 in
set_option maxHeartbeats 2000000 in
theorem core1 (w : World)  (F1 : FinC x true) (F2 : FinC dec true) (hi : FloatKind.f64.format.order init init = some Ordering.eq)
    (Z0 : ZzC init thr mx dec 0 x n P T) (Z1 : ZzC init thr mx dec 1 x n I T) (Z2 : ZzE init thr mx dec 1 x2 n2 I)
    (mI : ∀ W, (Builtin.max_ #[22, 22] 22 #[.float .f64 init, .float .f64 4607182418800017408]).run Try.prog W = .ok (.float .f64 I) W)
    (mP : ∀ W, (Builtin.max_ #[22, 22] 22 #[.float .f64 T, .float .f64 4607182418800017408]).run Try.prog W = .ok (.float .f64 P) W)
    (mA : ∀ W, (binOp .mul 22 (.float .f64 x) (.float .f64 dec)).run Try.prog W = .ok (.float .f64 A) W)
    (oT : FloatKind.f64.format.order T T = some Ordering.eq) (oP : FloatKind.f64.format.order P P = some Ordering.eq) (oI : FloatKind.f64.format.order I I = some Ordering.eq)
    (oA : (FloatKind.f64.format.order T A == some Ordering.lt || FloatKind.f64.format.order T A == some Ordering.eq) = true) : Law init thr mx dec 1 x n x2 n2 w := by
  go_enter Try.func3, Try.ntmps3
  go_wp2_with fail
  refine (F1 _).mono ?_
  rintro e w1 ⟨rfl, hb1⟩
  go_wp2_with fail
  refine (F2 _).mono ?_
  rintro e w2 ⟨rfl, hb2⟩
  have HB2 : Hid (Below w.heap.size w w2) := chain hb1 hb2
  clear hb1 hb2
  go_wp2_with fail
  refine (Z0 _).mono ?_
  rintro e w3 ⟨rfl, hb3⟩
  have HB3 : Hid (Below w.heap.size w w3) := chain HB2.out hb3
  clear hb3 HB2
  go_wp2_with fail
  refine (Z1 _).mono ?_
  rintro e w4 ⟨rfl, hb4⟩
  have HB4 : Hid (Below w.heap.size w w4) := chain HB3.out hb4
  clear hb4 HB3
  go_wp2_with fail
  refine (Z1 _).mono ?_
  rintro e w5 ⟨rfl, hb5⟩
  have HB5 : Hid (Below w.heap.size w w5) := chain HB4.out hb5
  clear hb5 HB4
  go_wp2_with fail
  refine (Z2 _).mono ?_
  rintro e w6 ⟨t, rfl, hb6⟩
  have HB6 : Hid (Below w.heap.size w w6) := chain HB5.out hb6
  clear hb6 HB5
  go_wp2
  go_ret
  exact ⟨rfl, HB6.out⟩

end

theorem walk (init thr mx dec : Nat) (r : Int) (x : Nat) (n : Int) (x2 : Nat) (n2 : Int) (w : World) : Law init thr mx dec r x n x2 n2 w := by
  by_cases hx : IsNum x
  · have F1 : FinC x true := fun w => fin_yes x hx w
    by_cases hd : IsNum dec
    · have F2 : FinC dec true := fun w => fin_yes dec hd w
      by_cases hi : NN init
      · obtain ⟨A, eA, nA⟩ := mul_num hx hd
        obtain ⟨h, eh, nh, _⟩ := half_num hx
        have nT : NN (thresh A h n) := fmin_nn _ _ nA (fmax_nn _ _ (ofInt_nn n) nh)
        have nP : NN (fmax (thresh A h n) one) := fmax_nn _ _ nT nn_one
        have nI : NN (fmax init one) := fmax_nn _ _ hi nn_one
        have Z0 : ZzC init thr mx dec 0 x n (fmax (thresh A h n) one) (thresh A h n) := fun w => zz_reno init thr mx dec x A h n 0 rfl eA nA eh nh w
        have Z1 : ZzC init thr mx dec 1 x n (fmax init one) (thresh A h n) := fun w => (zz_tahoe_thr init thr mx dec x A h n eA nA eh nh w).mono fun e w' ⟨t, he, ht, hb⟩ => ⟨by rw [he, ht hi], hb⟩
        have Z2 : ZzE init thr mx dec 1 x2 n2 (fmax init one) := fun w => zz_tahoe init thr mx dec x2 n2 hi w
        have oA : (Ieee.double.order (thresh A h n) A == some Ordering.lt || Ieee.double.order (thresh A h n) A == some Ordering.eq) = true := by
          refine order_le nT nA ?_
          unfold thresh
          rcases fmin_key A (fmax (ofInt n) h) nA (fmax_nn _ _ (ofInt_nn n) nh) with ⟨e, k⟩ | ⟨e, k⟩ <;> rw [e] <;> unfold Lt at * <;> omega
        by_cases hr : r = 1
        · subst hr
          exact core1 init thr mx dec x x2 _ _ _ A n n2 w F1 F2 (order_self hi) Z0 Z1 Z2 (fun W => run_max _ _ init one hi nn_one W) (fun W => run_max _ _ _ one nT nn_one W) (fun W => run_float_arith W .mul 22 .f64 x dec A eA) (order_self nT) (order_self nP) (order_self nI) oA
        · have ZG : ZzC init thr mx dec r x n (fmax (thresh A h n) one) (thresh A h n) := fun w => zz_reno init thr mx dec x A h n r (beq_false_of_ne hr) eA nA eh nh w
          exact core0 init thr mx dec x x2 _ _ _ A r n n2 w (beq_false_of_ne hr) F1 F2 (order_self hi) Z0 Z1 ZG Z2 (fun W => run_max _ _ init one hi nn_one W) (fun W => run_max _ _ _ one nT nn_one W) (fun W => run_float_arith W .mul 22 .f64 x dec A eA) (order_self nT) (order_self nP) (order_self nI) oA
      · exact skip3 init thr mx dec x x2 r n n2 w F1 F2 (by rw [fmt64, order_nan (.inl hi)]; rfl)
    · exact skip2 init thr mx dec x x2 r n n2 w F1 (fun w => fin_no dec hd w)
  · exact skip1 init thr mx dec x x2 r n n2 w (fun w => fin_no x hx w)

/-! ### THE ROW's STEP -/
open Go.ChangeShapes Go.WideShapes Go.ChangeAt
theorem own : ownKnob Try.prog.godebug = none := by kernel_rfl

set_option maxRecDepth 100000 in
theorem lifted (os : Os) (started : os.Started) (H : Type) (enc : TypeId × Value → H) :
    ReturnsInHanded {} Try.checked os 3 .any (Rows.fnLowerRestartRulesSpec.pre6 enc Try.prog Try.f3 Rows.fnLowerRestartRulesRow.domain false) (Rows.fnLowerRestartRulesSpec.post enc Try.prog Try.f3 false true false false) := by
  refine returnsInHanded_of_change (C := Try.checked) own started (by kernel_rfl) Try.func3
    (ChangeSpec.witness6 (enc := enc) (C := Try.checked) false ⟨#[], #[.float .f64 0, .float .f64 0, .float .f64 0, .float .f64 0, .int .i64 0, .float .f64 0, .int .i64 0, .float .f64 0, .int .i64 0], []⟩ 8 (by kernel_rfl) (by kernel_rfl) (by kernel_rfl) (by kernel_rfl)) ?_
  intro W base args ds gs before hval0 hW hcnd _
  have hval : ∀ (j : Nat) t v, Try.f3.params[j]? = some t → args[j]? = some v → Value.okWide Try.prog W .any base t v := hval0
  have hW' := hW
  obtain ⟨p, q, hA0, hV, rfl, hfz, hnd⟩ := hW
  have hA : DataW.TrodAll enc Try.prog W 0 (fun _ => true) true Try.f3.params.toList args.toList ds p := hA0
  rw [Try.params3] at hA hval
  obtain ⟨v0, vs0, d0, ds0, p0, q0, hargs, rfl, rfl, h0, r0⟩ := trodAll_cons hA
  obtain ⟨v1, vs1, d1, ds1, p1, q1, rfl, rfl, rfl, h1, r1⟩ := trodAll_cons r0
  obtain ⟨v2, vs2, d2, ds2, p2, q2, rfl, rfl, rfl, h2, r2⟩ := trodAll_cons r1
  obtain ⟨v3, vs3, d3, ds3, p3, q3, rfl, rfl, rfl, h3, r3⟩ := trodAll_cons r2
  obtain ⟨v4, vs4, d4, ds4, p4, q4, rfl, rfl, rfl, h4, r4⟩ := trodAll_cons r3
  obtain ⟨v5, vs5, d5, ds5, p5, q5, rfl, rfl, rfl, h5, r5⟩ := trodAll_cons r4
  obtain ⟨v6, vs6, d6, ds6, p6, q6, rfl, rfl, rfl, h6, r6⟩ := trodAll_cons r5
  obtain ⟨v7, vs7, d7, ds7, p7, q7, rfl, rfl, rfl, h7, r7⟩ := trodAll_cons r6
  obtain ⟨v8, vs8, d8, ds8, p8, q8, rfl, rfl, rfl, h8, r8⟩ := trodAll_cons r7
  obtain ⟨rfl, rfl, rfl⟩ := trodAll_nil r8
  obtain rfl : args = #[v0, v1, v2, v3, v4, v5, v6, v7, v8] := by cases args; simp_all
  obtain ⟨rfl, rfl⟩ := trodVars_none hV
  obtain ⟨a0, rfl, rfl, rfl, w0⟩ := open_float Try.underlying22 (hval 0 22 v0 rfl rfl) h0
  obtain ⟨a1, rfl, rfl, rfl, w1⟩ := open_float Try.underlying22 (hval 1 22 v1 rfl rfl) h1
  obtain ⟨a2, rfl, rfl, rfl, w2⟩ := open_float Try.underlying22 (hval 2 22 v2 rfl rfl) h2
  obtain ⟨a3, rfl, rfl, rfl, w3⟩ := open_float Try.underlying22 (hval 3 22 v3 rfl rfl) h3
  obtain ⟨a4, rfl, rfl, rfl, w4⟩ := open_int Try.underlying3 (hval 4 3 v4 rfl rfl) h4
  obtain ⟨a5, rfl, rfl, rfl, w5⟩ := open_float Try.underlying22 (hval 5 22 v5 rfl rfl) h5
  obtain ⟨a6, rfl, rfl, rfl, w6⟩ := open_int Try.underlying3 (hval 6 3 v6 rfl rfl) h6
  obtain ⟨a7, rfl, rfl, rfl, w7⟩ := open_float Try.underlying22 (hval 7 22 v7 rfl rfl) h7
  obtain ⟨a8, rfl, rfl, rfl, w8⟩ := open_int Try.underlying3 (hval 8 3 v8 rfl rfl) h8
  clear hA0 hval0
  refine (walk a0 a1 a2 a3 a4 a5 a6 a7 a8 W).mono fun e W' ⟨he, bel⟩ => ?_
  subst he
  exact ⟨_, rfl, _, _, _, [], _, [], hW', trodAll_mk1 (shut_bool Try.underlying4 _), (trodAll_cons_mk (shut_float Try.underlying22 w0) (trodAll_cons_mk (shut_float Try.underlying22 w1) (trodAll_cons_mk (shut_float Try.underlying22 w2) (trodAll_cons_mk (shut_float Try.underlying22 w3) (trodAll_cons_mk (shut_int Try.underlying3 w4) (trodAll_cons_mk (shut_float Try.underlying22 w5) (trodAll_cons_mk (shut_int Try.underlying3 w6) (trodAll_cons_mk (shut_float Try.underlying22 w7) (trodAll_cons_mk (shut_int Try.underlying3 w8) trodAll_mk0))))))))), rfl, bel.frame _, fun h => by cases h⟩

theorem over : Rows.fnLowerRestartRulesRow.holds Try.pinned (OpenSpec.ofChange Rows.fnLowerRestartRulesSpec) :=
  OpenClaim.holds_of_wide 3 Try.f3 rfl rfl rfl rfl rfl rfl rfl ⟨rfl, rfl, rfl, rfl, rfl⟩ rfl rfl rfl rfl rfl (by kernel_rfl) Try.func3 (by kernel_rfl)
    (of_decide_eq_true (by kernel_rfl)) (by unfold Func.isWrapper; first | (rw [if_pos (by decide +kernel)]; kernel_rfl) | (rw [if_neg (by decide +kernel)]; exact ⟨rfl, rfl⟩))
    (fun os started H enc _ => lifted os started H enc)

/-- THE STATEMENT -/
theorem proved : Rows.FnLowerRestartRulesSaid :=
  over
end Go.Proofs.Qxb6626440a.restartRules
