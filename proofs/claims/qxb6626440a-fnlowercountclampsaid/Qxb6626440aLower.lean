/-
  SEAT b6626440a: WALKS: ZZlower (6), lower (7).
-/
import Derived.Test.Qxb6626440aWalks
namespace Go.Proofs.Qxb6626440a
open Go.RowKit
open Go.Proofs.Qxb6626440a.Ord

/-- 1.0 -/
def one : Nat := 4607182418800017408
theorem nn_one : NN one := by unfold NN; decide

set_option maxHeartbeats 400000 in
/-- No number need be finite: Tahoe's window. -/
theorem lower_tahoe (init thr mx dec x : Nat) (n : Int) (hi : NN init) (w : World) :
    Calls Try.prog 7 #[.agg #[.float .f64 init, .float .f64 thr, .float .f64 mx, .float .f64 dec, .int .i64 1], .float .f64 x, .int .i64 n] w
      fun e w' => ∃ t, e = .returned (.tuple #[.float .f64 (fmax init one), .float .f64 t]) ∧ Below w.heap.size w w' := by
  obtain ⟨X, hX⟩ : ∃ X, X = w.alloc (.cells #[.float .f64 init, .float .f64 thr, .float .f64 mx, .float .f64 dec, .int .i64 1] 30) := ⟨_, rfl⟩
  obtain ⟨r1, n1, a1⟩ := run_arith .mul (.inl rfl) 22 x dec X
  obtain ⟨r2, n2, a2⟩ := run_arith .quo (.inr (.inl rfl)) 22 x 4611686018427387904 (X.drewN n1)
  obtain ⟨r3, n3, a3⟩ := run_max_any #[22, 22] 22 (floatOfInt .f64 n) r2 ((X.drewN n1).drewN n2)
  obtain ⟨r4, n4, a4⟩ := run_min_any #[22, 22] 22 r1 r3 (((X.drewN n1).drewN n2).drewN n3)
  have a5 : ∀ W, (Builtin.max_ #[22, 22] 22 #[.float .f64 init, .float .f64 4607182418800017408]).run Try.prog W = .ok (.float .f64 (fmax init one)) W := fun W => run_max #[22, 22] 22 init one hi nn_one W
  simp only [World.drewN_drewN] at a2 a3 a4
  subst hX
  clear hi
  go_enter Try.func7, Try.ntmps7
  go_wp2
  go_ret2
  exact ⟨_, rfl, below_drewN ((Below.refl _ _).alloc (Nat.le_refl _) _) _⟩

/-- The threshold that a refusal sets. -/
def thresh (A h : Nat) (n : Int) : Nat := fmin A (fmax (ofInt n) h)

section
variable (init thr mx dec x A h : Nat) (n : Int)

set_option maxHeartbeats 400000 in
/-- Reno's window, and every restart value's but Tahoe's. -/
theorem lower_reno (r : Int) (hr : (r == 1) = false) (hA : Ieee.double.mul x dec = some A) (nA : NN A) (hh : Ieee.double.div x two = some h) (nh : NN h) (w : World) :
    Calls Try.prog 7 #[.agg #[.float .f64 init, .float .f64 thr, .float .f64 mx, .float .f64 dec, .int .i64 r], .float .f64 x, .int .i64 n] w
      fun e w' => e = .returned (.tuple #[.float .f64 (fmax (thresh A h n) one), .float .f64 (thresh A h n)]) ∧ Below w.heap.size w w' := by
  have a1 : ∀ W, (binOp .mul 22 (.float .f64 x) (.float .f64 dec)).run Try.prog W = .ok (.float .f64 A) W := fun W => run_float_arith W .mul 22 .f64 x dec A hA
  have a2 : ∀ W, (binOp .quo 22 (.float .f64 x) (.float .f64 4611686018427387904)).run Try.prog W = .ok (.float .f64 h) W := fun W => run_float_arith W .quo 22 .f64 x two h hh
  have a3 : ∀ W, (Builtin.max_ #[22, 22] 22 #[.float .f64 (floatOfInt .f64 n), .float .f64 h]).run Try.prog W = .ok (.float .f64 (fmax (ofInt n) h)) W := fun W => run_max #[22, 22] 22 (ofInt n) h (ofInt_nn n) nh W
  have a4 : ∀ W, (Builtin.min_ #[22, 22] 22 #[.float .f64 A, .float .f64 (fmax (ofInt n) h)]).run Try.prog W = .ok (.float .f64 (thresh A h n)) W := fun W => run_min #[22, 22] 22 A _ nA (fmax_nn _ _ (ofInt_nn n) nh) W
  have a5 : ∀ W, (Builtin.max_ #[22, 22] 22 #[.float .f64 (thresh A h n), .float .f64 4607182418800017408]).run Try.prog W = .ok (.float .f64 (fmax (thresh A h n) one)) W :=
    fun W => run_max #[22, 22] 22 _ one (fmin_nn _ _ nA (fmax_nn _ _ (ofInt_nn n) nh)) nn_one W
  clear hA nA hh nh
  go_enter Try.func7, Try.ntmps7
  go_wp2
  go_ret2
  exact ⟨rfl, (Below.refl _ _).alloc (Nat.le_refl _) _⟩

set_option maxHeartbeats 400000 in
/-- Tahoe's threshold, whatever Initial. -/
theorem lower_tahoe_thr (hA : Ieee.double.mul x dec = some A) (nA : NN A) (hh : Ieee.double.div x two = some h) (nh : NN h) (w : World) :
    Calls Try.prog 7 #[.agg #[.float .f64 init, .float .f64 thr, .float .f64 mx, .float .f64 dec, .int .i64 1], .float .f64 x, .int .i64 n] w
      fun e w' => ∃ t, e = .returned (.tuple #[.float .f64 t, .float .f64 (thresh A h n)]) ∧ (NN init → t = fmax init one) ∧ Below w.heap.size w w' := by
  have a1 : ∀ W, (binOp .mul 22 (.float .f64 x) (.float .f64 dec)).run Try.prog W = .ok (.float .f64 A) W := fun W => run_float_arith W .mul 22 .f64 x dec A hA
  have a2 : ∀ W, (binOp .quo 22 (.float .f64 x) (.float .f64 4611686018427387904)).run Try.prog W = .ok (.float .f64 h) W := fun W => run_float_arith W .quo 22 .f64 x two h hh
  have a3 : ∀ W, (Builtin.max_ #[22, 22] 22 #[.float .f64 (floatOfInt .f64 n), .float .f64 h]).run Try.prog W = .ok (.float .f64 (fmax (ofInt n) h)) W := fun W => run_max #[22, 22] 22 (ofInt n) h (ofInt_nn n) nh W
  have a4 : ∀ W, (Builtin.min_ #[22, 22] 22 #[.float .f64 A, .float .f64 (fmax (ofInt n) h)]).run Try.prog W = .ok (.float .f64 (thresh A h n)) W := fun W => run_min #[22, 22] 22 A _ nA (fmax_nn _ _ (ofInt_nn n) nh) W
  obtain ⟨t, k, a5⟩ := run_max_any #[22, 22] 22 init 4607182418800017408 (w.alloc (.cells #[.float .f64 init, .float .f64 thr, .float .f64 mx, .float .f64 dec, .int .i64 1] 30))
  have H5 : Hid (NN init → t = fmax init one) := fun hi => by
    have e := run_max #[22, 22] 22 init one hi nn_one (w.alloc (.cells #[.float .f64 init, .float .f64 thr, .float .f64 mx, .float .f64 dec, .int .i64 1] 30))
    unfold one at e
    rw [a5] at e
    injection e with e1 _
    injection e1
  clear hA nA hh nh
  go_enter Try.func7, Try.ntmps7
  go_wp2
  go_ret2
  exact ⟨_, rfl, H5.out, below_drewN ((Below.refl _ _).alloc (Nat.le_refl _) _) _⟩

/-! ### ZZlower hands on -/
theorem zz_tahoe (hi : NN init) (w : World) :
    Calls Try.prog 6 #[.float .f64 init, .float .f64 thr, .float .f64 mx, .float .f64 dec, .int .i64 1, .float .f64 x, .int .i64 n] w
      fun e w' => ∃ t, e = .returned (.tuple #[.float .f64 (fmax init one), .float .f64 t]) ∧ Below w.heap.size w w' := by
  have C : Hid (∀ w : World, Calls Try.prog 7 #[.agg #[.float .f64 init, .float .f64 thr, .float .f64 mx, .float .f64 dec, .int .i64 1], .float .f64 x, .int .i64 n] w
      fun e w' => ∃ t, e = .returned (.tuple #[.float .f64 (fmax init one), .float .f64 t]) ∧ Below w.heap.size w w') := fun w => lower_tahoe init thr mx dec x n hi w
  clear hi
  go_enter Try.func6, Try.ntmps6
  go_wp2_with fail
  refine (C.out _).mono ?_
  rintro e w1 ⟨t, rfl, hb⟩
  have HB : Hid (Below w.heap.size w w1) := hb
  clear hb
  go_wp2
  go_ret2
  exact ⟨_, rfl, HB.out⟩

theorem zz_reno (r : Int) (hr : (r == 1) = false) (hA : Ieee.double.mul x dec = some A) (nA : NN A) (hh : Ieee.double.div x two = some h) (nh : NN h) (w : World) :
    Calls Try.prog 6 #[.float .f64 init, .float .f64 thr, .float .f64 mx, .float .f64 dec, .int .i64 r, .float .f64 x, .int .i64 n] w
      fun e w' => e = .returned (.tuple #[.float .f64 (fmax (thresh A h n) one), .float .f64 (thresh A h n)]) ∧ Below w.heap.size w w' := by
  have C : Hid (∀ w : World, Calls Try.prog 7 #[.agg #[.float .f64 init, .float .f64 thr, .float .f64 mx, .float .f64 dec, .int .i64 r], .float .f64 x, .int .i64 n] w
      fun e w' => e = .returned (.tuple #[.float .f64 (fmax (thresh A h n) one), .float .f64 (thresh A h n)]) ∧ Below w.heap.size w w') := fun w => lower_reno init thr mx dec x A h n r hr hA nA hh nh w
  clear hr hA nA hh nh
  go_enter Try.func6, Try.ntmps6
  go_wp2_with fail
  refine (C.out _).mono ?_
  rintro e w1 ⟨rfl, hb⟩
  have HB : Hid (Below w.heap.size w w1) := hb
  clear hb
  go_wp2
  go_ret2
  exact ⟨rfl, HB.out⟩

theorem zz_tahoe_thr (hA : Ieee.double.mul x dec = some A) (nA : NN A) (hh : Ieee.double.div x two = some h) (nh : NN h) (w : World) :
    Calls Try.prog 6 #[.float .f64 init, .float .f64 thr, .float .f64 mx, .float .f64 dec, .int .i64 1, .float .f64 x, .int .i64 n] w
      fun e w' => ∃ t, e = .returned (.tuple #[.float .f64 t, .float .f64 (thresh A h n)]) ∧ (NN init → t = fmax init one) ∧ Below w.heap.size w w' := by
  have C : Hid (∀ w : World, Calls Try.prog 7 #[.agg #[.float .f64 init, .float .f64 thr, .float .f64 mx, .float .f64 dec, .int .i64 1], .float .f64 x, .int .i64 n] w
      fun e w' => ∃ t, e = .returned (.tuple #[.float .f64 t, .float .f64 (thresh A h n)]) ∧ (NN init → t = fmax init one) ∧ Below w.heap.size w w') := fun w => lower_tahoe_thr init thr mx dec x A h n hA nA hh nh w
  clear hA nA hh nh
  go_enter Try.func6, Try.ntmps6
  go_wp2_with fail
  refine (C.out _).mono ?_
  rintro e w1 ⟨t, rfl, ht, hb⟩
  have HB : Hid (Below w.heap.size w w1) := hb
  have HT : Hid (NN init → t = fmax init one) := ht
  clear hb ht
  go_wp2
  go_ret2
  exact ⟨_, rfl, HT.out, HB.out⟩

/-- Any restart value: the threshold. -/
theorem zz_any (r : Int) (hA : Ieee.double.mul x dec = some A) (nA : NN A) (hh : Ieee.double.div x two = some h) (nh : NN h) (w : World) :
    Calls Try.prog 6 #[.float .f64 init, .float .f64 thr, .float .f64 mx, .float .f64 dec, .int .i64 r, .float .f64 x, .int .i64 n] w
      fun e w' => ∃ t, e = .returned (.tuple #[.float .f64 t, .float .f64 (thresh A h n)]) ∧ (NN init → t = if r = 1 then fmax init one else fmax (thresh A h n) one) ∧ Below w.heap.size w w' := by
  by_cases hr : r = 1
  · subst hr
    refine (zz_tahoe_thr init thr mx dec x A h n hA nA hh nh w).mono ?_
    rintro e w' ⟨t, he, ht, hb⟩
    exact ⟨t, he, fun hi => by rw [if_pos rfl]; exact ht hi, hb⟩
  · refine (zz_reno init thr mx dec x A h n r (beq_false_of_ne hr) hA nA hh nh w).mono ?_
    rintro e w' ⟨he, hb⟩
    exact ⟨_, he, fun _ => by rw [if_neg hr], hb⟩
end
end Go.Proofs.Qxb6626440a
