/-
  'Rows.FnNewQuorumAcceptsExactlyWhatTheDefaultsBoundToldSaid', PROVED: the walks of the law (4).
-/
import Derived.Test.Qxb6626337aFmtBndA
import Derived.Deep.RegionWith
import Derived.Deep.QuietTactic
import Derived.BigQuiet
namespace Go.Proofs.Qxb6626337aFmt.bounds
open Go.RowKit Go.Extern.Stop Go.Stop Go.Extern
set_option linter.unusedVariables false

set_option maxRecDepth 20000 in
set_option maxHeartbeats 2000000 in
theorem d1 (n a R W0 R0 : Int) (w : World) (h1 : n < 1) (hd : decide (1 ≤ n) = false) (ha : (a == 0) = false) (ha' : (a != 0) = true) (C1 : BadC w n a 0 a R) (C2 : BadC w n 0 0 W0 R0) : Law n a 0 w := by
  go_enter Tryf.func4, Tryf.ntmps4
  go_wp2_with fail
  refine (C1 _ rfl).mono ?_
  rintro e w1 ⟨a1, rfl, hb1⟩
  have HB1 : Hid (Below w.heap.size w w1) := hb1
  clear hb1
  go_wp2_with fail
  refine (C2 _ (by show w1.tape = w.tape; exact HB1.out.tape)).mono ?_
  rintro e w2 ⟨a2, rfl, hb2⟩
  obtain ⟨c1x, c1y, c1z, z1w2⟩ := three_kept hb2
  have HB2 : Hid (Below w.heap.size w w2) := chain (HB1.out.alloc HB1.out.size _) hb2
  clear hb2
  go_wp2
  go_ret
  exact ⟨rfl, (HB2.out.alloc HB2.out.size _)⟩

set_option maxRecDepth 20000 in
set_option maxHeartbeats 2000000 in
theorem d2 (n a R W0 R0 : Int) (w : World) (hn : n ≤ 1073741823) (h1 : 1 ≤ n) (ha : (a == 0) = false) (ha' : (a != 0) = true) (h2 : a < W0) (hd : decide (W0 ≤ a) = false) (C1 : BadC w n a 0 a R) (C2 : OkC n 0 0 W0 R0) : Law n a 0 w := by
  go_enter Tryf.func4, Tryf.ntmps4
  go_wp2_with fail
  refine (C1 _ rfl).mono ?_
  rintro e w1 ⟨a1, rfl, hb1⟩
  have HB1 : Hid (Below w.heap.size w w1) := hb1
  clear hb1
  go_wp2_with fail
  refine (C2 _).mono ?_
  rintro e w2 ⟨rfl, hb2⟩
  obtain ⟨c1x, c1y, c1z, z1w2⟩ := three_kept hb2
  have HB2 : Hid (Below w.heap.size w w2) := chain (HB1.out.alloc HB1.out.size _) hb2
  clear hb2
  go_wp2
  go_ret
  exact ⟨rfl, (HB2.out.alloc HB2.out.size _)⟩

set_option maxRecDepth 20000 in
set_option maxHeartbeats 2000000 in
theorem d3 (n a R W0 R0 : Int) (w : World) (hn : n ≤ 1073741823) (h1 : 1 ≤ n) (ha : (a == 0) = false) (ha' : (a != 0) = true) (h2 : W0 ≤ a) (h3 : n < a) (hd : decide (a ≤ n) = false) (C1 : BadC w n a 0 a R) (C2 : OkC n 0 0 W0 R0) : Law n a 0 w := by
  go_enter Tryf.func4, Tryf.ntmps4
  go_wp2_with fail
  refine (C1 _ rfl).mono ?_
  rintro e w1 ⟨a1, rfl, hb1⟩
  have HB1 : Hid (Below w.heap.size w w1) := hb1
  clear hb1
  go_wp2_with fail
  refine (C2 _).mono ?_
  rintro e w2 ⟨rfl, hb2⟩
  obtain ⟨c1x, c1y, c1z, z1w2⟩ := three_kept hb2
  have HB2 : Hid (Below w.heap.size w w2) := chain (HB1.out.alloc HB1.out.size _) hb2
  clear hb2
  go_wp2
  go_ret
  exact ⟨rfl, (HB2.out.alloc HB2.out.size _)⟩

set_option maxRecDepth 20000 in
set_option maxHeartbeats 2000000 in
theorem d4 (n a R W0 R0 : Int) (w : World) (hn : n ≤ 1073741823) (h1 : 1 ≤ n) (ha : (a == 0) = false) (ha' : (a != 0) = true) (h2 : W0 ≤ a) (h3 : a ≤ n) (h4 : 1 ≤ R) (h5 : R ≤ n) (h6 : 1 < R) (C1 : OkC n a 0 a R) (C2 : OkC n 0 0 W0 R0) (C3 : OkC n a R a R) (C4 : BadC w n a (R - 1) a (R - 1)) : Law n a 0 w := by
  go_enter Tryf.func4, Tryf.ntmps4
  go_wp2_with fail
  refine (C1 _).mono ?_
  rintro e w1 ⟨rfl, hb1⟩
  have HB1 : Hid (Below w.heap.size w w1) := hb1
  clear hb1
  go_wp2_with fail
  refine (C2 _).mono ?_
  rintro e w2 ⟨rfl, hb2⟩
  obtain ⟨c1x, c1y, c1z, z1w2⟩ := three_kept hb2
  have HB2 : Hid (Below w.heap.size w w2) := chain (HB1.out.alloc HB1.out.size _) hb2
  clear hb2
  go_wp2_with fail
  refine (C3 _).mono ?_
  rintro e w3 ⟨rfl, hb3⟩
  obtain ⟨c2x, c2y, c2z, z2w3⟩ := three_kept hb3
  have c1x := kept_more hb3 z1w2 c1x
  have c1y := kept_more hb3 z1w2 c1y
  have c1z := kept_more hb3 z1w2 c1z
  have z1w3 := size_more hb3 z1w2
  have HB3 : Hid (Below w.heap.size w w3) := chain (HB2.out.alloc HB2.out.size _) hb3
  clear hb3
  go_wp2_with fail
  refine (C4 _ (by show w3.tape = w.tape; exact HB3.out.tape)).mono ?_
  rintro e w4 ⟨a4, rfl, hb4⟩
  obtain ⟨c3x, c3y, c3z, z3w4⟩ := three_kept hb4
  have c1x := kept_more hb4 z1w3 c1x
  have c1y := kept_more hb4 z1w3 c1y
  have c1z := kept_more hb4 z1w3 c1z
  have z1w4 := size_more hb4 z1w3
  have c2x := kept_more hb4 z2w3 c2x
  have c2y := kept_more hb4 z2w3 c2y
  have c2z := kept_more hb4 z2w3 c2z
  have z2w4 := size_more hb4 z2w3
  have HB4 : Hid (Below w.heap.size w w4) := chain (HB3.out.alloc HB3.out.size _) hb4
  clear hb4
  go_wp2
  go_ret
  exact ⟨rfl, (HB4.out.alloc HB4.out.size _)⟩

set_option maxRecDepth 20000 in
set_option maxHeartbeats 2000000 in
theorem d5 (n a R W0 R0 : Int) (w : World) (hn : n ≤ 1073741823) (h1 : 1 ≤ n) (ha : (a == 0) = false) (ha' : (a != 0) = true) (h2 : W0 ≤ a) (h3 : a ≤ n) (h4 : 1 ≤ R) (h5 : R ≤ n) (h6 : ¬ 1 < R) (C1 : OkC n a 0 a R) (C2 : OkC n 0 0 W0 R0) (C3 : OkC n a R a R) : Law n a 0 w := by
  go_enter Tryf.func4, Tryf.ntmps4
  go_wp2_with fail
  refine (C1 _).mono ?_
  rintro e w1 ⟨rfl, hb1⟩
  have HB1 : Hid (Below w.heap.size w w1) := hb1
  clear hb1
  go_wp2_with fail
  refine (C2 _).mono ?_
  rintro e w2 ⟨rfl, hb2⟩
  obtain ⟨c1x, c1y, c1z, z1w2⟩ := three_kept hb2
  have HB2 : Hid (Below w.heap.size w w2) := chain (HB1.out.alloc HB1.out.size _) hb2
  clear hb2
  go_wp2_with fail
  refine (C3 _).mono ?_
  rintro e w3 ⟨rfl, hb3⟩
  obtain ⟨c2x, c2y, c2z, z2w3⟩ := three_kept hb3
  have c1x := kept_more hb3 z1w2 c1x
  have c1y := kept_more hb3 z1w2 c1y
  have c1z := kept_more hb3 z1w2 c1z
  have z1w3 := size_more hb3 z1w2
  have HB3 : Hid (Below w.heap.size w w3) := chain (HB2.out.alloc HB2.out.size _) hb3
  clear hb3
  go_wp2
  go_ret
  exact ⟨rfl, (HB3.out.alloc HB3.out.size _)⟩

end Go.Proofs.Qxb6626337aFmt.bounds
