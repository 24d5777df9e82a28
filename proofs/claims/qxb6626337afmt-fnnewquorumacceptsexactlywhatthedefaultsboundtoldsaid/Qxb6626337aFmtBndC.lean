/-
  'Rows.FnNewQuorumAcceptsExactlyWhatTheDefaultsBoundToldSaid', PROVED: the walks of the law (4).
-/
import Derived.Test.Qxb6626337aFmtBndA
import Derived.Deep.RegionWith
import Derived.Deep.QuietTactic
import Derived.BigQuiet
namespace Go.Proofs.Qxb6626337aFmt.bounds
open Go.RowKit Go.Extern.Stop Go.Stop Go.Extern
set_option linter.unusedVariables false

set_option maxRecDepth 20000 in
set_option maxHeartbeats 2000000 in
theorem c4 (n b W R : Int) (w : World) (h1 : n < 1) (hd : decide (1 ≤ n) = false) (hb : (b == 0) = false) (hb' : (b != 0) = true) (hw : (W != 0) = true) (C1 : BadC w n 0 b W b) (C2 : BadC w n 0 0 W R) (C3 : BadC w n W b W b) (X : ExC n W b false) : Law n 0 b w := by
  go_enter Tryf.func4, Tryf.ntmps4
  go_wp2_with fail
  refine (C1 _ rfl).mono ?_
  rintro e w1 ⟨a1, rfl, hb1⟩
  have HB1 : Hid (Below w.heap.size w w1) := hb1
  clear hb1
  go_wp2_with fail
  refine (C2 _ (by show w1.tape = w.tape; exact HB1.out.tape)).mono ?_
  rintro e w2 ⟨a2, rfl, hb2⟩
  obtain ⟨c1x, c1y, c1z, z1w2⟩ := three_kept hb2
  have HB2 : Hid (Below w.heap.size w w2) := chain (HB1.out.alloc HB1.out.size _) hb2
  clear hb2
  go_wp2_with fail
  refine (C3 _ (by show w2.tape = w.tape; exact HB2.out.tape)).mono ?_
  rintro e w3 ⟨a3, rfl, hb3⟩
  obtain ⟨c2x, c2y, c2z, z2w3⟩ := three_kept hb3
  have c1x := kept_more hb3 z1w2 c1x
  have c1y := kept_more hb3 z1w2 c1y
  have c1z := kept_more hb3 z1w2 c1z
  have z1w3 := size_more hb3 z1w2
  have HB3 : Hid (Below w.heap.size w w3) := chain (HB2.out.alloc HB2.out.size _) hb3
  clear hb3
  go_wp2_with fail
  go_quiet (fail)
  go_wp2_with fail
  go_region_with (go_at_call 6; refine (X _).mono ?_; rintro e wx ⟨rfl, hbx⟩)
  all_goals
    go_wp2
    go_ret
    exact ⟨rfl, chain (below_drewN (HB3.out.alloc HB3.out.size _) _).drew hbx⟩

set_option maxRecDepth 20000 in
set_option maxHeartbeats 2000000 in
theorem c5 (n b W R : Int) (w : World) (hn : n ≤ 1073741823) (h1 : 1 ≤ n) (hb : (b == 0) = false) (hb' : (b != 0) = true) (hw : (W != 0) = true) (C1 : BadC w n 0 b W b) (C2 : OkC n 0 0 W R) (C3 : BadC w n W b W b) (X : ExC n W b false) : Law n 0 b w := by
  go_enter Tryf.func4, Tryf.ntmps4
  go_wp2_with fail
  refine (C1 _ rfl).mono ?_
  rintro e w1 ⟨a1, rfl, hb1⟩
  have HB1 : Hid (Below w.heap.size w w1) := hb1
  clear hb1
  go_wp2_with fail
  refine (C2 _).mono ?_
  rintro e w2 ⟨rfl, hb2⟩
  obtain ⟨c1x, c1y, c1z, z1w2⟩ := three_kept hb2
  have HB2 : Hid (Below w.heap.size w w2) := chain (HB1.out.alloc HB1.out.size _) hb2
  clear hb2
  go_wp2_with fail
  refine (C3 _ (by show w2.tape = w.tape; exact HB2.out.tape)).mono ?_
  rintro e w3 ⟨a3, rfl, hb3⟩
  obtain ⟨c2x, c2y, c2z, z2w3⟩ := three_kept hb3
  have c1x := kept_more hb3 z1w2 c1x
  have c1y := kept_more hb3 z1w2 c1y
  have c1z := kept_more hb3 z1w2 c1z
  have z1w3 := size_more hb3 z1w2
  have HB3 : Hid (Below w.heap.size w w3) := chain (HB2.out.alloc HB2.out.size _) hb3
  clear hb3
  go_wp2_with fail
  go_quiet (fail)
  go_wp2_with fail
  go_region_with (go_at_call 6; refine (X _).mono ?_; rintro e wx ⟨rfl, hbx⟩)
  all_goals
    go_wp2
    go_ret
    exact ⟨rfl, chain (below_drewN (HB3.out.alloc HB3.out.size _) _).drew hbx⟩

set_option maxRecDepth 20000 in
set_option maxHeartbeats 2000000 in
theorem c6 (n b W R : Int) (w : World) (hn : n ≤ 1073741823) (h1 : 1 ≤ n) (hb : (b == 0) = false) (hb' : (b != 0) = true) (hw : (W != 0) = true) (C1 : OkC n 0 b W b) (C2 : OkC n 0 0 W R) (C3 : OkC n W b W b) (X : ExC n W b true) : Law n 0 b w := by
  go_enter Tryf.func4, Tryf.ntmps4
  go_wp2_with fail
  refine (C1 _).mono ?_
  rintro e w1 ⟨rfl, hb1⟩
  have HB1 : Hid (Below w.heap.size w w1) := hb1
  clear hb1
  go_wp2_with fail
  refine (C2 _).mono ?_
  rintro e w2 ⟨rfl, hb2⟩
  obtain ⟨c1x, c1y, c1z, z1w2⟩ := three_kept hb2
  have HB2 : Hid (Below w.heap.size w w2) := chain (HB1.out.alloc HB1.out.size _) hb2
  clear hb2
  go_wp2_with fail
  refine (C3 _).mono ?_
  rintro e w3 ⟨rfl, hb3⟩
  obtain ⟨c2x, c2y, c2z, z2w3⟩ := three_kept hb3
  have c1x := kept_more hb3 z1w2 c1x
  have c1y := kept_more hb3 z1w2 c1y
  have c1z := kept_more hb3 z1w2 c1z
  have z1w3 := size_more hb3 z1w2
  have HB3 : Hid (Below w.heap.size w w3) := chain (HB2.out.alloc HB2.out.size _) hb3
  clear hb3
  go_wp2_with fail
  go_quiet (fail)
  go_wp2_with fail
  go_region_with (go_at_call 6; refine (X _).mono ?_; rintro e wx ⟨rfl, hbx⟩)
  all_goals
    go_wp2
    go_ret
    exact ⟨rfl, chain (below_drewN (HB3.out.alloc HB3.out.size _) _).drew hbx⟩

end Go.Proofs.Qxb6626337aFmt.bounds
