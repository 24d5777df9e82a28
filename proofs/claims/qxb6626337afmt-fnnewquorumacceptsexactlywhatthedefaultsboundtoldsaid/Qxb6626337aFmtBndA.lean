/-
  'Rows.FnNewQuorumAcceptsExactlyWhatTheDefaultsBoundToldSaid', PROVED: the walks of the law (4).
-/
import Derived.Test.Qxb6626337aFmtExplicit
import Derived.Deep.RegionWith
import Derived.Deep.QuietTactic
import Derived.BigQuiet
namespace Go.Proofs.Qxb6626337aFmt.bounds
open Go.RowKit Go.Extern.Stop Go.Stop Go.Extern
set_option linter.unusedVariables false

abbrev Law (n a b : Int) (w : World) : Prop := Calls Tryf.prog 4 #[.int .i64 n, .int .i64 a, .int .i64 b] w fun e w' => e = .returned (.bool true) ∧ Below w.heap.size w w'

set_option maxRecDepth 20000 in
theorem walk_big (n a b : Int) (w : World) (hn : 1073741823 < n) : Law n a b w := by
  go_enter Tryf.func4, Tryf.ntmps4
  go_wp2
  go_ret
  exact ⟨rfl, Below.refl _ _⟩

set_option maxRecDepth 20000 in
set_option maxHeartbeats 2000000 in
theorem b1 (n a b : Int) (w : World) (hn : n ≤ 1073741823) (h1 : 1 ≤ n) (ha : (a == 0) = false) (hb : (b == 0) = false) (ha' : (a != 0) = true) (hb' : (b != 0) = true) (C1 : OkC n a b a b) (X : ExC n a b true) : Law n a b w := by
  go_enter Tryf.func4, Tryf.ntmps4
  go_wp2_with fail
  refine (C1 _).mono ?_
  rintro e w1 ⟨rfl, hb1⟩
  have HB1 : Hid (Below w.heap.size w w1) := hb1
  clear hb1
  go_wp2_with fail
  go_region_with (go_at_call 6; refine (X _).mono ?_; rintro e wx ⟨rfl, hbx⟩)
  all_goals
    go_wp2
    go_ret
    exact ⟨rfl, chain (HB1.out.alloc HB1.out.size _).drew hbx⟩

set_option maxRecDepth 20000 in
set_option maxHeartbeats 2000000 in
theorem b2 (n a b : Int) (w : World) (h1 : n < 1) (ha : (a == 0) = false) (hb : (b == 0) = false) (ha' : (a != 0) = true) (hb' : (b != 0) = true) (C1 : BadC w n a b a b) (X : ExC n a b false) : Law n a b w := by
  go_enter Tryf.func4, Tryf.ntmps4
  go_wp2_with fail
  refine (C1 _ rfl).mono ?_
  rintro e w1 ⟨a1, rfl, hb1⟩
  have HB1 : Hid (Below w.heap.size w w1) := hb1
  clear hb1
  go_wp2_with fail
  go_region_with (go_at_call 6; refine (X _).mono ?_; rintro e wx ⟨rfl, hbx⟩)
  all_goals
    go_wp2
    go_ret
    exact ⟨rfl, chain (HB1.out.alloc HB1.out.size _).drew hbx⟩

set_option maxRecDepth 20000 in
set_option maxHeartbeats 2000000 in
theorem b3 (n a b : Int) (w : World) (hn : n ≤ 1073741823) (h1 : 1 ≤ n) (ha : (a == 0) = false) (hb : (b == 0) = false) (ha' : (a != 0) = true) (hb' : (b != 0) = true) (C1 : BadC w n a b a b) (X : ExC n a b false) : Law n a b w := by
  go_enter Tryf.func4, Tryf.ntmps4
  go_wp2_with fail
  refine (C1 _ rfl).mono ?_
  rintro e w1 ⟨a1, rfl, hb1⟩
  have HB1 : Hid (Below w.heap.size w w1) := hb1
  clear hb1
  go_wp2_with fail
  go_region_with (go_at_call 6; refine (X _).mono ?_; rintro e wx ⟨rfl, hbx⟩)
  all_goals
    go_wp2
    go_ret
    exact ⟨rfl, chain (HB1.out.alloc HB1.out.size _).drew hbx⟩

end Go.Proofs.Qxb6626337aFmt.bounds
