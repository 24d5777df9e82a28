/-
  SEAT b6626337aF: NewQuorum (5) by its contract.
-/
import Derived.Test.Qxb6626337aFmtFacts
import Derived.Deep.RegionWith
import Derived.Deep.DeepCutAuto
import Derived.Outline
namespace Go.Proofs.Qxb6626337aFmt
open Go.RowKit Go.Extern.Stop Go.Stop Go.Extern

theorem fm1 (w : World) : (FmtDoors.printed { data := #[97, 32, 119, 114, 105, 116, 101, 32, 113, 117, 111, 114, 117, 109, 32, 105, 115, 32, 49, 32, 116, 111, 32, 110, 32, 61, 32, 37, 100, 32, 114, 101, 112, 108, 105, 99, 97, 115, 44, 32, 110, 111, 116, 32, 37, 100] } 2).run Tryf.prog w = .ok [(0, 100, false), (1, 100, false)] w := by kernel_rfl
theorem fm2 (w : World) : (FmtDoors.printed { data := #[97, 32, 114, 101, 97, 100, 32, 113, 117, 111, 114, 117, 109, 32, 105, 115, 32, 49, 32, 116, 111, 32, 110, 32, 61, 32, 37, 100, 32, 114, 101, 112, 108, 105, 99, 97, 115, 44, 32, 110, 111, 116, 32, 37, 100] } 2).run Tryf.prog w = .ok [(0, 100, false), (1, 100, false)] w := by kernel_rfl
theorem fm3 (w : World) : (FmtDoors.printed { data := #[97, 32, 119, 114, 105, 116, 101, 32, 113, 117, 111, 114, 117, 109, 32, 111, 102, 32, 37, 100, 32, 111, 102, 32, 110, 32, 61, 32, 37, 100, 32, 114, 101, 112, 108, 105, 99, 97, 115, 32, 98, 114, 101, 97, 107, 115, 32, 81, 87, 32, 62, 32, 110, 47, 50] } 2).run Tryf.prog w = .ok [(0, 100, false), (1, 100, false)] w := by kernel_rfl
theorem fm4 (w : World) : (FmtDoors.printed { data := ([97, 32, 119, 114, 105, 116, 101, 32, 113, 117, 111, 114, 117, 109, 32, 111, 102, 32, 37, 100, 32, 97, 110, 100, 32, 97, 32, 114, 101, 97, 100, 32, 113, 117, 111, 114, 117, 109, 32, 111].append [102, 32, 37, 100, 32, 111, 102, 32, 110, 32, 61, 32, 37, 100, 32, 114, 101, 112, 108, 105, 99, 97, 115, 32, 98, 114, 101, 97, 107, 32, 81, 87, 32, 43, 32, 81, 82, 32, 62, 32, 110]).toArray } 3).run Tryf.prog w = .ok [(0, 100, false), (1, 100, false), (2, 100, false)] w := by kernel_rfl

/-- The write quorum behind its default. -/
def wq (n wr : Int) : Int := if wr = 0 then n.tdiv 2 + 1 else wr
/-- The read quorum behind its default. -/
def rq (n W rd : Int) : Int := if rd = 0 then wrap64 (wrap64 (n - W) + 1) else rd

theorem tdiv2 (n : Int) (hn : n ≤ 1073741823) (hn0 : -9223372036854775808 ≤ n) : wrap64 (n.tdiv 2 + 1) = n.tdiv 2 + 1 := by
  have h1 : n.tdiv 2 = if 0 ≤ n then n / 2 else -((-n) / 2) := by
    split
    · exact Int.tdiv_eq_ediv_of_nonneg ‹_›
    · rename_i h
      have : n = -(-n) := by omega
      rw [this, Int.neg_tdiv, Int.tdiv_eq_ediv_of_nonneg (by omega)]
      simp
  rw [h1]
  unfold wrap64
  split <;> omega

abbrev QErr (n W R : Int) (w : World) (e : Ending) (w' : World) : Prop := ∃ a, e = .returned (.tuple #[.agg #[.int .i64 n, .int .i64 W, .int .i64 R], .iface 34 (.pointer (some a))]) ∧ Below w.heap.size w w'

end Go.Proofs.Qxb6626337aFmt
