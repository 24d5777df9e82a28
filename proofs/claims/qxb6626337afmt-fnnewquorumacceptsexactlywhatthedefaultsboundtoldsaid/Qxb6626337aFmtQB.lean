/-
  SEAT b6626337aF: NewQuorum (5): its ways.
-/
import Derived.Test.Qxb6626337aFmtQHead
namespace Go.Proofs.Qxb6626337aFmt
open Go.RowKit Go.Extern.Stop Go.Stop Go.Extern

set_option maxHeartbeats 1000000 in
theorem nq_r1 (F : Interp) (n wr rd W R : Int) (w : World) (hF : F.answers w.tape) (hn : n ≤ 1073741823) (hn0 : -9223372036854775808 ≤ n) (hW : Hid (W = wq n wr)) (hR : Hid (R = rq n W rd)) (h1 : 1 ≤ W) (h2 : W ≤ n) (h3 : R < 1) :
    Calls Tryf.prog 5 #[.int .i64 n, .int .i64 wr, .int .i64 rd] w (QErr n W R w) := by
  go_enter Tryf.func5, Tryf.ntmps5
  go_upto_if 10 with fail
  go_cut [1] (fun s1 wx => s1 = .int .i64 W ∧ w.alloc (.cells #[.int .i64 0, .int .i64 0, .int .i64 0] 23) = wx)
  case first =>
    by_cases hz : wr = 0
    · subst hz
      go_wp2_with fail
      go_meet
      refine ⟨?_, rfl⟩
      have e := hW.out
      unfold wq at e
      rw [if_pos rfl] at e
      first | rw [e, tdiv2 n hn hn0] | rw [e, Int.tdiv_eq_ediv_of_nonneg (by omega)]
    · have hz' : (wr == 0) = false := beq_false_of_ne hz
      go_wp2_with fail
      go_meet
      refine ⟨?_, rfl⟩
      have e := hW.out
      unfold wq at e
      rw [if_neg hz] at e
      rw [e]
  case rest =>
  obtain ⟨rfl, rfl⟩ := hcut
  clear hW
  go_upto_if 15 with fail
  go_cut [2] (fun s2 wx => s2 = .int .i64 R ∧ w.alloc (.cells #[.int .i64 0, .int .i64 0, .int .i64 0] 23) = wx)
  case first =>
    by_cases hz : rd = 0
    · subst hz
      go_wp2_with fail
      go_meet
      refine ⟨?_, rfl⟩
      have e := hR.out
      unfold rq at e
      rw [if_pos rfl] at e
      first | (rw [e]; done) | (rw [e]; refine congrArg _ ?_; unfold wrap64; omega)
    · have hz' : (rd == 0) = false := beq_false_of_ne hz
      go_wp2_with fail
      go_meet
      refine ⟨?_, rfl⟩
      have e := hR.out
      unfold rq at e
      rw [if_neg hz] at e
      rw [e]
  case rest =>
  obtain ⟨rfl, rfl⟩ := hcut
  clear hR
  go_wp2_with fail
  go_region_with (go_at_call 7; refine (errorf2 F _ fm2 n R _ _ (by exact hF) (by go_simp) (by go_simp)).mono ?_; rintro e w' ⟨T, rfl, rfl⟩)
  all_goals go_wp2
  all_goals
    refine bodyPost_ret (v := .tuple #[.agg #[.int .i64 n, .int .i64 W, .int .i64 R], .iface 34 (.pointer (some ⟨w.heap.size + 1 + 1 + 1, 0, none⟩))]) (by simp [results, Tryf.results5, go_sem]) rfl ⟨_, rfl, ?_⟩
    repeat (first | exact Below.refl _ _ | refine Below.drew ?_ | refine Below.alloc ?_ (by simp <;> omega) _)

set_option maxHeartbeats 1000000 in
theorem nq_r2 (F : Interp) (n wr rd W R : Int) (w : World) (hF : F.answers w.tape) (hn : n ≤ 1073741823) (hn0 : -9223372036854775808 ≤ n) (hW : Hid (W = wq n wr)) (hR : Hid (R = rq n W rd)) (h1 : 1 ≤ W) (h2 : W ≤ n) (h3 : 1 ≤ R) (h4 : n < R) :
    Calls Tryf.prog 5 #[.int .i64 n, .int .i64 wr, .int .i64 rd] w (QErr n W R w) := by
  go_enter Tryf.func5, Tryf.ntmps5
  go_upto_if 10 with fail
  go_cut [1] (fun s1 wx => s1 = .int .i64 W ∧ w.alloc (.cells #[.int .i64 0, .int .i64 0, .int .i64 0] 23) = wx)
  case first =>
    by_cases hz : wr = 0
    · subst hz
      go_wp2_with fail
      go_meet
      refine ⟨?_, rfl⟩
      have e := hW.out
      unfold wq at e
      rw [if_pos rfl] at e
      first | rw [e, tdiv2 n hn hn0] | rw [e, Int.tdiv_eq_ediv_of_nonneg (by omega)]
    · have hz' : (wr == 0) = false := beq_false_of_ne hz
      go_wp2_with fail
      go_meet
      refine ⟨?_, rfl⟩
      have e := hW.out
      unfold wq at e
      rw [if_neg hz] at e
      rw [e]
  case rest =>
  obtain ⟨rfl, rfl⟩ := hcut
  clear hW
  go_upto_if 15 with fail
  go_cut [2] (fun s2 wx => s2 = .int .i64 R ∧ w.alloc (.cells #[.int .i64 0, .int .i64 0, .int .i64 0] 23) = wx)
  case first =>
    by_cases hz : rd = 0
    · subst hz
      go_wp2_with fail
      go_meet
      refine ⟨?_, rfl⟩
      have e := hR.out
      unfold rq at e
      rw [if_pos rfl] at e
      first | (rw [e]; done) | (rw [e]; refine congrArg _ ?_; unfold wrap64; omega)
    · have hz' : (rd == 0) = false := beq_false_of_ne hz
      go_wp2_with fail
      go_meet
      refine ⟨?_, rfl⟩
      have e := hR.out
      unfold rq at e
      rw [if_neg hz] at e
      rw [e]
  case rest =>
  obtain ⟨rfl, rfl⟩ := hcut
  clear hR
  go_wp2_with fail
  go_region_with (go_at_call 7; refine (errorf2 F _ fm2 n R _ _ (by exact hF) (by go_simp) (by go_simp)).mono ?_; rintro e w' ⟨T, rfl, rfl⟩)
  all_goals go_wp2
  all_goals
    refine bodyPost_ret (v := .tuple #[.agg #[.int .i64 n, .int .i64 W, .int .i64 R], .iface 34 (.pointer (some ⟨w.heap.size + 1 + 1 + 1, 0, none⟩))]) (by simp [results, Tryf.results5, go_sem]) rfl ⟨_, rfl, ?_⟩
    repeat (first | exact Below.refl _ _ | refine Below.drew ?_ | refine Below.alloc ?_ (by simp <;> omega) _)

end Go.Proofs.Qxb6626337aFmt
