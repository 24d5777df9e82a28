/-
  SEAT b6626337aF: NewQuorum (5), its contract whole: accepted or refused.
-/
import Derived.Test.Qxb6626337aFmtQA
import Derived.Test.Qxb6626337aFmtQB
import Derived.Test.Qxb6626337aFmtQC
namespace Go.Proofs.Qxb6626337aFmt
open Go.RowKit Go.Extern.Stop Go.Stop Go.Extern

/-- The quorums that are accepted. -/
def Good (n W R : Int) : Prop := 1 ≤ W ∧ W ≤ n ∧ 1 ≤ R ∧ R ≤ n ∧ n < 2 * W ∧ n < W + R

theorem nq_good (n wr rd W R : Int) (w : World) (hn : n ≤ 1073741823) (hW : W = wq n wr) (hR : R = rq n W rd) (h : Good n W R) :
    Calls Tryf.prog 5 #[.int .i64 n, .int .i64 wr, .int .i64 rd] w fun e w' => e = .returned (.tuple #[.agg #[.int .i64 n, .int .i64 W, .int .i64 R], .nilIface]) ∧ Below w.heap.size w w' :=
  nq_ok n wr rd W R w hn hW hR h.1 h.2.1 h.2.2.1 h.2.2.2.1 h.2.2.2.2.1 h.2.2.2.2.2

theorem nq_bad (F : Interp) (n wr rd W R : Int) (w : World) (hF : F.answers w.tape) (hn : n ≤ 1073741823) (hn0 : -9223372036854775808 ≤ n) (hW : W = wq n wr) (hR : R = rq n W rd) (h : ¬ Good n W R) :
    Calls Tryf.prog 5 #[.int .i64 n, .int .i64 wr, .int .i64 rd] w (QErr n W R w) := by
  unfold Good at h
  by_cases h1 : W < 1
  · exact nq_w1 F n wr rd W R w hF hn hn0 hW hR h1
  · by_cases h2 : n < W
    · exact nq_w2 F n wr rd W R w hF hn hn0 hW hR h1 h2
    · by_cases h3 : R < 1
      · exact nq_r1 F n wr rd W R w hF hn hn0 hW hR (by omega) (by omega) h3
      · by_cases h4 : n < R
        · exact nq_r2 F n wr rd W R w hF hn hn0 hW hR (by omega) (by omega) (by omega) h4
        · by_cases h5 : 2 * W ≤ n
          · exact nq_2w F n wr rd W R w hF hn hn0 hW hR (by omega) (by omega) (by omega) (by omega) h5
          · exact nq_wr F n wr rd W R w hF hn hn0 hW hR (by omega) (by omega) (by omega) (by omega) (by omega) (by omega)

/-- What was there reads as before. -/
theorem bcell {W w1 : World} (hb : Below W.heap.size W w1) : (∀ b o, b < W.heap.size → w1.cell? ⟨b, o, none⟩ = W.cell? ⟨b, o, none⟩) ∧ (∀ b o, b < W.heap.size → w1.frozen? ⟨b, o, none⟩ = W.frozen? ⟨b, o, none⟩) :=
  ⟨fun b o h => hb.cell (p := ⟨b, o, none⟩) h, fun b o h => hb.frozen (p := ⟨b, o, none⟩) h⟩

theorem wq_self {n wr : Int} (h : wr ≠ 0) : wr = wq n wr := by unfold wq; rw [if_neg h]
theorem rq_self {n W rd : Int} (h : rd ≠ 0) : rd = rq n W rd := by unfold rq; rw [if_neg h]
theorem wq_zero {n : Int} (h : 0 ≤ n) : n / 2 + 1 = wq n 0 := by unfold wq; rw [if_pos rfl, Int.tdiv_eq_ediv_of_nonneg h]
theorem rq_zero {n W : Int} (h1 : 1 ≤ W) (h2 : W ≤ n) (hn : n ≤ 1073741823) : n - W + 1 = rq n W 0 := by
  unfold rq
  rw [if_pos rfl]
  unfold wrap64
  omega
end Go.Proofs.Qxb6626337aFmt
