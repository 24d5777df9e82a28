/-
  SEAT b6626337aF: zzQuorumExplicitAccepted (6) by its contract.
-/
import Derived.Test.Qxb6626337aFmtQuorum
namespace Go.Proofs.Qxb6626337aFmt.bounds
open Go.RowKit Go.Extern.Stop Go.Stop Go.Extern

/-- A call of NewQuorum that accepts. -/
def OkC (n a b W R : Int) : Prop := ∀ w0 : World, Calls Tryf.prog 5 #[.int .i64 n, .int .i64 a, .int .i64 b] w0 fun e w' => e = .returned (.tuple #[.agg #[.int .i64 n, .int .i64 W, .int .i64 R], .nilIface]) ∧ Below w0.heap.size w0 w'
/-- A call of NewQuorum that refuses. -/
def BadC (w : World) (n a b W R : Int) : Prop := ∀ w0 : World, w0.tape = w.tape → Calls Tryf.prog 5 #[.int .i64 n, .int .i64 a, .int .i64 b] w0 (QErr n W R w0)
/-- A call of zzQuorumExplicitAccepted. -/
def ExC (n a b : Int) (t : Bool) : Prop := ∀ w0 : World, Calls Tryf.prog 6 #[.int .i64 n, .int .i64 a, .int .i64 b] w0 fun e w' => e = .returned (.bool t) ∧ Below w0.heap.size w0 w'

theorem chain {w X w' : World} (h : Below w.heap.size w X) (hb : Below X.heap.size X w') : Below w.heap.size w w' := h.trans (hb.mono h.size)

/-- Three cells that the last block holds, behind a call that turns nothing old. -/
theorem three_kept {w1 w2 : World} {x y z : Value} {t : TypeId} (hb : Below (w1.alloc (.cells #[x, y, z] t)).heap.size (w1.alloc (.cells #[x, y, z] t)) w2) :
    w2.cell? ⟨w1.heap.size, 0, none⟩ = some x ∧ w2.cell? ⟨w1.heap.size, 1, none⟩ = some y ∧ w2.cell? ⟨w1.heap.size, 2, none⟩ = some z ∧ w1.heap.size < w2.heap.size := by
  have hs : (w1.alloc (.cells #[x, y, z] t)).heap.size = w1.heap.size + 1 := by simp
  have c : ∀ o, w2.cell? ⟨w1.heap.size, o, none⟩ = (#[x, y, z] : Array Value)[o]? := fun o => by
    rw [hb.cell (p := ⟨w1.heap.size, o, none⟩) (by rw [hs]; exact Nat.lt_succ_self _)]
    simp
  refine ⟨by rw [c]; rfl, by rw [c]; rfl, by rw [c]; rfl, ?_⟩
  have := hb.size
  omega

/-- A cell of an elder block, behind one more block and such a call. -/
theorem kept_more {w2 w3 : World} {o : Obj} (hb : Below (w2.alloc o).heap.size (w2.alloc o) w3) {b off : Nat} {v : Value} (hlt : b < w2.heap.size) (h : w2.cell? ⟨b, off, none⟩ = some v) : w3.cell? ⟨b, off, none⟩ = some v := by
  have hs : (w2.alloc o).heap.size = w2.heap.size + 1 := by simp
  rw [hb.cell (p := ⟨b, off, none⟩) (by rw [hs]; exact Nat.lt_succ_of_lt hlt), ((Below.refl w2.heap.size w2).alloc (Nat.le_refl _) o).cell (p := ⟨b, off, none⟩) hlt]
  exact h
theorem size_more {w2 w3 : World} {o : Obj} (hb : Below (w2.alloc o).heap.size (w2.alloc o) w3) {b : Nat} (hlt : b < w2.heap.size) : b < w3.heap.size := by
  have hs : (w2.alloc o).heap.size = w2.heap.size + 1 := by simp
  have := hb.size
  omega

theorem ex_out (n a b : Int) (h : n < 1 ∨ a < 1 ∨ n < a ∨ b < 1 ∨ n < b) : ExC n a b false := by
  intro w
  by_cases h1 : n < 1
  · go_enter Tryf.func6, Tryf.ntmps6
    go_wp2
    go_ret
    exact ⟨rfl, Below.refl _ _⟩
  · by_cases h2 : a < 1
    · go_enter Tryf.func6, Tryf.ntmps6
      go_wp2
      go_ret
      exact ⟨rfl, Below.refl _ _⟩
    · by_cases h3 : n < a
      · go_enter Tryf.func6, Tryf.ntmps6
        go_wp2
        go_ret
        exact ⟨rfl, Below.refl _ _⟩
      · by_cases h4 : b < 1
        · go_enter Tryf.func6, Tryf.ntmps6
          go_wp2
          go_ret
          exact ⟨rfl, Below.refl _ _⟩
        · have h5 : n < b := by omega
          clear h
          go_enter Tryf.func6, Tryf.ntmps6
          go_wp2
          go_ret
          exact ⟨rfl, Below.refl _ _⟩

set_option maxHeartbeats 1000000 in
theorem ex_low (n a b W R : Int) (h1 : 1 ≤ n) (h2 : 1 ≤ a) (h3 : a ≤ n) (h4 : 1 ≤ b) (h5 : b ≤ n) (hW : a < W) (C1 : OkC n 0 0 W R) : ExC n a b false := by
  intro w
  go_enter Tryf.func6, Tryf.ntmps6
  go_wp2_with fail
  refine (C1 _).mono ?_
  rintro e w1 ⟨rfl, hb1⟩
  have HB1 : Hid (Below w.heap.size w w1) := hb1
  clear hb1
  go_wp2
  go_ret
  exact ⟨rfl, HB1.out.alloc HB1.out.size _⟩

set_option maxHeartbeats 1000000 in
theorem ex_in (n a b W R R2 : Int) (h1 : 1 ≤ n) (h2 : 1 ≤ a) (h3 : a ≤ n) (h4 : 1 ≤ b) (h5 : b ≤ n) (hW : W ≤ a) (C1 : OkC n 0 0 W R) (C2 : OkC n a 0 a R2) : ExC n a b (decide (R2 ≤ b)) := by
  intro w
  go_enter Tryf.func6, Tryf.ntmps6
  go_wp2_with fail
  refine (C1 _).mono ?_
  rintro e w1 ⟨rfl, hb1⟩
  have HB1 : Hid (Below w.heap.size w w1) := hb1
  clear hb1
  go_wp2_with fail
  refine (C2 _).mono ?_
  rintro e w2 ⟨rfl, hb2⟩
  have HB2 : Hid (Below w.heap.size w w2) := chain (HB1.out.alloc HB1.out.size _) hb2
  clear hb2
  go_wp2
  go_ret
  exact ⟨rfl, HB2.out.alloc HB2.out.size _⟩

theorem okc (n a b W R : Int) (hn : n ≤ 1073741823) (hW : W = wq n a) (hR : R = rq n W b) (h : Good n W R) : OkC n a b W R := fun w0 => nq_good n a b W R w0 hn hW hR h

/-- zzQuorumExplicitAccepted answers whether the quorums are good. -/
theorem ex_any (n a b : Int) (hn : n ≤ 1073741823) (t : Bool) (ht : t = true ↔ Good n a b) : ExC n a b t := by
  unfold Good at ht
  by_cases hout : n < 1 ∨ a < 1 ∨ n < a ∨ b < 1 ∨ n < b
  · have : t = false := by
      cases t
      · rfl
      · have := ht.1 rfl
        omega
    rw [this]
    exact ex_out n a b hout
  · have ew : n / 2 + 1 = wq n 0 := wq_zero (by omega)
    have er : n - (n / 2 + 1) + 1 = rq n (n / 2 + 1) 0 := rq_zero (by omega) (by omega) hn
    have c1 : OkC n 0 0 (n / 2 + 1) (n - (n / 2 + 1) + 1) := okc n 0 0 _ _ hn ew er (by unfold Good; omega)
    by_cases hlow : a < n / 2 + 1
    · have : t = false := by
        cases t
        · rfl
        · have := ht.1 rfl
          omega
      rw [this]
      exact ex_low n a b _ _ (by omega) (by omega) (by omega) (by omega) (by omega) hlow c1
    · have er2 : n - a + 1 = rq n a 0 := rq_zero (by omega) (by omega) hn
      have c2 : OkC n a 0 a (n - a + 1) := okc n a 0 _ _ hn (wq_self (by omega)) er2 (by unfold Good; omega)
      have : t = decide (n - a + 1 ≤ b) := by
        rw [Bool.eq_iff_iff, ht, decide_eq_true_eq]
        omega
      rw [this]
      exact ex_in n a b _ _ _ (by omega) (by omega) (by omega) (by omega) (by omega) (by omega) c1 c2

end Go.Proofs.Qxb6626337aFmt.bounds
