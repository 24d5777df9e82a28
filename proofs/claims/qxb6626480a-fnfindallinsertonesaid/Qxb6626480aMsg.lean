/-
  SEAT b6626480a: rows of AVPs in the call's own memory; WALK: diamB1Msg (7).
-/
import Derived.Test.Qxb6626480aSize
namespace Go.Proofs.Qxb6626480a
open Go.RowKit

/-- The AVPs L at the head of a block. -/
def Own (w : World) (g : Nat) (L : List Av) : Prop :=
  ∀ i (h : i < L.length), w.cell? ⟨g, i * 4, none⟩ = some (.int .u32 L[i].code) ∧ w.cell? ⟨g, i * 4 + 1, none⟩ = some (.int .u8 L[i].flags) ∧
    w.cell? ⟨g, i * 4 + 2, none⟩ = some (.int .u32 L[i].vendor) ∧ w.cell? ⟨g, i * 4 + 3, none⟩ = some (.slice L[i].at' L[i].len L[i].cap)

theorem Own.later {w w1 : World} {g : Nat} {L : List Av} (h : Own w g L) (hb : Below w.heap.size w w1) : Own w1 g L := fun i hi =>
  ⟨cell_later hb (h i hi).1, cell_later hb (h i hi).2.1, cell_later hb (h i hi).2.2.1, cell_later hb (h i hi).2.2.2⟩

/-- A row of n elements of four cells, the first k of them those of L. -/
def Fl (t : TypeId) (w : World) (g n : Nat) (L : List Av) (k : Nat) : Prop :=
  ∃ cur, w.heap[g]? = some (.cells cur t (0, 0)) ∧ cur.size = n * 4 ∧ ∀ j (h : j < L.length), j < k →
    cur[j * 4]? = some (.int .u32 L[j].code) ∧ cur[j * 4 + 1]? = some (.int .u8 L[j].flags) ∧ cur[j * 4 + 2]? = some (.int .u32 L[j].vendor) ∧ cur[j * 4 + 3]? = some (.slice L[j].at' L[j].len L[j].cap)

theorem Fl.start {t : TypeId} {w : World} {base g n : Nat} {xs : List Value} (L : List Av) (h : w.ownsRow base t 4 (.slice (some ⟨g, 0, none⟩) n n) n xs) : Fl t w g n L 0 := by
  rcases h.2 with ⟨h, _⟩ | ⟨g', cap, cur, e, _, hg, _, _, hs, _⟩
  · cases h
  · injection e with e1 _ e3
    injection e1 with e1
    injection e1 with e1
    subst e1
    subst e3
    exact ⟨cur, hg, hs, fun j _ h => absurd h (Nat.not_lt_zero _)⟩

theorem Fl.later {t : TypeId} {w w1 : World} {g n k : Nat} {L : List Av} (h : Fl t w g n L k) (hb : Below w.heap.size w w1) : Fl t w1 g n L k := by
  obtain ⟨cur, hg, rest⟩ := h
  exact ⟨cur, by rw [hb.block g (Array.getElem?_eq_some_iff.1 hg).1]; exact hg, rest⟩

theorem Fl.lt {t : TypeId} {w : World} {g n k : Nat} {L : List Av} (h : Fl t w g n L k) : g < w.heap.size := by
  obtain ⟨cur, hg, _⟩ := h
  exact (Array.getElem?_eq_some_iff.1 hg).1

/-- Each cell is there, and may be written. -/
theorem Fl.write {t : TypeId} {w : World} {g n k : Nat} {L : List Av} (h : Fl t w g n L k) (j : Nat) (hj : j < n * 4) : (∃ v, w.cell? ⟨g, j, none⟩ = some v) ∧ w.frozen? ⟨g, j, none⟩ = false := by
  obtain ⟨cur, hg, hs, _⟩ := h
  refine ⟨⟨cur[j]'(by omega), ?_⟩, frozen_of_row w g j cur t hg⟩
  rw [cell_of_row w g j cur t (0, 0) hg]
  exact Array.getElem?_eq_getElem _

theorem Fl.own {t : TypeId} {w : World} {g n : Nat} {L : List Av} (h : Fl t w g n L L.length) : Own w g L := by
  obtain ⟨cur, hg, _, hc⟩ := h
  intro i hi
  obtain ⟨c0, c1, c2, c3⟩ := hc i hi hi
  exact ⟨by rw [cell_of_row w g _ cur t (0, 0) hg]; exact c0, by rw [cell_of_row w g _ cur t (0, 0) hg]; exact c1, by rw [cell_of_row w g _ cur t (0, 0) hg]; exact c2, by rw [cell_of_row w g _ cur t (0, 0) hg]; exact c3⟩

/-- One element stored: the k-th. -/
theorem Fl.step {t : TypeId} {w : World} {g n k : Nat} {L : List Av} (h : Fl t w g n L k) (hk : k < n) (A : Av) (hA : ∀ h : k < L.length, L[k] = A) :
    Fl t ((((w.setCell ⟨g, k * 4, none⟩ (.int .u32 A.code)).setCell ⟨g, k * 4 + 1, none⟩ (.int .u8 A.flags)).setCell ⟨g, k * 4 + 2, none⟩ (.int .u32 A.vendor)).setCell ⟨g, k * 4 + 3, none⟩ (.slice A.at' A.len A.cap)) g n L (k + 1) := by
  obtain ⟨cur, hg, hs, hc⟩ := h
  have h1 := heap_setCell_same _ g (k * 4) cur t (.int .u32 A.code) hg
  have h2 := heap_setCell_same _ g (k * 4 + 1) _ t (.int .u8 A.flags) h1
  have h3 := heap_setCell_same _ g (k * 4 + 2) _ t (.int .u32 A.vendor) h2
  have h4 := heap_setCell_same _ g (k * 4 + 3) _ t (.slice A.at' A.len A.cap) h3
  refine ⟨_, h4, by simp [hs], ?_⟩
  intro j hj hjk
  by_cases e : j = k
  · subst e
    rw [hA hj]
    simp only [Array.getElem?_setIfInBounds, Array.size_setIfInBounds]
    refine ⟨?_, ?_, ?_, ?_⟩
    · rw [if_neg (by omega), if_neg (by omega), if_neg (by omega), if_pos trivial, if_pos (by omega)]
    · rw [if_neg (by omega), if_neg (by omega), if_pos trivial, if_pos (by omega)]
    · rw [if_neg (by omega), if_pos trivial, if_pos (by omega)]
    · rw [if_pos trivial, if_pos (by omega)]
  · obtain ⟨c0, c1, c2, c3⟩ := hc j hj (by omega)
    simp only [Array.getElem?_setIfInBounds, Array.size_setIfInBounds]
    refine ⟨?_, ?_, ?_, ?_⟩
    · rw [if_neg (by omega), if_neg (by omega), if_neg (by omega), if_neg (by omega)]; exact c0
    · rw [if_neg (by omega), if_neg (by omega), if_neg (by omega), if_neg (by omega)]; exact c1
    · rw [if_neg (by omega), if_neg (by omega), if_neg (by omega), if_neg (by omega)]; exact c2
    · rw [if_neg (by omega), if_neg (by omega), if_neg (by omega), if_neg (by omega)]; exact c3

theorem info36 : (Try.prog.info? 36).map (fun i => (i.zero, i.size, i.bytes)) = some (some (.agg #[.int .u32 0, .int .u8 0, .int .u32 0, .slice none 0 0]), 4, 40) := by kernel_rfl

/-- 'make([]AVP, n)'. -/
theorem make33 (n : Nat) (hn : n ≤ 65537) (L : List Av) (w : World) : ∃ w1, (Instr.makeSlice 33 (.int .i64 n) (.int .i64 n)).run Try.prog w = .ok (.slice (some ⟨w.heap.size, 0, none⟩) n n) w1 ∧ Fl 36 w1 w.heap.size n L 0 ∧ Below w.heap.size w w1 := by
  obtain ⟨i, hi, hz0, hz1, hz2⟩ := info_parts info36
  obtain ⟨w1, hrun, hown, hg⟩ := run_make_full (P := Try.prog) w w.heap.size 33 36 i _ 4 Try.underlying33 hi hz0 hz1 .i64 .i64 n (by rw [hz2]; omega) (by unfold maxLen; omega) (Nat.le_refl _)
  exact ⟨w1, hrun, Fl.start L hown, (Below.refl _ _).grown hg (Nat.le_refl _) (fun k h => by cases h)⟩

/-- What a round of the loop keeps. -/
def MsgInv (w : World) (hd : Obj) (n : Nat) (L : List Av) (wr : World) (k : Nat) : Prop :=
  Below (w.heap.size + 1) (w.alloc hd) wr ∧ Fl 36 wr (w.heap.size + 1) n L k

theorem MsgInv.below {w : World} {hd : Obj} {n : Nat} {L : List Av} {wr : World} {k : Nat} (h : MsgInv w hd n L wr k) : Below w.heap.size w wr :=
  ((Below.refl _ _).alloc (Nat.le_refl _) _).trans (h.1.mono (Nat.le_succ _))

theorem five_kept {w wr : World} {v0 v1 v2 v3 v4 : Value} {t : TypeId} (hb : Below (w.heap.size + 1) (w.alloc (.cells #[v0, v1, v2, v3, v4] t)) wr) :
    wr.cell? ⟨w.heap.size, 0, none⟩ = some v0 ∧ wr.cell? ⟨w.heap.size, 1, none⟩ = some v1 ∧ wr.cell? ⟨w.heap.size, 2, none⟩ = some v2 ∧ wr.cell? ⟨w.heap.size, 3, none⟩ = some v3 ∧ wr.cell? ⟨w.heap.size, 4, none⟩ = some v4 := by
  have c : ∀ o, wr.cell? ⟨w.heap.size, o, none⟩ = (#[v0, v1, v2, v3, v4] : Array Value)[o]? := fun o => by
    rw [hb.cell (p := ⟨w.heap.size, o, none⟩) (Nat.lt_succ_self _)]
    simp
  exact ⟨by rw [c]; rfl, by rw [c]; rfl, by rw [c]; rfl, by rw [c]; rfl, by rw [c]; rfl⟩

set_option maxHeartbeats 1000000 in
theorem msg_some (h0 h1 h2 h3 h4 : Int) (b off cap n : Nat) (L : List Av) (w : World) (hL : L.length = n) (hn : n ≤ 65537) (hl : Lies w b off L) :
    Calls Try.prog 7 #[hv h0 h1 h2 h3 h4, .slice (some ⟨b, off, none⟩) n cap] w fun e w' => ∃ m g, e = .returned (.pointer (some ⟨m, 0, none⟩)) ∧ Below w.heap.size w w' ∧
      w'.cell? ⟨m, 5, none⟩ = some (.slice (some ⟨g, 0, none⟩) n n) ∧ Own w' g L := by
  obtain ⟨w1, hmk, hf, hb1⟩ := make33 n hn L (w.alloc (.cells #[.int .u8 h0, .int .u32 h1, .int .u32 h2, .int .u32 h3, .int .u32 h4] 25))
  have hsz : (w.alloc (.cells #[.int .u8 h0, .int .u32 h1, .int .u32 h2, .int .u32 h3, .int .u32 h4] 25)).heap.size = w.heap.size + 1 := by simp
  rw [hsz] at hf hb1
  have HI : Hid (MsgInv w (.cells #[.int .u8 h0, .int .u32 h1, .int .u32 h2, .int .u32 h3, .int .u32 h4] 25) n L w1 0) := ⟨hb1, hf⟩
  clear hf hb1 hsz
  go_enter Try.func7, Try.ntmps7
  go_wp2
  go_loopw [6] (fun i wr => ∃ k : Nat, k ≤ n ∧ i = .int .i64 k ∧ Hid (MsgInv w (.cells #[.int .u8 h0, .int .u32 h1, .int .u32 h2, .int .u32 h3, .int .u32 h4] 25) n L wr k)) (fun i _ => n - (intOf i).toNat)
  case atStart => exact ⟨0, Nat.zero_le _, rfl, HI⟩
  case round =>
    clear hmk HI
    obtain ⟨k, hk, rfl, hI⟩ := hrel
    by_cases hlt : k < n
    · have hbw := hI.out.below
      obtain ⟨g0, g1, g2, g3⟩ := hl.later hbw k (by omega)
      have hbz : b < wr.heap.size := World.block_lt_of_cell? _ _ g0
      go_wp2_with fail
      refine (toAvp_any _ _).mono ?_
      rintro e w2 ⟨rfl, hb2⟩
      have HF : Hid (Fl 36 w2 (w.heap.size + 1) n L k) := hI.out.2.later hb2
      have HB : Hid (Below (w.heap.size + 1) (w.alloc (.cells #[.int .u8 h0, .int .u32 h1, .int .u32 h2, .int .u32 h3, .int .u32 h4] 25)) w2) := hI.out.1.trans (hb2.mono (Nat.le_of_lt_succ (Nat.lt_succ_of_lt (hI.out.2.lt))))
      clear hb2
      obtain ⟨⟨v0, hw0⟩, f0⟩ := HF.out.write (k * 4) (by omega)
      obtain ⟨⟨v1, hw1⟩, f1⟩ := HF.out.write (k * 4 + 1) (by omega)
      obtain ⟨⟨v2, hw2⟩, f2⟩ := HF.out.write (k * 4 + 2) (by omega)
      obtain ⟨⟨v3, hw3⟩, f3⟩ := HF.out.write (k * 4 + 3) (by omega)
      go_wp2
      go_roundw
      case rel =>
        refine ⟨k + 1, by omega, by go_num, ?_, HF.out.step hlt L[k] (fun _ => rfl)⟩
        exact (((HB.out.setCell (Nat.le_refl _) _).setCell (Nat.le_refl _) _).setCell (Nat.le_refl _) _).setCell (Nat.le_refl _) _
      case measure => simp [intOf]; omega
    · obtain ⟨q0, q1, q2, q3, q4⟩ := five_kept hI.out.1
      go_wp2
      go_ret
      refine ⟨wr.heap.size, w.heap.size + 1, rfl, hI.out.below.alloc hI.out.below.size _, by simp, ?_⟩
      have e : k = L.length := by omega
      have hf := hI.out.2
      rw [e] at hf
      exact hf.own.later ((Below.refl _ _).alloc (Nat.le_refl _) _)

set_option maxHeartbeats 1000000 in
/-- No list at all. -/
theorem msg_nil (h0 h1 h2 h3 h4 : Int) (w : World) :
    Calls Try.prog 7 #[hv h0 h1 h2 h3 h4, .slice none 0 0] w fun e w' => ∃ m, e = .returned (.pointer (some ⟨m, 0, none⟩)) ∧ Below w.heap.size w w' ∧
      w'.cell? ⟨m, 5, none⟩ = some (.slice none 0 0) := by
  go_enter Try.func7, Try.ntmps7
  go_wp2
  go_ret
  exact ⟨w.heap.size + 1, rfl, ((Below.refl _ _).alloc (Nat.le_refl _) _).alloc (by simp) _, by simp⟩

def MsgZ (w : World) (e : Ending) (w' : World) : Prop := ∃ m g, e = .returned (.pointer (some ⟨m, 0, none⟩)) ∧ Below w.heap.size w w' ∧ w'.cell? ⟨m, 5, none⟩ = some (.slice (some ⟨g, 0, none⟩) 0 0)

set_option maxHeartbeats 1000000 in
/-- An empty list that is not nil. -/
theorem msg_zero (h0 h1 h2 h3 h4 : Int) (ad : Addr) (cap : Nat) (w : World) :
    Calls Try.prog 7 #[hv h0 h1 h2 h3 h4, .slice (some ad) 0 cap] w fun e w' => MsgZ w e w' := by
  obtain ⟨w1, hmk, hf, hb1⟩ := make33 0 (by omega) [] (w.alloc (.cells #[.int .u8 h0, .int .u32 h1, .int .u32 h2, .int .u32 h3, .int .u32 h4] 25))
  have hsz : (w.alloc (.cells #[.int .u8 h0, .int .u32 h1, .int .u32 h2, .int .u32 h3, .int .u32 h4] 25)).heap.size = w.heap.size + 1 := by simp
  rw [hsz] at hf hb1
  have HI : Hid (MsgInv w (.cells #[.int .u8 h0, .int .u32 h1, .int .u32 h2, .int .u32 h3, .int .u32 h4] 25) 0 [] w1 0) := ⟨hb1, hf⟩
  obtain ⟨q0, q1, q2, q3, q4⟩ := five_kept hb1
  have e0 : ((0 : Nat) : Int) = 0 := rfl
  rw [e0] at hmk
  clear hf hb1 hsz e0
  go_enter Try.func7, Try.ntmps7
  go_wp2
  go_loop [6] (fun i => i = .int .i64 0) (fun _ => 0)
  case atStart => rfl
  case round =>
    subst hrel
    go_wp2
    go_ret
    exact ⟨w1.heap.size, w.heap.size + 1, rfl, HI.out.below.alloc HI.out.below.size _, by simp⟩
end Go.Proofs.Qxb6626480a
