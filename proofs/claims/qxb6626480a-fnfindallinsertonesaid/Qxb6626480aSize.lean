/-
  SEAT b6626480a: WALKS: diamB1SizeOK (6), zzBytes (5, 11): they return; which Bool is not told.
-/
import Derived.Test.Qxb6626480aSmall
namespace Go.Proofs.Qxb6626480a
open Go.RowKit

/-- The AVPs L lie in w from a on, four cells each. -/
def Lies (w : World) (b off : Nat) (L : List Av) : Prop :=
  ∀ i (h : i < L.length), w.cell? ⟨b, off + i * 4, none⟩ = some (.int .u32 L[i].code) ∧ w.cell? ⟨b, off + i * 4 + 1, none⟩ = some (.int .u8 L[i].flags) ∧
    w.cell? ⟨b, off + i * 4 + 2, none⟩ = some (.int .u32 L[i].vendor) ∧ w.cell? ⟨b, off + i * 4 + 3, none⟩ = some (.slice L[i].at' L[i].len L[i].cap)

theorem Lies.later {w w1 : World} {b off : Nat} {L : List Av} (h : Lies w b off L) (hb : Below w.heap.size w w1) : Lies w1 b off L := fun i hi =>
  ⟨cell_later hb (h i hi).1, cell_later hb (h i hi).2.1, cell_later hb (h i hi).2.2.1, cell_later hb (h i hi).2.2.2⟩

/-- Some Bool comes back. -/
def Bl (e : Ending) : Prop := ∃ q, e = .returned (.bool q)
theorem Bl.mk (q : Bool) : Bl (.returned (.bool q)) := ⟨q, rfl⟩
/-- A header, as a value. -/
abbrev hv (h0 h1 h2 h3 h4 : Int) : Value := .agg #[.int .u8 h0, .int .u32 h1, .int .u32 h2, .int .u32 h3, .int .u32 h4]

set_option maxHeartbeats 1000000 in
theorem sizeOK_some (b off cap n : Nat) (L : List Av) (ex : Int) (w : World) (hL : L.length = n) (hn : n ≤ maxLen) (h : Lies w b off L) :
    Calls Try.prog 6 #[.slice (some ⟨b, off, none⟩) n cap, .int .i64 ex] w fun e w' => Bl e ∧ Below w.heap.size w w' := by
  unfold maxLen at hn
  go_enter Try.func6, Try.ntmps6
  go_wp2
  all_goals first
    | (go_ret; exact ⟨Bl.mk _, Below.refl _ _⟩)
    | skip
  all_goals
    go_loop [5, 6] (fun t i => ∃ (k : Nat) (s : Int), k ≤ n ∧ i = .int .i64 k ∧ t = .int .i64 s) (fun _ i => n - (intOf i).toNat)
    case atStart => exact ⟨0, _, Nat.zero_le _, rfl, rfl⟩
    case round =>
      obtain ⟨k, s, hk, rfl, rfl⟩ := hrel
      by_cases hlt : k < n
      · have g := h k (by omega)
        have hb : b < w.heap.size := World.block_lt_of_cell? _ _ g.1
        have hb1 : b < w.heap.size + 1 := by omega
        clear h
        go_wp2
        all_goals first
          | (go_ret; exact ⟨Bl.mk _, Below.refl _ _⟩)
          | (go_round
             case rel => exact ⟨k + 1, _, by omega, by go_num, rfl⟩
             case measure => simp [intOf]; omega)
      · clear h
        go_wp2
        all_goals
          go_ret
          exact ⟨Bl.mk _, Below.refl _ _⟩

set_option maxHeartbeats 1000000 in
theorem sizeOK_none (a : Option Addr) (cap : Nat) (ex : Int) (w : World)  :
    Calls Try.prog 6 #[.slice a 0 cap, .int .i64 ex] w fun e w' => Bl e ∧ Below w.heap.size w w' := by
  go_enter Try.func6, Try.ntmps6
  go_wp2
  all_goals first
    | (go_ret; exact ⟨Bl.mk _, Below.refl _ _⟩)
    | skip
  all_goals
    go_loop [5, 6] (fun t i => i = .int .i64 0 ∧ ∃ s : Int, t = .int .i64 s) (fun _ _ => 0)
    case atStart => exact ⟨rfl, _, rfl⟩
    case round =>
      obtain ⟨rfl, s, rfl⟩ := hrel
      go_wp2
      all_goals
        go_ret
        exact ⟨Bl.mk _, Below.refl _ _⟩

set_option maxHeartbeats 1000000 in
theorem zzB_some (b off cap n : Nat) (L : List Av) (h0 h1 h2 h3 h4 c : Int) (w : World) (hL : L.length = n) (hn : n ≤ maxLen) (h : Lies w b off L) :
    Calls Try.prog 11 #[.slice (some ⟨b, off, none⟩) n cap, hv h0 h1 h2 h3 h4, .int .u32 c] w fun e w' => Bl e ∧ Below w.heap.size w w' := by
  unfold maxLen at hn
  go_enter Try.func11, Try.ntmps11
  go_wp2
  all_goals first
    | (go_ret; exact ⟨Bl.mk _, (Below.refl _ _).alloc (Nat.le_refl _) _⟩)
    | skip
  all_goals
    go_loop [7, 8] (fun t i => ∃ (k : Nat) (s : Int), k ≤ n ∧ i = .int .i64 k ∧ t = .int .i64 s) (fun _ i => n - (intOf i).toNat)
    case atStart => exact ⟨0, _, Nat.zero_le _, rfl, rfl⟩
    case round =>
      obtain ⟨k, s, hk, rfl, rfl⟩ := hrel
      by_cases hlt : k < n
      · have g := h k (by omega)
        have hb : b < w.heap.size := World.block_lt_of_cell? _ _ g.1
        have hb1 : b < w.heap.size + 1 := by omega
        clear h
        go_wp2
        all_goals first
          | (go_ret; exact ⟨Bl.mk _, (Below.refl _ _).alloc (Nat.le_refl _) _⟩)
          | (go_round
             case rel => exact ⟨k + 1, _, by omega, by go_num, rfl⟩
             case measure => simp [intOf]; omega)
      · clear h
        go_wp2
        all_goals
          go_ret
          exact ⟨Bl.mk _, (Below.refl _ _).alloc (Nat.le_refl _) _⟩

set_option maxHeartbeats 1000000 in
theorem zzB_none (a : Option Addr) (cap : Nat) (h0 h1 h2 h3 h4 c : Int) (w : World)  :
    Calls Try.prog 11 #[.slice a 0 cap, hv h0 h1 h2 h3 h4, .int .u32 c] w fun e w' => Bl e ∧ Below w.heap.size w w' := by
  go_enter Try.func11, Try.ntmps11
  go_wp2
  all_goals first
    | (go_ret; exact ⟨Bl.mk _, (Below.refl _ _).alloc (Nat.le_refl _) _⟩)
    | skip
  all_goals
    go_loop [7, 8] (fun t i => i = .int .i64 0 ∧ ∃ s : Int, t = .int .i64 s) (fun _ _ => 0)
    case atStart => exact ⟨rfl, _, rfl⟩
    case round =>
      obtain ⟨rfl, s, rfl⟩ := hrel
      go_wp2
      all_goals
        go_ret
        exact ⟨Bl.mk _, (Below.refl _ _).alloc (Nat.le_refl _) _⟩

set_option maxHeartbeats 1000000 in
theorem zzA_some (b off cap n : Nat) (L : List Av) (h0 h1 h2 h3 h4 c p : Int) (X : Av) (w : World) (hL : L.length = n) (hn : n ≤ maxLen) (h : Lies w b off L) :
    Calls Try.prog 5 #[.slice (some ⟨b, off, none⟩) n cap, hv h0 h1 h2 h3 h4, .int .u32 c, .int .i64 p, X.val] w fun e w' => Bl e ∧ Below w.heap.size w w' := by
  unfold maxLen at hn
  go_enter Try.func5, Try.ntmps5
  go_wp2
  all_goals first
    | (go_ret; exact ⟨Bl.mk _, ((Below.refl _ _).alloc (Nat.le_refl _) _).alloc (by simp) _⟩)
    | skip
  all_goals
    go_loop [11, 12] (fun t i => ∃ (k : Nat) (s : Int), k ≤ n ∧ i = .int .i64 k ∧ t = .int .i64 s) (fun _ i => n - (intOf i).toNat)
    case atStart => exact ⟨0, _, Nat.zero_le _, rfl, rfl⟩
    case round =>
      obtain ⟨k, s, hk, rfl, rfl⟩ := hrel
      by_cases hlt : k < n
      · have g := h k (by omega)
        have hb : b < w.heap.size := World.block_lt_of_cell? _ _ g.1
        have hb1 : b < w.heap.size + 1 := by omega
        clear h
        go_wp2
        all_goals first
          | (go_ret; exact ⟨Bl.mk _, ((Below.refl _ _).alloc (Nat.le_refl _) _).alloc (by simp) _⟩)
          | (go_round
             case rel => exact ⟨k + 1, _, by omega, by go_num, rfl⟩
             case measure => simp [intOf]; omega)
      · clear h
        go_wp2
        all_goals
          go_ret
          exact ⟨Bl.mk _, ((Below.refl _ _).alloc (Nat.le_refl _) _).alloc (by simp) _⟩

set_option maxHeartbeats 1000000 in
theorem zzA_none (a : Option Addr) (cap : Nat) (h0 h1 h2 h3 h4 c p : Int) (X : Av) (w : World)  :
    Calls Try.prog 5 #[.slice a 0 cap, hv h0 h1 h2 h3 h4, .int .u32 c, .int .i64 p, X.val] w fun e w' => Bl e ∧ Below w.heap.size w w' := by
  go_enter Try.func5, Try.ntmps5
  go_wp2
  all_goals first
    | (go_ret; exact ⟨Bl.mk _, ((Below.refl _ _).alloc (Nat.le_refl _) _).alloc (by simp) _⟩)
    | skip
  all_goals
    go_loop [11, 12] (fun t i => i = .int .i64 0 ∧ ∃ s : Int, t = .int .i64 s) (fun _ _ => 0)
    case atStart => exact ⟨rfl, _, rfl⟩
    case round =>
      obtain ⟨rfl, s, rfl⟩ := hrel
      go_wp2
      all_goals
        go_ret
        exact ⟨Bl.mk _, ((Below.refl _ _).alloc (Nat.le_refl _) _).alloc (by simp) _⟩

end Go.Proofs.Qxb6626480a
