/-
  SEAT b6626480a: WALKS of the small functions: is (13), diamB1ToAVP (12), diamB1BytesEq (14), diamB1Eq (9), diamB1EqZ (10).
-/
import Derived.Test.Qxb6626480aRows
import Derived.WalkKit
import Derived.WalkSpells
import Derived.WalkLawsBesides
import Derived.Deep.Draws
import Derived.Deep.QuietTactic
import Derived.BigQuiet
import Derived.Outline
namespace Go.Proofs.Qxb6626480a
open Go.RowKit

/-- An AVP: its code, flags, vendor, and the header of its data's slice. -/
structure Av where
  code : Int
  flags : Int
  vendor : Int
  at' : Option Addr
  len : Nat
  cap : Nat

/-- Its four cells. -/
def Av.cells (A : Av) : List Value := [.int .u32 A.code, .int .u8 A.flags, .int .u32 A.vendor, .slice A.at' A.len A.cap]
/-- As a value. -/
abbrev Av.val (A : Av) : Value := .agg #[.int .u32 A.code, .int .u8 A.flags, .int .u32 A.vendor, .slice A.at' A.len A.cap]

/-- Is it of the base namespace, and of that code? -/
def hit (c : Int) (A : Av) : Bool := (A.code == c) && (bits BinOp.and IntKind.u8 A.flags 128 == 0)

theorem is_any (A : Av) (c : Int) (w : World) :
    Calls Try.prog 13 #[A.val, .int .u32 c] w fun e w' => e = .returned (.bool (hit c A)) ∧ w' = w.alloc (.cells #[.int .u32 A.code, .int .u8 A.flags, .int .u32 A.vendor, .slice A.at' A.len A.cap] 36) := by
  unfold hit
  cases h1 : (A.code == c)
  · go_enter Try.func13, Try.ntmps13
    go_wp2
    go_ret
    exact ⟨rfl, rfl⟩
  · go_enter Try.func13, Try.ntmps13
    go_wp2
    go_ret
    exact ⟨rfl, rfl⟩

theorem toAvp_any (A : Av) (w : World) :
    Calls Try.prog 12 #[A.val] w fun e w' => e = .returned A.val ∧ Below w.heap.size w w' := by
  go_enter Try.func12, Try.ntmps12
  go_wp2
  exact bodyPost_ret (v := A.val) (by simp [results, Try.results12, go_sem]) rfl ⟨rfl, ((Below.refl _ _).alloc (Nat.le_refl _) _).alloc (by simp) _⟩

set_option maxHeartbeats 400000 in
theorem bytesEq_core (b1 o1 c1 b2 o2 c2 n : Nat) (x y : Nat → Int) (w : World) (hn : n ≤ maxLen) (h1 : ∀ i, i < n → w.cell? ⟨b1, o1 + i, none⟩ = some (.int .u8 (x i))) (h2 : ∀ i, i < n → w.cell? ⟨b2, o2 + i, none⟩ = some (.int .u8 (y i))) :
    Calls Try.prog 14 #[.slice (some ⟨b1, o1, none⟩) n c1, .slice (some ⟨b2, o2, none⟩) n c2] w fun e w' => ∃ q, e = .returned (.bool q) ∧ ((∀ i, i < n → x i = y i) → q = true) ∧ ∃ k, w' = w.drewN k := by
  unfold maxLen at hn
  have hne : ((n : Int) != (n : Int)) = false := by simp
  go_enter Try.func14, Try.ntmps14
  go_wp2
  go_loopw [5] (fun i wr => ∃ k m : Nat, k ≤ n ∧ i = .int .i64 k ∧ wr = w.drewN m) (fun i _ => n - (intOf i).toNat)
  case atStart => exact ⟨0, 0, Nat.zero_le _, rfl, rfl⟩
  case round =>
    obtain ⟨k, m, hk, rfl, rfl⟩ := hrel
    by_cases hlt : k < n
    · have g1 := h1 k hlt
      have g2 := h2 k hlt
      have i1 : (0 : Int) ≤ (k : Int) := by omega
      have i2 : (k : Int) < (n : Int) := by omega
      clear h1 h2
      cases hb : (x k != y k)
      · go_wp2
        go_quiet (fail)
        go_wp2
        go_roundw
        case rel => exact ⟨k + 1, m + nq, by omega, by go_num, rfl⟩
        case measure => simp [intOf]; omega
      · go_wp2
        go_quiet (fail)
        go_wp2
        go_ret
        exact ⟨false, rfl, fun h => by simp [h k hlt] at hb, m + nq, World.drewN_drewN _ _ _⟩
    · clear h1 h2
      go_wp2
      go_ret
      exact ⟨true, rfl, fun _ => rfl, _, rfl⟩

/-- A slice of bytes that can be read in w. -/
def Bytes (w : World) (a : Option Addr) (n : Nat) : Prop :=
  n ≤ maxLen ∧ (n = 0 ∨ ∃ b off, ∃ x : Nat → Int, a = some ⟨b, off, none⟩ ∧ ∀ i, i < n → w.cell? ⟨b, off + i, none⟩ = some (.int .u8 (x i)))

theorem Bytes.later {w w1 : World} {a : Option Addr} {n : Nat} (h : Bytes w a n) (hb : Below w.heap.size w w1) : Bytes w1 a n := by
  refine ⟨h.1, ?_⟩
  rcases h.2 with h0 | ⟨b, off, x, rfl, hc⟩
  · exact .inl h0
  · exact .inr ⟨b, off, x, rfl, fun i hi => cell_later hb (hc i hi)⟩

theorem bytesEq_none (a1 : Option Addr) (c1 : Nat) (a2 : Option Addr) (c2 : Nat) (w : World) :
    Calls Try.prog 14 #[.slice a1 0 c1, .slice a2 0 c2] w fun e w' => e = .returned (.bool true) ∧ w' = w := by
  go_enter Try.func14, Try.ntmps14
  go_wp2
  go_loop [5] (fun i => i = .int .i64 0) (fun _ => 0)
  case atStart => rfl
  case round =>
    subst hrel
    go_wp2
    go_ret
    exact ⟨rfl, rfl⟩

theorem bytesEq_any (a1 : Option Addr) (n1 c1 : Nat) (a2 : Option Addr) (n2 c2 : Nat) (w : World) (h1 : Bytes w a1 n1) (h2 : Bytes w a2 n2) :
    Calls Try.prog 14 #[.slice a1 n1 c1, .slice a2 n2 c2] w fun e w' => ∃ q, e = .returned (.bool q) ∧ (a1 = a2 → n1 = n2 → q = true) ∧ ∃ k, w' = w.drewN k := by
  by_cases hn : n1 = n2
  · subst hn
    by_cases h0 : n1 = 0
    · subst h0
      exact (bytesEq_none a1 c1 a2 c2 w).mono fun e w' ⟨he, hw⟩ => ⟨true, he, fun _ _ => rfl, 0, hw⟩
    · obtain ⟨hm, h1⟩ := h1
      obtain ⟨_, h2⟩ := h2
      rcases h1 with h1 | ⟨b1, o1, x, rfl, h1⟩
      · exact absurd h1 h0
      rcases h2 with h2 | ⟨b2, o2, y, rfl, h2⟩
      · exact absurd h2 h0
      refine (bytesEq_core b1 o1 c1 b2 o2 c2 n1 x y w hm h1 h2).mono ?_
      rintro e w' ⟨q, he, hq, hk⟩
      refine ⟨q, he, fun ha _ => hq fun i hi => ?_, hk⟩
      injection ha with ha
      injection ha with hb ho
      subst hb
      subst ho
      have := (h1 i hi).symm.trans (h2 i hi)
      injection this with this
      injection this
  · have hne : ((n1 : Int) != (n2 : Int)) = true := by simp; omega
    clear h1 h2
    go_enter Try.func14, Try.ntmps14
    go_wp2
    go_ret
    exact ⟨false, rfl, fun _ h => absurd h hn, 0, rfl⟩

set_option maxHeartbeats 1000000 in
theorem eq_any (A B : Av) (w : World) (hA : Bytes w A.at' A.len) (hB : Bytes w B.at' B.len) :
    Calls Try.prog 9 #[A.val, B.val] w fun e w' => ∃ q, e = .returned (.bool q) ∧ (A = B → q = true) ∧ Below w.heap.size w w' := by
  have HC : Hid (∀ w0, Below w.heap.size w w0 → Calls Try.prog 14 #[.slice A.at' A.len A.cap, .slice B.at' B.len B.cap] w0 fun e w' => ∃ q, e = .returned (.bool q) ∧ (A.at' = B.at' → A.len = B.len → q = true) ∧ ∃ k, w' = w0.drewN k) :=
    fun w0 hb => bytesEq_any _ _ _ _ _ _ w0 (hA.later hb) (hB.later hb)
  clear hA hB
  cases h1 : (A.code == B.code)
  · go_enter Try.func9, Try.ntmps9
    go_wp2
    go_ret
    exact ⟨false, rfl, fun h => by simp [h] at h1, ((Below.refl _ _).alloc (Nat.le_refl _) _).alloc (by simp) _⟩
  · cases h2 : (A.flags == B.flags)
    · go_enter Try.func9, Try.ntmps9
      go_wp2
      go_ret
      exact ⟨false, rfl, fun h => by simp [h] at h2, ((Below.refl _ _).alloc (Nat.le_refl _) _).alloc (by simp) _⟩
    · cases h3 : (A.vendor == B.vendor)
      · go_enter Try.func9, Try.ntmps9
        go_wp2
        go_ret
        exact ⟨false, rfl, fun h => by simp [h] at h3, ((Below.refl _ _).alloc (Nat.le_refl _) _).alloc (by simp) _⟩
      · have E1 : Hid ((A.code == B.code) = true) := h1
        have E2 : Hid ((A.flags == B.flags) = true) := h2
        have E3 : Hid ((A.vendor == B.vendor) = true) := h3
        go_enter Try.func9, Try.ntmps9
        go_wp2_with fail
        refine (HC.out _ (((Below.refl _ _).alloc (Nat.le_refl _) _).alloc (by simp) _)).mono ?_
        rintro e w1 ⟨q, rfl, hq, k, rfl⟩
        have HQ : Hid (A.at' = B.at' → A.len = B.len → q = true) := hq
        clear hq
        go_wp2
        go_ret
        exact ⟨q, rfl, fun h => HQ.out (by rw [h]) (by rw [h]), below_drewN (((Below.refl _ _).alloc (Nat.le_refl _) _).alloc (by simp) _) _⟩

set_option maxHeartbeats 1000000 in
theorem eqZ_any (A B : Av) (w : World) (hA : Bytes w A.at' A.len) (hB : Bytes w B.at' B.len) :
    Calls Try.prog 10 #[A.val, B.val] w fun e w' => ∃ q, e = .returned (.bool q) ∧ (A = B → q = true) ∧ Below w.heap.size w w' := by
  have HC : Hid (∀ w0, Below w.heap.size w w0 → Calls Try.prog 14 #[.slice A.at' A.len A.cap, .slice B.at' B.len B.cap] w0 fun e w' => ∃ q, e = .returned (.bool q) ∧ (A.at' = B.at' → A.len = B.len → q = true) ∧ ∃ k, w' = w0.drewN k) :=
    fun w0 hb => bytesEq_any _ _ _ _ _ _ w0 (hA.later hb) (hB.later hb)
  clear hA hB
  cases h1 : (A.code == B.code)
  · go_enter Try.func10, Try.ntmps10
    go_wp2
    go_ret
    exact ⟨false, rfl, fun h => by simp [h] at h1, ((Below.refl _ _).alloc (Nat.le_refl _) _).alloc (by simp) _⟩
  · cases h2 : (A.flags == B.flags)
    · go_enter Try.func10, Try.ntmps10
      go_wp2
      go_ret
      exact ⟨false, rfl, fun h => by simp [h] at h2, ((Below.refl _ _).alloc (Nat.le_refl _) _).alloc (by simp) _⟩
    · cases h3 : (A.vendor == B.vendor)
      · go_enter Try.func10, Try.ntmps10
        go_wp2
        go_ret
        exact ⟨false, rfl, fun h => by simp [h] at h3, ((Below.refl _ _).alloc (Nat.le_refl _) _).alloc (by simp) _⟩
      · have E1 : Hid ((A.code == B.code) = true) := h1
        have E2 : Hid ((A.flags == B.flags) = true) := h2
        have E3 : Hid ((A.vendor == B.vendor) = true) := h3
        go_enter Try.func10, Try.ntmps10
        go_wp2_with fail
        refine (HC.out _ (((Below.refl _ _).alloc (Nat.le_refl _) _).alloc (by simp) _)).mono ?_
        rintro e w1 ⟨q, rfl, hq, k, rfl⟩
        have HQ : Hid (A.at' = B.at' → A.len = B.len → q = true) := hq
        clear hq
        go_wp2
        go_ret
        exact ⟨q, rfl, fun h => HQ.out (by rw [h]) (by rw [h]), below_drewN (((Below.refl _ _).alloc (Nat.le_refl _) _).alloc (by simp) _) _⟩

end Go.Proofs.Qxb6626480a
