/-
  WALKS: zzIsDigit (7), leadingDigits (12).
-/
import Derived.Test.Qxb6626307aRows
import Derived.Test.Qxb6626307aPlain
import Derived.WalkKit
import Derived.WalkSpells
import Derived.WalkLawsBesides
import Derived.Laws.IdiomStrings
namespace Go.Proofs.Qxb6626307a
open Go.RowKit
open Plain

theorem ret_int {k : IntKind} {a b : Int} (h : a = b) : Ending.returned (.int k a) = .returned (.int k b) := by rw [h]
theorem ret_bool {a b : Bool} (h : a = b) : Ending.returned (.bool a) = .returned (.bool b) := by rw [h]

theorem isDigit_any (c : UInt8) (w : World) :
    Calls Try.prog 7 #[.int .u8 (c.toNat : Int)] w fun e w' => e = .returned (.bool (isDig c)) ∧ w' = w := by
  by_cases h : 48 ≤ (c.toNat : Int)
  · by_cases h2 : (c.toNat : Int) ≤ 57
    · have e : isDig c = true := by simp only [isDig, h, h2]; rfl
      rw [e]
      go_enter Try.func7, Try.ntmps7
      go_wp2
      go_ret
      exact ⟨rfl, rfl⟩
    · have e : isDig c = false := by simp only [isDig, h, h2]; rfl
      rw [e]
      go_enter Try.func7, Try.ntmps7
      go_wp2
      go_ret
      exact ⟨rfl, rfl⟩
  · have e : isDig c = false := by simp only [isDig, h]; rfl
    rw [e]
    go_enter Try.func7, Try.ntmps7
    go_wp2
    go_ret
    exact ⟨rfl, rfl⟩

/-- '[]byte(s)', told over a world that is a name. -/
theorem bytes_of (s : ByteArray) (w : World) : ∃ cap w1, (convert 9 26 (.string s)).run Try.prog w = .ok (.slice (some ⟨w.heap.size, 0, none⟩) s.size cap) w1 ∧ Below w.heap.size w w1 ∧
    ∀ j (hj : j < s.size), w1.cell? ⟨w.heap.size, j, none⟩ = some (.int .u8 ((s[j]).toNat : Int)) := by
  refine ⟨_, _, run_bytes_of_string w 9 26 5 s Try.underlying9 Try.underlying26 Try.underlying5, ?_, ?_⟩
  · exact (Below.refl _ _).drew.alloc (Nat.le_refl _) _
  · intro j hj
    have := World.cell?_alloc_mark w.drew (bytesRow s (grownCap w s.size 0 5)) 5 ((bytesRow s (grownCap w s.size 0 5)).size, (bytesRow s (grownCap w s.size 0 5)).size + 1) j
    rw [bytesRow_at s _ j (by simpa using hj)] at this
    exact this

theorem lead_drop (s : ByteArray) (k : Nat) (h : k < s.size) : lead (s.data.toList.drop k) = if isDig s[k] then lead (s.data.toList.drop (k + 1)) + 1 else 0 := by
  rw [List.drop_eq_getElem_cons (by simpa using h)]
  rfl

set_option maxHeartbeats 400000 in
theorem lead_any (s : ByteArray) (w : World) (hs : s.size ≤ maxLen) :
    Calls Try.prog 12 #[.string s] w fun e w' => e = .returned (.int .i64 (lead s.data.toList)) ∧ Below w.heap.size w w' := by
  unfold maxLen at hs
  obtain ⟨cap, w1, hcv, hb, hcell⟩ := bytes_of s w
  have HB : Hid (Below w.heap.size w w1) := hb
  clear hb
  go_enter Try.func12, Try.ntmps12
  go_wp2
  go_loop [8] (fun i => ∃ k : Nat, k ≤ s.size ∧ i = .int .i64 k ∧ lead s.data.toList = k + lead (s.data.toList.drop k)) (fun i => s.size - (intOf i).toNat)
  case atStart => exact ⟨0, Nat.zero_le _, rfl, by simp⟩
  case round =>
    obtain ⟨k, hk, rfl, hinv⟩ := hrel
    have HI : Hid (lead s.data.toList = k + lead (s.data.toList.drop k)) := hinv
    clear hinv
    by_cases hlt : k < s.size
    · have hc := hcell k hlt
      have HD : Hid (lead (s.data.toList.drop k) = if isDig s[k] then lead (s.data.toList.drop (k + 1)) + 1 else 0) := lead_drop s k hlt
      clear hcell
      by_cases h1 : (s[k].toNat : Int) < 48
      · go_wp2
        go_ret
        refine ⟨ret_int ?_, HB.out⟩
        have e : isDig s[k] = false := by simp only [isDig]; simp; omega
        have := HD.out
        rw [e] at this
        have h2 := HI.out
        rw [this] at h2
        simp [h2]
      · by_cases h2 : 57 < (s[k].toNat : Int)
        · go_wp2
          go_ret
          refine ⟨ret_int ?_, HB.out⟩
          have e : isDig s[k] = false := by simp only [isDig]; simp; omega
          have := HD.out
          rw [e] at this
          have h2 := HI.out
          rw [this] at h2
          simp [h2]
        · go_wp2
          go_round
          case rel =>
            refine ⟨k + 1, by omega, by go_num, ?_⟩
            have e : isDig s[k] = true := by simp only [isDig]; simp; omega
            have := HD.out
            rw [e] at this
            have h2 := HI.out
            rw [this] at h2
            simp at h2 ⊢
            omega
          case measure => simp [intOf]; omega
    · clear hcell
      go_wp2
      go_ret
      refine ⟨ret_int ?_, HB.out⟩
      have h2 := HI.out
      rw [List.drop_eq_nil_of_le (by simp; omega)] at h2
      simp [lead] at h2
      omega

end Go.Proofs.Qxb6626307a
