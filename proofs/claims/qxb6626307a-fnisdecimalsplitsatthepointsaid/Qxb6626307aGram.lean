/-
  WALKS: zzDecimalGrammar (6), zzBytes (5, 9), zzHasDot (10), zzAllDigitsNonEmpty (11).
-/
import Derived.Test.Qxb6626307aDec
namespace Go.Proofs.Qxb6626307a
open Go.RowKit
open Plain

/-- The ways through the grammar's first 'if'. -/
def WayG (s u : ByteArray) : Prop :=
  (¬ 0 < s.size ∧ u = s) ∨
  (∃ h : 0 < s.size, ((s[0].toNat : Int) == 43) = true ∧ s.extract 1 s.size = u) ∨
  (∃ h : 0 < s.size, ((s[0].toNat : Int) == 43) = false ∧ ((s[0].toNat : Int) == 45) = true ∧ s.extract 1 s.size = u) ∨
  (∃ h : 0 < s.size, ((s[0].toNat : Int) == 43) = false ∧ ((s[0].toNat : Int) == 45) = false ∧ u = s)

theorem wayG {s u : ByteArray} (h : Way s u) : WayG s u := by
  rcases h with ⟨hE, rfl⟩ | ⟨hE, h1, hc, hx⟩ | ⟨hE, h1, hc, hd, hx⟩ | ⟨hE, h1, hc, hd, rfl⟩
  · rw [isEmpty_of] at hE
    have := of_decide_eq_true hE
    exact .inl ⟨by omega, rfl⟩
  · exact .inr (.inl ⟨h1, hc, hx⟩)
  · exact .inr (.inr (.inl ⟨h1, hc, hd, hx⟩))
  · exact .inr (.inr (.inr ⟨h1, hc, hd, rfl⟩))

theorem gram_empty (s u : ByteArray) (w : World) (hs : s.size ≤ maxLen) (hw : WayG s u) (h0 : ((u.size : Int) == 0) = true) :
    Calls Try.prog 6 #[.string s] w fun e w' => e = .returned (.bool false) ∧ w' = w := by
  unfold maxLen at hs
  rcases hw with ⟨hE, rfl⟩ | ⟨h1, hc, hx⟩ | ⟨h1, hc, hd, hx⟩ | ⟨h1, hc, hd, rfl⟩
  all_goals
    go_enter Try.func6, Try.ntmps6
    go_wp2
    go_ret
    exact ⟨rfl, rfl⟩

theorem gram_first (s u : ByteArray) (w : World) (hs : s.size ≤ maxLen) (hw : WayG s u) (hz : ((u.size : Int) == 0) = false) (hp : 0 < u.size) (h46 : ((u[0].toNat : Int) == 46) = true) :
    Calls Try.prog 6 #[.string s] w fun e w' => e = .returned (.bool false) ∧ w' = w := by
  unfold maxLen at hs
  rcases hw with ⟨hE, rfl⟩ | ⟨h1, hc, hx⟩ | ⟨h1, hc, hd, hx⟩ | ⟨h1, hc, hd, rfl⟩
  · omega
  all_goals
    go_enter Try.func6, Try.ntmps6
    go_wp2
    go_ret
    exact ⟨rfl, rfl⟩

theorem gram_last (s u : ByteArray) (w : World) (hs : s.size ≤ maxLen) (hus : u.size ≤ s.size) (hw : WayG s u) (hz : ((u.size : Int) == 0) = false) (hp : 0 < u.size) (h46 : ((u[0].toNat : Int) == 46) = false) (hl46 : ((u[u.size - 1].toNat : Int) == 46) = true) :
    Calls Try.prog 6 #[.string s] w fun e w' => e = .returned (.bool false) ∧ w' = w := by
  unfold maxLen at hs
  have hlast : (u.size : Int) - 1 < (u.size : Int) := by omega
  have hlast0 : (0 : Int) ≤ (u.size : Int) - 1 := by omega
  rcases hw with ⟨hE, rfl⟩ | ⟨h1, hc, hx⟩ | ⟨h1, hc, hd, hx⟩ | ⟨h1, hc, hd, rfl⟩
  · omega
  all_goals
    go_enter Try.func6, Try.ntmps6
    go_wp2
    go_ret
    exact ⟨rfl, rfl⟩

theorem dots_le : ∀ l : List UInt8, dots l ≤ l.length
  | [] => Nat.le_refl _
  | c :: l => by
    have := dots_le l
    simp only [dots, List.length_cons]
    split <;> omega

theorem dots_drop (s : ByteArray) (k : Nat) (h : k < s.size) : dots (s.data.toList.drop k) = if s[k].toNat = 46 then dots (s.data.toList.drop (k + 1)) + 1 else dots (s.data.toList.drop (k + 1)) := by
  rw [List.drop_eq_getElem_cons (by simpa using h)]
  rfl
theorem clean_drop (s : ByteArray) (k : Nat) (h : k < s.size) : clean (s.data.toList.drop k) = ((decide (s[k].toNat = 46) || isDig s[k]) && clean (s.data.toList.drop (k + 1))) := by
  rw [List.drop_eq_getElem_cons (by simpa using h)]
  rfl

/-- What the loop has seen of u by place k. -/
def Seen (u : ByteArray) (k d : Nat) : Prop :=
  dots u.data.toList = d + dots (u.data.toList.drop k) ∧ clean u.data.toList = clean (u.data.toList.drop k)

theorem seen_dot {u : ByteArray} {k d : Nat} (h : Seen u k d) (hk : k < u.size) (hc : ((u[k].toNat : Int) == 46) = true) : Seen u (k + 1) (d + 1) := by
  have hc' : u[k].toNat = 46 := by have := eq_of_beq hc; omega
  unfold Seen at h ⊢
  rw [dots_drop u k hk, clean_drop u k hk] at h
  simp [hc'] at h
  exact ⟨by omega, h.2⟩
theorem seen_dig {u : ByteArray} {k d : Nat} (h : Seen u k d) (hk : k < u.size) (hc : ((u[k].toNat : Int) == 46) = false) (hd : isDig u[k] = true) : Seen u (k + 1) d := by
  have hc' : u[k].toNat ≠ 46 := by have := ne_of_beq_false hc; omega
  unfold Seen at h ⊢
  rw [dots_drop u k hk, clean_drop u k hk] at h
  simp [hc', hd] at h
  exact h
theorem seen_bad {u : ByteArray} {k d : Nat} (h : Seen u k d) (hk : k < u.size) (hc : ((u[k].toNat : Int) == 46) = false) (hd : isDig u[k] = false) : (clean u.data.toList && decide (dots u.data.toList ≤ 1)) = false := by
  have hc' : u[k].toNat ≠ 46 := by have := ne_of_beq_false hc; omega
  unfold Seen at h
  rw [clean_drop u k hk] at h
  simp [hc', hd] at h
  simp [h.2]
theorem seen_end {u : ByteArray} {k d : Nat} (h : Seen u k d) (hk : u.size ≤ k) : (clean u.data.toList && decide (dots u.data.toList ≤ 1)) = decide ((d : Int) ≤ 1) := by
  unfold Seen at h
  rw [List.drop_eq_nil_of_le (by simpa using hk)] at h
  simp [dots, clean] at h
  simp [h.1, h.2]
  omega

set_option maxHeartbeats 1000000 in
theorem gram_loop (s u : ByteArray) (w : World) (hs : s.size ≤ maxLen) (hus : u.size ≤ s.size) (hw : WayG s u) (hz : ((u.size : Int) == 0) = false) (hp : 0 < u.size) (h46 : ((u[0].toNat : Int) == 46) = false) (hl46 : ((u[u.size - 1].toNat : Int) == 46) = false) :
    Calls Try.prog 6 #[.string s] w fun e w' => e = .returned (.bool (clean u.data.toList && decide (dots u.data.toList ≤ 1))) ∧ w' = w := by
  unfold maxLen at hs
  have hlast : (u.size : Int) - 1 < (u.size : Int) := by omega
  have hlast0 : (0 : Int) ≤ (u.size : Int) - 1 := by omega
  rcases hw with ⟨hE, rfl⟩ | ⟨h1, hc, hx⟩ | ⟨h1, hc, hd, hx⟩ | ⟨h1, hc, hd, rfl⟩
  · omega
  all_goals
    go_enter Try.func6, Try.ntmps6
    go_wp2
    go_loop [4, 5] (fun n i => ∃ k d : Nat, k ≤ u.size ∧ d ≤ k ∧ n = .int .i64 d ∧ i = .int .i64 k ∧ Hid (Seen u k d)) (fun _ i => u.size - (intOf i).toNat)
    case atStart => exact ⟨0, 0, Nat.zero_le _, Nat.le_refl _, rfl, rfl, by simp [Seen, Hid]⟩
    case round =>
      obtain ⟨k, d, hk, hdk, rfl, rfl, hsn⟩ := hrel
      by_cases hlt : k < u.size
      · cases hb : ((u[k].toNat : Int) == 46)
        · cases hdg : isDig u[k]
          · go_wp2_with (go_at_call 7; refine (isDigit_any _ _).mono ?_; rintro e w' ⟨rfl, rfl⟩)
            go_ret
            exact ⟨ret_bool (seen_bad hsn.out hlt hb hdg).symm, rfl⟩
          · go_wp2_with (go_at_call 7; refine (isDigit_any _ _).mono ?_; rintro e w' ⟨rfl, rfl⟩)
            go_round
            case rel => exact ⟨k + 1, d, by omega, by omega, rfl, by go_num, seen_dig hsn.out hlt hb hdg⟩
            case measure => simp [intOf]; omega
        · go_wp2
          go_round
          case rel => exact ⟨k + 1, d + 1, by omega, by omega, by go_num, by go_num, seen_dot hsn.out hlt hb⟩
          case measure => simp [intOf]; omega
      · go_wp2
        go_ret
        exact ⟨ret_bool (seen_end hsn.out (by omega)).symm, rfl⟩

theorem gram_any (s : ByteArray) (w : World) (hs : s.size ≤ maxLen) :
    Calls Try.prog 6 #[.string s] w fun e w' => e = .returned (.bool (gram s.data.toList)) ∧ w' = w := by
  obtain ⟨u, hw, hu, hus⟩ := way s
  have hw := wayG hw
  have hlen : u.data.toList.length = u.size := by simp
  unfold gram
  rw [← hu]
  unfold gramU
  rw [hlen]
  by_cases h0 : u.size = 0
  · rw [if_pos h0]
    exact gram_empty s u w hs hw (by simp [h0])
  · rw [if_neg h0]
    have hz : ((u.size : Int) == 0) = false := beq_false_of_ne (by omega)
    have hp : 0 < u.size := by omega
    rw [getD_at u 0 hp, getD_at u (u.size - 1) (by omega)]
    by_cases h1 : u[0].toNat = 46
    · rw [if_pos (.inl h1)]
      exact gram_first s u w hs hw hz hp (by simp [h1])
    · have h1' : ((u[0].toNat : Int) == 46) = false := beq_false_of_ne (by omega)
      by_cases h2 : u[u.size - 1].toNat = 46
      · rw [if_pos (.inr h2)]
        exact gram_last s u w hs hus hw hz hp h1' (by simp [h2])
      · rw [if_neg (by omega)]
        exact gram_loop s u w hs hus hw hz hp h1' (beq_false_of_ne (by omega))

/-- 'zzBytes' (5): at most 2^20 bytes. -/
theorem bytes1_any (s : ByteArray) (w : World) (hs : s.size ≤ maxLen) :
    Calls Try.prog 5 #[.string s] w fun e w' => e = .returned (.bool (decide (s.size ≤ 1048576))) ∧ w' = w := by
  unfold maxLen at hs
  by_cases h : s.size ≤ 1048576
  · rw [decide_eq_true h]
    go_enter Try.func5, Try.ntmps5
    go_wp2
    go_ret
    exact ⟨rfl, rfl⟩
  · rw [decide_eq_false h]
    go_enter Try.func5, Try.ntmps5
    go_wp2
    go_ret
    exact ⟨rfl, rfl⟩

theorem bytes2_any (s t : ByteArray) (w : World) (hs : s.size ≤ maxLen) (ht : t.size ≤ maxLen) :
    Calls Try.prog 9 #[.string s, .string t] w fun e w' => e = .returned (.bool (decide (s.size + t.size ≤ 1048576))) ∧ w' = w := by
  unfold maxLen at hs ht
  by_cases h1 : s.size ≤ 1048576
  · by_cases h2 : t.size ≤ 1048576
    · by_cases h : s.size + t.size ≤ 1048576
      · rw [decide_eq_true h]
        go_enter Try.func9, Try.ntmps9
        go_wp2
        go_ret
        exact ⟨rfl, rfl⟩
      · rw [decide_eq_false h]
        go_enter Try.func9, Try.ntmps9
        go_wp2
        go_ret
        exact ⟨rfl, rfl⟩
    · rw [decide_eq_false (by omega)]
      go_enter Try.func9, Try.ntmps9
      go_wp2
      go_ret
      exact ⟨rfl, rfl⟩
  · rw [decide_eq_false (by omega)]
    go_enter Try.func9, Try.ntmps9
    go_wp2
    go_ret
    exact ⟨rfl, rfl⟩

theorem hasDot_drop (s : ByteArray) (k : Nat) (h : k < s.size) : hasDot (s.data.toList.drop k) = if s[k].toNat = 46 then true else hasDot (s.data.toList.drop (k + 1)) := by
  rw [List.drop_eq_getElem_cons (by simpa using h)]
  rfl
theorem allDig_drop (s : ByteArray) (k : Nat) (h : k < s.size) : allDig (s.data.toList.drop k) = (isDig s[k] && allDig (s.data.toList.drop (k + 1))) := by
  rw [List.drop_eq_getElem_cons (by simpa using h)]
  rfl

theorem hasDot_any (s : ByteArray) (w : World) (hs : s.size ≤ maxLen) :
    Calls Try.prog 10 #[.string s] w fun e w' => e = .returned (.bool (hasDot s.data.toList)) ∧ w' = w := by
  unfold maxLen at hs
  go_enter Try.func10, Try.ntmps10
  go_wp2
  go_loop [3] (fun i => ∃ k : Nat, k ≤ s.size ∧ i = .int .i64 k ∧ Hid (hasDot s.data.toList = hasDot (s.data.toList.drop k))) (fun i => s.size - (intOf i).toNat)
  case atStart => exact ⟨0, Nat.zero_le _, rfl, by simp [Hid]⟩
  case round =>
    obtain ⟨k, hk, rfl, hinv⟩ := hrel
    by_cases hlt : k < s.size
    · have HD : Hid (hasDot (s.data.toList.drop k) = if s[k].toNat = 46 then true else hasDot (s.data.toList.drop (k + 1))) := hasDot_drop s k hlt
      cases hb : ((s[k].toNat : Int) == 46)
      · go_wp2
        go_round
        case rel =>
          refine ⟨k + 1, by omega, by go_num, ?_⟩
          have h1 := HD.out
          rw [if_neg (by have := ne_of_beq_false hb; omega)] at h1
          exact hinv.out.trans h1
        case measure => simp [intOf]; omega
      · go_wp2
        go_ret
        refine ⟨ret_bool ?_, rfl⟩
        have h1 := HD.out
        rw [if_pos (by have := eq_of_beq hb; omega)] at h1
        rw [hinv.out, h1]
    · go_wp2
      go_ret
      refine ⟨ret_bool ?_, rfl⟩
      rw [hinv.out, List.drop_eq_nil_of_le (by simp; omega)]
      rfl

theorem allDig_any (s : ByteArray) (w : World) (hs : s.size ≤ maxLen) :
    Calls Try.prog 11 #[.string s] w fun e w' => e = .returned (.bool (!s.data.toList.isEmpty && allDig s.data.toList)) ∧ w' = w := by
  unfold maxLen at hs
  have hE : s.data.toList.isEmpty = decide (s.size = 0) := by rw [← isEmpty_of, ByteArray.toList_eq]
  rw [hE]
  by_cases h0 : s.size = 0
  · have hz : ((s.size : Int) == 0) = true := by simp [h0]
    rw [decide_eq_true h0]
    clear h0 hE
    go_enter Try.func11, Try.ntmps11
    go_wp2
    go_ret
    exact ⟨rfl, rfl⟩
  · have hz : ((s.size : Int) == 0) = false := beq_false_of_ne (by omega)
    rw [decide_eq_false h0, Bool.not_false, Bool.true_and]
    clear hE
    go_enter Try.func11, Try.ntmps11
    go_wp2
    go_loop [3] (fun i => ∃ k : Nat, k ≤ s.size ∧ i = .int .i64 k ∧ Hid (allDig s.data.toList = allDig (s.data.toList.drop k))) (fun i => s.size - (intOf i).toNat)
    case atStart => exact ⟨0, Nat.zero_le _, rfl, by simp [Hid]⟩
    case round =>
      obtain ⟨k, hk, rfl, hinv⟩ := hrel
      by_cases hlt : k < s.size
      · have HD : Hid (allDig (s.data.toList.drop k) = (isDig s[k] && allDig (s.data.toList.drop (k + 1)))) := allDig_drop s k hlt
        cases hb : isDig s[k]
        · go_wp2_with (go_at_call 7; refine (isDigit_any _ _).mono ?_; rintro e w' ⟨rfl, rfl⟩)
          go_ret
          refine ⟨ret_bool ?_, rfl⟩
          have h1 := HD.out
          rw [hb] at h1
          rw [hinv.out, h1]
          rfl
        · go_wp2_with (go_at_call 7; refine (isDigit_any _ _).mono ?_; rintro e w' ⟨rfl, rfl⟩)
          go_round
          case rel =>
            refine ⟨k + 1, by omega, by go_num, ?_⟩
            have h1 := HD.out
            rw [hb, Bool.true_and] at h1
            exact hinv.out.trans h1
          case measure => simp [intOf]; omega
      · go_wp2
        go_ret
        refine ⟨ret_bool ?_, rfl⟩
        rw [hinv.out, List.drop_eq_nil_of_le (by simp; omega)]
        rfl

end Go.Proofs.Qxb6626307a
