/-
  WALKS: IsDecimal (8).
-/
import Derived.Test.Qxb6626307aLead
import Derived.Outline
namespace Go.Proofs.Qxb6626307a
open Go.RowKit
open Plain

theorem isEmpty_of (s : ByteArray) : s.toList.isEmpty = decide (s.size = 0) := by
  rw [ByteArray.toList_eq, Bool.eq_iff_iff]
  simp only [List.isEmpty_iff, decide_eq_true_eq]
  constructor
  · intro h
    have := congrArg List.length h
    simpa using this
  · intro h
    have : s.data.toList.length = 0 := by simpa using h
    exact List.length_eq_zero_iff.1 this

theorem extract_list (s : ByteArray) (k : Nat) : (s.extract k s.size).data.toList = s.data.toList.drop k := by
  have h : s.data.toList.length = s.size := by simp
  simp [ByteArray.data_extract]
  rw [← h, List.take_of_length_le (by simp)]

theorem data_cons (s : ByteArray) (h : 0 < s.size) : s.data.toList = s[0] :: s.data.toList.drop 1 := by
  have := List.drop_eq_getElem_cons (l := s.data.toList) (i := 0) (by simpa using h)
  rw [List.drop_zero] at this
  exact this

theorem strip_yes (s : ByteArray) (h : 0 < s.size) (hc : s[0].toNat = 43 ∨ s[0].toNat = 45) : (s.extract 1 s.size).data.toList = strip s.data.toList := by
  rw [extract_list, data_cons s h, strip_sign _ _ hc]
  simp

theorem strip_no (s : ByteArray) (hc : ∀ h : 0 < s.size, ¬ (s[0].toNat = 43 ∨ s[0].toNat = 45)) : s.data.toList = strip s.data.toList := by
  by_cases h : 0 < s.size
  · have := hc h
    rw [data_cons s h]
    simp only [strip]
    rw [if_neg this]
  · have h2 : s.size = 0 := by omega
    have : s.data.toList = [] := List.length_eq_zero_iff.1 (by simpa using h2)
    rw [this]
    rfl

theorem getD_at (u : ByteArray) (k : Nat) (h : k < u.size) : u.data.toList.getD k 0 = u[k] := by
  have h' : k < u.data.toList.length := by simpa using h
  simp [List.getD, List.getElem?_eq_getElem h']
  rfl

/-- The four ways through the first 'if': what is left of the string behind it. -/
def Way (s u : ByteArray) : Prop :=
  (s.toList.isEmpty = true ∧ u = s) ∨
  (s.toList.isEmpty = false ∧ ∃ h : 0 < s.size, ((s[0].toNat : Int) == 43) = true ∧ s.extract 1 s.size = u) ∨
  (s.toList.isEmpty = false ∧ ∃ h : 0 < s.size, ((s[0].toNat : Int) == 43) = false ∧ ((s[0].toNat : Int) == 45) = true ∧ s.extract 1 s.size = u) ∨
  (s.toList.isEmpty = false ∧ ∃ h : 0 < s.size, ((s[0].toNat : Int) == 43) = false ∧ ((s[0].toNat : Int) == 45) = false ∧ u = s)

theorem way (s : ByteArray) : ∃ u, Way s u ∧ u.data.toList = strip s.data.toList ∧ u.size ≤ s.size := by
  by_cases h0 : s.size = 0
  · exact ⟨s, .inl ⟨by rw [isEmpty_of]; simpa using h0, rfl⟩, strip_no s (fun h => by omega), Nat.le_refl _⟩
  · have h : 0 < s.size := by omega
    have hE : s.toList.isEmpty = false := by rw [isEmpty_of]; simpa using h0
    by_cases h1 : s[0].toNat = 43
    · exact ⟨_, .inr (.inl ⟨hE, h, by simp [h1], rfl⟩), strip_yes s h (.inl h1), by simp⟩
    · by_cases h2 : s[0].toNat = 45
      · exact ⟨_, .inr (.inr (.inl ⟨hE, h, by simp; omega, by simp [h2], rfl⟩)), strip_yes s h (.inr h2), by simp⟩
      · exact ⟨s, .inr (.inr (.inr ⟨hE, h, by simp; omega, by simp; omega, rfl⟩)), strip_no s (fun _ => by omega), Nat.le_refl _⟩

/-- No digit at the head. -/
theorem dec_zero (s u : ByteArray) (w : World) (hs : s.size ≤ maxLen) (hu : u.size ≤ s.size) (hw : Way s u) (h0 : lead u.data.toList = 0) :
    Calls Try.prog 8 #[.string s] w fun e w' => e = .returned (.bool false) ∧ Below w.heap.size w w' := by
  have HC : Hid (Calls Try.prog 12 #[.string u] w fun e w' => e = .returned (.int .i64 0) ∧ Below w.heap.size w w') := by
    refine (lead_any u w (by omega)).mono fun e w' ⟨he, hb⟩ => ⟨?_, hb⟩
    rw [he, h0]; rfl
  unfold maxLen at hs
  clear h0
  rcases hw with ⟨hE, rfl⟩ | ⟨hE, h1, hc, hx⟩ | ⟨hE, h1, hc, hd, hx⟩ | ⟨hE, h1, hc, hd, rfl⟩
  all_goals
    go_enter Try.func8, Try.ntmps8
    go_wp2_with fail
    refine HC.out.mono ?_
    rintro e w' ⟨rfl, hb⟩
    go_wp2
    go_ret
    exact ⟨rfl, hb⟩

/-- Digits alone. -/
theorem dec_full (s u : ByteArray) (w : World) (hs : s.size ≤ maxLen) (hu : u.size ≤ s.size) (hw : Way s u) (h0 : lead u.data.toList = u.size) (hp : 0 < u.size) :
    Calls Try.prog 8 #[.string s] w fun e w' => e = .returned (.bool true) ∧ Below w.heap.size w w' := by
  have HC : Hid (Calls Try.prog 12 #[.string u] w fun e w' => e = .returned (.int .i64 u.size) ∧ Below w.heap.size w w') := by
    refine (lead_any u w (by omega)).mono fun e w' ⟨he, hb⟩ => ⟨?_, hb⟩
    rw [he, h0]
  unfold maxLen at hs
  clear h0
  have hp' : (0 : Int) < (u.size : Int) := by omega
  have hz : ((u.size : Int) == 0) = false := beq_false_of_ne (by omega)
  rcases hw with ⟨hE, rfl⟩ | ⟨hE, h1, hc, hx⟩ | ⟨hE, h1, hc, hd, hx⟩ | ⟨hE, h1, hc, hd, rfl⟩
  all_goals
    go_enter Try.func8, Try.ntmps8
    go_wp2_with fail
    refine HC.out.mono ?_
    rintro e w' ⟨rfl, hb⟩
    go_wp2
    go_ret
    exact ⟨rfl, hb⟩

/-- Behind the digits no point. -/
theorem dec_other (s u : ByteArray) (w : World) (hs : s.size ≤ maxLen) (hu : u.size ≤ s.size) (hw : Way s u) (k : Nat) (h0 : lead u.data.toList = k) (hp : 0 < k) (hk : k < u.size) (hd46 : ((u[k].toNat : Int) == 46) = false) :
    Calls Try.prog 8 #[.string s] w fun e w' => e = .returned (.bool false) ∧ Below w.heap.size w w' := by
  have HC : Hid (Calls Try.prog 12 #[.string u] w fun e w' => e = .returned (.int .i64 k) ∧ Below w.heap.size w w') := by
    refine (lead_any u w (by omega)).mono fun e w' ⟨he, hb⟩ => ⟨?_, hb⟩
    rw [he, h0]
  unfold maxLen at hs
  clear h0
  have hz : ((k : Int) == 0) = false := by simp; omega
  have hz2 : ((k : Int) == (u.size : Int)) = false := by simp; omega
  rcases hw with ⟨hE, rfl⟩ | ⟨hE, h1, hc, hx⟩ | ⟨hE, h1, hc, hd, hx⟩ | ⟨hE, h1, hc, hd, rfl⟩
  all_goals
    go_enter Try.func8, Try.ntmps8
    go_wp2_with fail
    refine HC.out.mono ?_
    rintro e w' ⟨rfl, hb⟩
    go_wp2
    go_ret
    exact ⟨rfl, hb⟩

/-- A point, and nothing behind it. -/
theorem dec_bare (s u : ByteArray) (w : World) (hs : s.size ≤ maxLen) (hu : u.size ≤ s.size) (hw : Way s u) (k : Nat) (h0 : lead u.data.toList = k) (hp : 0 < k) (hk : k < u.size) (hd46 : ((u[k].toNat : Int) == 46) = true)
    (t : ByteArray) (ht : u.extract (k + 1) u.size = t) (hte : t.toList.isEmpty = true) :
    Calls Try.prog 8 #[.string s] w fun e w' => e = .returned (.bool false) ∧ Below w.heap.size w w' := by
  have HC : Hid (Calls Try.prog 12 #[.string u] w fun e w' => e = .returned (.int .i64 k) ∧ Below w.heap.size w w') := by
    refine (lead_any u w (by omega)).mono fun e w' ⟨he, hb⟩ => ⟨?_, hb⟩
    rw [he, h0]
  unfold maxLen at hs
  clear h0
  have hz : ((k : Int) == 0) = false := by simp; omega
  have hz2 : ((k : Int) == (u.size : Int)) = false := by simp; omega
  rcases hw with ⟨hE, rfl⟩ | ⟨hE, h1, hc, hx⟩ | ⟨hE, h1, hc, hd, hx⟩ | ⟨hE, h1, hc, hd, rfl⟩
  all_goals
    go_enter Try.func8, Try.ntmps8
    go_wp2_with fail
    refine HC.out.mono ?_
    rintro e w' ⟨rfl, hb⟩
    go_wp2
    go_ret
    exact ⟨rfl, hb⟩

/-- A point, and something behind it. -/
theorem dec_frac (s u : ByteArray) (w : World) (hs : s.size ≤ maxLen) (hu : u.size ≤ s.size) (hw : Way s u) (k : Nat) (h0 : lead u.data.toList = k) (hp : 0 < k) (hk : k < u.size) (hd46 : ((u[k].toNat : Int) == 46) = true)
    (t : ByteArray) (ht : u.extract (k + 1) u.size = t) (hts : t.size ≤ u.size) (hte : t.toList.isEmpty = false) :
    Calls Try.prog 8 #[.string s] w fun e w' => e = .returned (.bool ((lead t.data.toList : Int) == (t.size : Int))) ∧ Below w.heap.size w w' := by
  have HC : Hid (Calls Try.prog 12 #[.string u] w fun e w' => e = .returned (.int .i64 k) ∧ Below w.heap.size w w') := by
    refine (lead_any u w (by omega)).mono fun e w' ⟨he, hb⟩ => ⟨?_, hb⟩
    rw [he, h0]
  have HT : Hid (∀ w, Calls Try.prog 12 #[.string t] w fun e w' => e = .returned (.int .i64 (lead t.data.toList)) ∧ Below w.heap.size w w') := fun w => lead_any t w (by omega)
  unfold maxLen at hs
  clear h0
  have hz : ((k : Int) == 0) = false := by simp; omega
  have hz2 : ((k : Int) == (u.size : Int)) = false := by simp; omega
  rcases hw with ⟨hE, rfl⟩ | ⟨hE, h1, hc, hx⟩ | ⟨hE, h1, hc, hd, hx⟩ | ⟨hE, h1, hc, hd, rfl⟩
  all_goals
    go_enter Try.func8, Try.ntmps8
    go_wp2_with fail
    refine HC.out.mono ?_
    rintro e w' ⟨rfl, hb⟩
    go_wp2_with fail
    refine (HT.out _).mono ?_
    rintro e w'' ⟨rfl, hb2⟩
    go_wp2
    go_ret
    exact ⟨rfl, hb.trans (hb2.mono hb.size)⟩

theorem dec_any (s : ByteArray) (w : World) (hs : s.size ≤ maxLen) :
    Calls Try.prog 8 #[.string s] w fun e w' => e = .returned (.bool (isDec s.data.toList)) ∧ Below w.heap.size w w' := by
  obtain ⟨u, hw, hu, hus⟩ := way s
  have hlen : u.data.toList.length = u.size := by simp
  have hle := lead_le u.data.toList
  rw [hlen] at hle
  unfold isDec
  rw [← hu]
  by_cases h0 : lead u.data.toList = 0
  · have e : dec u.data.toList = false := by unfold dec; rw [if_pos (.inl h0), h0]; rfl
    rw [e]
    exact dec_zero s u w hs hus hw h0
  · by_cases h1 : lead u.data.toList = u.size
    · have e : dec u.data.toList = true := by unfold dec; rw [if_pos (.inr (by rw [hlen]; exact h1))]; simp; omega
      rw [e]
      exact dec_full s u w hs hus hw h1 (by omega)
    · have hk : lead u.data.toList < u.size := by omega
      have e : dec u.data.toList = (decide (((u.data.toList.getD (lead u.data.toList) 0).toNat : Int) = 46) && (!(u.data.toList.drop (lead u.data.toList + 1)).isEmpty && decide (lead (u.data.toList.drop (lead u.data.toList + 1)) = (u.data.toList.drop (lead u.data.toList + 1)).length))) := by
        conv => lhs; unfold dec
        rw [if_neg (by rw [hlen]; omega)]
      rw [getD_at u _ hk, ← extract_list] at e
      rw [e]
      generalize hkk : lead u.data.toList = k at *
      by_cases h46 : (u[k].toNat : Int) = 46
      · obtain ⟨t, ht⟩ : ∃ t, u.extract (k + 1) u.size = t := ⟨_, rfl⟩
        rw [ht]
        have hts : t.size ≤ u.size := by rw [← ht]; simp
        have ee : t.data.toList.isEmpty = t.toList.isEmpty := by rw [ByteArray.toList_eq]
        cases hte : t.toList.isEmpty
        · rw [ee, hte]
          have e2 : (decide ((u[k].toNat : Int) = 46) && (!false && decide (lead t.data.toList = t.data.toList.length))) = ((lead t.data.toList : Int) == (t.size : Int)) := by
            rw [Bool.eq_iff_iff]
            simp [h46]
            omega
          rw [e2]
          exact dec_frac s u w hs hus hw k hkk (by omega) hk (by simp [h46]) t ht hts hte
        · rw [ee, hte]
          simp only [Bool.not_true, Bool.false_and, Bool.and_false]
          exact dec_bare s u w hs hus hw k hkk (by omega) hk (by simp [h46]) t ht hte
      · have e2 : decide ((u[k].toNat : Int) = 46) = false := by simpa using h46
        rw [e2, Bool.false_and]
        exact dec_other s u w hs hus hw k hkk (by omega) hk (by simpa using h46)

end Go.Proofs.Qxb6626307a
