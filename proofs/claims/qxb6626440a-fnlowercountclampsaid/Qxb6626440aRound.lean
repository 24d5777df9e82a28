/-
  SEAT b6626440a: THE PLAIN LAWS ON float64's WORDS, the second part: float64(n) is monotone; products, halves and differences of numbers. No Go in sight.
-/
import Derived.Test.Qxb6626440aOrd
namespace Go.Proofs.Qxb6626440a.Ord
open Ieee

/-- What is kept of m at the place of its last digit. -/
def kept (m : Nat) : Nat := Toward.even.cut false (m <<< (0 - (max ((0 : Int) + m.log2 - 52) (-1074))).toNat) ((max ((0 : Int) + m.log2 - 52) (-1074)) - 0).toNat

theorem rung_eq (m : Nat) (h : m ≠ 0) : rung m 0 = min ((m.log2 + 1022) * 4503599627370496 + kept m) 9218868437227405312 := by
  have e1 : (max ((0 : Int) + m.log2 - 52) (-1074) - -1074).toNat = m.log2 + 1022 := by omega
  unfold rung Format.nearest kept
  rw [if_neg h]
  simp only [least, binade_eq, inf_eq, Format.word, Bool.false_eq_true, if_false]
  have e2 : ((double.fractionBits : Nat) : Int) = 52 := by decide
  rw [e2, e1]

theorem cut_zero (n : Nat) : Toward.even.cut false n 0 = n := by
  simp [Toward.cut, Nat.mod_one]

theorem cut_eq (n d : Nat) (hd : d ≤ n.log2 + 2) : Toward.even.cut false n d = n / 2 ^ d + (decide (2 ^ d < 2 * (n % 2 ^ d)) || (2 ^ d == 2 * (n % 2 ^ d) && n / 2 ^ d % 2 == 1)).toNat := by
  simp only [Toward.cut]
  rw [Nat.min_eq_left hd, Nat.one_shiftLeft]

theorem cut_mono (n m d : Nat) (hn : d ≤ n.log2 + 2) (hm : d ≤ m.log2 + 2) (h : n ≤ m) : Toward.even.cut false n d ≤ Toward.even.cut false m d := by
  rw [cut_eq n d hn, cut_eq m d hm]
  have hq : n / 2 ^ d ≤ m / 2 ^ d := Nat.div_le_div_right h
  generalize hg : 2 ^ d = g at *
  have hpos : 0 < g := by rw [← hg]; exact Nat.pos_of_ne_zero (by simp)
  have b1 : (decide (g < 2 * (n % g)) || (g == 2 * (n % g) && n / g % 2 == 1)).toNat ≤ 1 := Bool.toNat_le _
  by_cases h1 : n / g = m / g
  · rw [h1]
    have hr : n % g ≤ m % g := by
      have a := Nat.div_add_mod n g
      have b := Nat.div_add_mod m g
      rw [h1] at a
      omega
    refine Nat.add_le_add_left ?_ _
    by_cases t1 : g < 2 * (m % g)
    · have : decide (g < 2 * (m % g)) = true := by simp [t1]
      rw [this, Bool.true_or]
      exact Bool.toNat_le _
    · by_cases t2 : g = 2 * (m % g) ∧ m / g % 2 = 1
      · have : (g == 2 * (m % g) && m / g % 2 == 1) = true := by simp [← t2.1, t2.2]
        rw [this, Bool.or_true]
        exact Bool.toNat_le _
      · have k1 : decide (g < 2 * (n % g)) = false := by simp; omega
        have k2 : (g == 2 * (n % g) && m / g % 2 == 1) = false := by
          rw [Bool.and_eq_false_iff]
          by_cases t3 : m / g % 2 = 1
          · left
            simp
            omega
          · right
            simp
            omega
        rw [k1, k2]
        exact Nat.zero_le _
  · omega

theorem kept_low (m : Nat) (h : m.log2 ≤ 52) : kept m = m * 2 ^ (52 - m.log2) := by
  unfold kept
  have e1 : (0 - max ((0 : Int) + m.log2 - 52) (-1074)).toNat = 52 - m.log2 := by omega
  have e2 : (max ((0 : Int) + m.log2 - 52) (-1074) - 0).toNat = 0 := by omega
  rw [e1, e2, cut_zero, Nat.shiftLeft_eq]

theorem kept_high (m : Nat) (h : 52 < m.log2) : kept m = Toward.even.cut false m (m.log2 - 52) := by
  unfold kept
  have e1 : (0 - max ((0 : Int) + m.log2 - 52) (-1074)).toNat = 0 := by omega
  have e2 : (max ((0 : Int) + m.log2 - 52) (-1074) - 0).toNat = m.log2 - 52 := by omega
  rw [e1, e2, Nat.shiftLeft_zero]

theorem pow52 : 2 ^ 52 = 4503599627370496 := by decide

theorem kept_bounds (m : Nat) (h : m ≠ 0) : 4503599627370496 ≤ kept m ∧ kept m ≤ 9007199254740992 := by
  have l1 := Nat.log2_self_le h
  have l2 := Nat.lt_log2_self (n := m)
  by_cases hl : m.log2 ≤ 52
  · rw [kept_low m hl]
    have e : 2 ^ m.log2 * 2 ^ (52 - m.log2) = 4503599627370496 := by rw [← Nat.pow_add, show m.log2 + (52 - m.log2) = 52 from by omega]
    have e2 : 2 ^ (m.log2 + 1) * 2 ^ (52 - m.log2) = 9007199254740992 := by rw [← Nat.pow_add, show m.log2 + 1 + (52 - m.log2) = 53 from by omega]
    have p : 0 < 2 ^ (52 - m.log2) := Nat.pos_of_ne_zero (by simp)
    exact ⟨by rw [← e]; exact Nat.mul_le_mul_right _ l1, by rw [← e2]; exact Nat.mul_le_mul_right _ (Nat.le_of_lt l2)⟩
  · rw [kept_high m (by omega), cut_eq m _ (by omega)]
    have e : 2 ^ m.log2 = 4503599627370496 * 2 ^ (m.log2 - 52) := by rw [← pow52, ← Nat.pow_add, show 52 + (m.log2 - 52) = m.log2 from by omega]
    have e2 : 2 ^ (m.log2 + 1) = 9007199254740992 * 2 ^ (m.log2 - 52) := by rw [Nat.pow_succ, e]; omega
    have p : 0 < 2 ^ (m.log2 - 52) := Nat.pos_of_ne_zero (by simp)
    have q1 : 4503599627370496 ≤ m / 2 ^ (m.log2 - 52) := by rw [Nat.le_div_iff_mul_le p, ← e]; exact l1
    have q2 : m / 2 ^ (m.log2 - 52) < 9007199254740992 := by rw [Nat.div_lt_iff_lt_mul p, ← e2]; exact l2
    have b := Bool.toNat_le (decide (2 ^ (m.log2 - 52) < 2 * (m % 2 ^ (m.log2 - 52))) || (2 ^ (m.log2 - 52) == 2 * (m % 2 ^ (m.log2 - 52)) && m / 2 ^ (m.log2 - 52) % 2 == 1))
    omega

theorem log2_mono {m n : Nat} (h0 : m ≠ 0) (h : m ≤ n) : m.log2 ≤ n.log2 := by
  have l1 := Nat.log2_self_le h0
  have l2 := Nat.lt_log2_self (n := n)
  rcases Nat.lt_or_ge n.log2 m.log2 with hlt | hge
  · exfalso
    have : 2 ^ (n.log2 + 1) ≤ 2 ^ m.log2 := Nat.pow_le_pow_right (by omega) hlt
    omega
  · exact hge

theorem rung_mono {m n : Nat} (h : m ≤ n) : rung m 0 ≤ rung n 0 := by
  by_cases hm : m = 0
  · subst hm
    have : rung 0 0 = 0 := by decide
    omega
  · have hn : n ≠ 0 := by omega
    rw [rung_eq m hm, rung_eq n hn]
    have hl := log2_mono hm h
    have b1 := kept_bounds m hm
    have b2 := kept_bounds n hn
    have key : (m.log2 + 1022) * 4503599627370496 + kept m ≤ (n.log2 + 1022) * 4503599627370496 + kept n := by
      by_cases e : m.log2 = n.log2
      · rw [e]
        refine Nat.add_le_add_left ?_ _
        by_cases h52 : m.log2 ≤ 52
        · rw [kept_low m h52, kept_low n (by omega), e]
          exact Nat.mul_le_mul_right _ h
        · rw [kept_high m (by omega), kept_high n (by omega), e]
          exact cut_mono m n _ (by omega) (by omega) h
      · omega
    omega

/-- float64(n), as a word. -/
def ofInt (n : Int) : Nat := double.nearest (decide (n < 0)) n.natAbs 0

theorem ofInt_nn (n : Int) : NN (ofInt n) := nn_nearest _ _ _

/-- float64 is monotone on the integers. -/
theorem ofInt_mono {n m : Int} (h : n ≤ m) : ¬ Lt (ofInt m) (ofInt n) := by
  unfold ofInt
  have h1 := nearest_word (decide (n < 0)) n.natAbs 0
  have h2 := nearest_word (decide (m < 0)) m.natAbs 0
  rw [h1.1, h2.1]
  have k1 := key_word (decide (n < 0)) _ h1.2
  have k2 := key_word (decide (m < 0)) _ h2.2
  unfold Lt
  by_cases n0 : n < 0
  · by_cases m0 : m < 0
    · have r := rung_mono (m := m.natAbs) (n := n.natAbs) (by omega)
      have vm := val_mono r
      rw [decide_eq_true n0, decide_eq_true m0] at *
      simp only [if_true] at k1 k2
      omega
    · rw [decide_eq_true n0] at *
      rw [decide_eq_false m0] at *
      simp only [if_true, Bool.false_eq_true, if_false] at k1 k2
      omega
  · have m0 : ¬ m < 0 := by omega
    have r := rung_mono (m := n.natAbs) (n := m.natAbs) (by omega)
    have vm := val_mono r
    rw [decide_eq_false n0, decide_eq_false m0] at *
    simp only [Bool.false_eq_true, if_false] at k1 k2
    omega

/-! ### The operations -/
theorem num_nn {x : Nat} (h : IsNum x) : NN x := by
  obtain ⟨s, m, i, e⟩ := h
  unfold NN
  rw [e]
  rfl

theorem mul_num {x y : Nat} (hx : IsNum x) (hy : IsNum y) : ∃ r, double.mul x y = some r ∧ NN r := by
  obtain ⟨s, m, i, e⟩ := hx
  obtain ⟨t, n, j, f⟩ := hy
  refine ⟨double.nearest (s ^^ t) (m * n) (i + j), ?_, nn_nearest _ _ _⟩
  unfold Format.mul
  rw [e, f]
  rfl

/-- x / 2. -/
def two : Nat := 4611686018427387904
theorem read_two : double.read two = .number false 4503599627370496 (-51) := by decide

theorem half_num {x : Nat} (hx : IsNum x) : ∃ r, double.div x two = some r ∧ NN r ∧ (¬ Lt x 0 → ¬ Lt r 0) := by
  obtain ⟨s, m, i, e⟩ := hx
  let more := double.fractionBits + 2 + (4503599627370496 : Nat).log2 - m.log2
  refine ⟨double.nearest (s ^^ false) (2 * ((m <<< more) / 4503599627370496) + ((m <<< more) % 4503599627370496 != 0).toNat) (i - (-51) - more - 1), ?_, nn_nearest _ _ _, ?_⟩
  · unfold Format.div
    rw [e, read_two]
    rfl
  · intro hnn
    have z : c 0 = 0 ∧ v 0 = 0 := by decide
    have h1 := nearest_word (s ^^ false) (2 * ((m <<< more) / 4503599627370496) + ((m <<< more) % 4503599627370496 != 0).toNat) (i - (-51) - more - 1)
    rw [h1.1]
    have k := key_word (s ^^ false) _ h1.2
    unfold Lt at hnn ⊢
    rw [z.1, z.2] at hnn ⊢
    cases s with
    | false =>
      simp only [Bool.xor_false, Bool.false_eq_true, if_false] at k ⊢
      omega
    | true =>
      have m0 : m = 0 := by
        unfold c v at hnn
        rw [e] at hnn
        have hnn2 : ¬ (-((m <<< (i - double.leastPlace).toNat : Nat) : Int) < 0) := fun h => hnn (.inr ⟨rfl, h⟩)
        rw [Nat.shiftLeft_eq] at hnn2
        clear hnn
        have hp : 0 < 2 ^ (i - double.leastPlace).toNat := Nat.pos_of_ne_zero (by simp)
        rcases Nat.eq_zero_or_pos m with h | h
        · exact h
        · have := Nat.mul_pos h hp
          generalize m * 2 ^ (i - double.leastPlace).toNat = q at *
          omega
      subst m0
      have e0 : (2 * ((0 <<< more) / 4503599627370496) + ((0 <<< more) % 4503599627370496 != 0).toNat) = 0 := by simp
      rw [e0] at k ⊢
      have r0 : rung 0 (i - (-51) - more - 1) = 0 := by simp [rung, Format.nearest, Format.word]
      rw [r0] at k ⊢
      have v0 : val 0 = 0 := by decide
      rw [v0] at k
      simp only [Bool.xor_false, if_true] at k ⊢
      omega

/-- x - x. -/
theorem sub_num {x : Nat} (hx : IsNum x) : double.sub x x = some 0 := by
  obtain ⟨s, m, i, e⟩ := hx
  unfold Format.sub
  rw [e]
  simp only [Datum.opposite, Datum.sum]
  have t : signed s m (i - min i i).toNat + signed (!s) m (i - min i i).toNat = 0 := by
    unfold signed
    cases s <;> simp <;> omega
  rw [t]
  simp [Format.write, Format.nearest, Format.word]

theorem sub_inf {x : Nat} (h : NN x) (hx : ¬ IsNum x) : double.sub x x = none := by
  unfold Format.sub
  unfold NN at h
  unfold IsNum at hx
  cases e : double.read x with
  | nan s f => rw [e] at h; cases h
  | infinity s => cases s <;> rfl
  | number s m i => exact absurd ⟨s, m, i, e⟩ hx

end Go.Proofs.Qxb6626440a.Ord
