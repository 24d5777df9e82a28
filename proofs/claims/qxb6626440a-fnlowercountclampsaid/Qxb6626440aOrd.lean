/-
  SEAT b6626440a: THE PLAIN LAWS ON float64's WORDS: an order by keys; min and max; what is finite; the rounding of integers is monotone. No Go in sight.
-/
import Ieee.Arith
namespace Go.Proofs.Qxb6626440a.Ord
open Ieee

/-- No NaN. -/
def NN (x : Nat) : Prop := (double.read x).isNaN = false
/-- A number. -/
def IsNum (x : Nat) : Prop := ∃ s m i, double.read x = .number s m i

/-- The key's first limb: -1, 0, 1: minus infinity, a number, plus infinity. -/
def c1 : Datum → Int
  | .number _ _ _ => 0
  | .infinity s => if s then -1 else 1
  | .nan _ _ => 0
/-- The key's second limb: the number, in units of the least place. -/
def v1 : Datum → Int
  | .number s m i => signed s m (i - double.leastPlace).toNat
  | _ => 0
def c (x : Nat) : Int := c1 (double.read x)
def v (x : Nat) : Int := v1 (double.read x)

theorem least : double.leastPlace = -1074 := by decide
theorem binade_eq : double.binade = 4503599627370496 := by decide
theorem sign_eq : double.signWeight = 9223372036854775808 := by decide
theorem inf_eq : double.infRung = 9218868437227405312 := by decide

theorem signed_add (s : Bool) (m a k : Nat) : signed s m (a + k) = signed s m a * (2 ^ k : Nat) := by
  unfold signed
  simp only [Nat.shiftLeft_eq, Nat.pow_add]
  split
  · rw [Int.neg_mul, ← Nat.mul_assoc]; rfl
  · rw [← Nat.mul_assoc]; rfl

theorem compare_scale (x y : Int) (k : Nat) (hk : 0 < k) : compare (x * (k : Int)) (y * (k : Int)) = compare x y := by
  show (if x * (k : Int) < y * (k : Int) then Ordering.lt else if x * (k : Int) = y * (k : Int) then Ordering.eq else Ordering.gt) = (if x < y then Ordering.lt else if x = y then Ordering.eq else Ordering.gt)
  have hk' : (0 : Int) < (k : Int) := by omega
  have h1 : x * (k : Int) < y * (k : Int) ↔ x < y := ⟨fun h => Int.lt_of_mul_lt_mul_right h (by omega), fun h => Int.mul_lt_mul_of_pos_right h hk'⟩
  have h2 : x * (k : Int) = y * (k : Int) ↔ x = y := ⟨fun h => Int.eq_of_mul_eq_mul_right (by omega) h, fun h => by rw [h]⟩
  simp only [h1, h2]

/-- The order of two numbers, from whatever base. -/
theorem order_base (s t : Bool) (m n : Nat) (i j b : Int) (hi : b ≤ i) (hj : b ≤ j) :
    (Datum.number s m i).order (.number t n j) = some (compare (signed s m (i - b).toNat) (signed t n (j - b).toNat)) := by
  have e1 : (i - b).toNat = (i - min i j).toNat + (min i j - b).toNat := by omega
  have e2 : (j - b).toNat = (j - min i j).toNat + (min i j - b).toNat := by omega
  rw [e1, e2, signed_add, signed_add, compare_scale _ _ _ (Nat.pos_of_ne_zero (by simp))]
  rfl

theorem place_ge (x : Nat) {s m i} (h : double.read x = .number s m i) : double.leastPlace ≤ i := by
  unfold Format.read at h
  simp only at h
  split at h
  · injection h with _ _ h3
    omega
  · split at h
    · injection h with _ _ h3
      omega
    · split at h <;> cases h

/-- Below, by the keys. -/
def Lt (x y : Nat) : Prop := c x < c y ∨ (c x = c y ∧ v x < v y)
def Eq' (x y : Nat) : Prop := c x = c y ∧ v x = v y

theorem order_key (x y : Nat) (hx : NN x) (hy : NN y) :
    (double.order x y = some .lt ∧ Lt x y) ∨ (double.order x y = some .eq ∧ Eq' x y) ∨ (double.order x y = some .gt ∧ Lt y x) := by
  unfold NN at hx hy
  unfold Format.order Lt Eq' c v
  cases ex : double.read x with
  | nan s f => rw [ex] at hx; cases hx
  | infinity s =>
    cases ey : double.read y with
    | nan s f => rw [ey] at hy; cases hy
    | infinity t => cases s <;> cases t <;> decide
    | number t n j => cases s <;> simp [Datum.order, c1]
  | number s m i =>
    cases ey : double.read y with
    | nan s f => rw [ey] at hy; cases hy
    | infinity t => cases t <;> simp [Datum.order, c1]
    | number t n j =>
      rw [order_base s t m n i j double.leastPlace (place_ge x ex) (place_ge y ey)]
      simp only [c1, v1]
      generalize signed s m (i - double.leastPlace).toNat = a
      generalize signed t n (j - double.leastPlace).toNat = b
      have e : compare a b = if a < b then Ordering.lt else if a = b then Ordering.eq else Ordering.gt := rfl
      rw [e]
      by_cases h1 : a < b
      · simp [h1]
      · by_cases h2 : a = b
        · simp [h2]
        · simp [h1, h2]
          omega

/-- The lesser of two, as Go's min takes it. -/
def fmin (x y : Nat) : Nat := match double.order x y with
  | some .lt => x
  | some .gt => y
  | some .eq => if (double.read x).neg then x else y
  | none => 0
def fmax (x y : Nat) : Nat := match double.order x y with
  | some .lt => y
  | some .gt => x
  | some .eq => if (double.read x).neg then y else x
  | none => 0

theorem fmin_key (x y : Nat) (hx : NN x) (hy : NN y) : (fmin x y = x ∧ ¬ Lt y x) ∨ (fmin x y = y ∧ ¬ Lt x y) := by
  unfold fmin
  rcases order_key x y hx hy with ⟨h, k⟩ | ⟨h, k⟩ | ⟨h, k⟩
  · rw [h]; left; refine ⟨rfl, ?_⟩; unfold Lt at *; omega
  · rw [h]
    simp only
    split
    · left; refine ⟨rfl, ?_⟩; unfold Lt Eq' at *; omega
    · right; refine ⟨rfl, ?_⟩; unfold Lt Eq' at *; omega
  · rw [h]; right; refine ⟨rfl, ?_⟩; unfold Lt at *; omega

theorem fmax_key (x y : Nat) (hx : NN x) (hy : NN y) : (fmax x y = x ∧ ¬ Lt x y) ∨ (fmax x y = y ∧ ¬ Lt y x) := by
  unfold fmax
  rcases order_key x y hx hy with ⟨h, k⟩ | ⟨h, k⟩ | ⟨h, k⟩
  · rw [h]; right; refine ⟨rfl, ?_⟩; unfold Lt at *; omega
  · rw [h]
    simp only
    split
    · right; refine ⟨rfl, ?_⟩; unfold Lt Eq' at *; omega
    · left; refine ⟨rfl, ?_⟩; unfold Lt Eq' at *; omega
  · rw [h]; left; refine ⟨rfl, ?_⟩; unfold Lt at *; omega

theorem fmin_nn (x y : Nat) (hx : NN x) (hy : NN y) : NN (fmin x y) := by
  rcases fmin_key x y hx hy with ⟨h, _⟩ | ⟨h, _⟩ <;> rw [h] <;> assumption
theorem fmax_nn (x y : Nat) (hx : NN x) (hy : NN y) : NN (fmax x y) := by
  rcases fmax_key x y hx hy with ⟨h, _⟩ | ⟨h, _⟩ <;> rw [h] <;> assumption

theorem order_eq {x y : Nat} (hx : NN x) (hy : NN y) (h : Eq' x y) : double.order x y = some .eq := by
  rcases order_key x y hx hy with ⟨_, k⟩ | ⟨e, _⟩ | ⟨_, k⟩
  · unfold Lt Eq' at *; omega
  · exact e
  · unfold Lt Eq' at *; omega
theorem order_self {x : Nat} (hx : NN x) : double.order x x = some .eq := order_eq hx hx ⟨rfl, rfl⟩
theorem order_le {x y : Nat} (hx : NN x) (hy : NN y) (h : ¬ Lt y x) : (double.order x y == some .lt || double.order x y == some .eq) = true := by
  rcases order_key x y hx hy with ⟨e, _⟩ | ⟨e, _⟩ | ⟨_, k⟩
  · rw [e]; rfl
  · rw [e]; rfl
  · exact absurd k h
theorem order_nan {x y : Nat} (h : ¬ NN x ∨ ¬ NN y) : double.order x y = none := by
  unfold NN at h
  unfold Format.order
  cases ex : double.read x with
  | nan s f => rfl
  | infinity s =>
    rw [ex] at h
    cases ey : double.read y with
    | nan t f => rfl
    | infinity t => rw [ey] at h; exact absurd rfl (h.resolve_left (fun k => k rfl))
    | number t n j => rw [ey] at h; exact absurd rfl (h.resolve_left (fun k => k rfl))
  | number s m i =>
    rw [ex] at h
    cases ey : double.read y with
    | nan t f => rfl
    | infinity t => rw [ey] at h; exact absurd rfl (h.resolve_left (fun k => k rfl))
    | number t n j => rw [ey] at h; exact absurd rfl (h.resolve_left (fun k => k rfl))

/-! ### Words by their rungs -/
/-- A rung's number, in units of the least place. -/
def val (r : Nat) : Nat := if r < 4503599627370496 then r else (4503599627370496 + r % 4503599627370496) * 2 ^ (r / 4503599627370496 - 1)

theorem read_word (neg : Bool) (r : Nat) (hr : r ≤ 9218868437227405312) :
    double.read (double.word neg r) = if r < 4503599627370496 then .number neg r double.leastPlace
      else if r < 9218868437227405312 then .number neg (4503599627370496 + r % 4503599627370496) (double.leastPlace + ((r / 4503599627370496 - 1 : Nat) : Int)) else .infinity neg := by
  unfold Format.read
  simp only [binade_eq, inf_eq, sign_eq]
  have e1 : double.word neg r % 9223372036854775808 = r := by
    unfold Format.word
    rw [sign_eq]
    cases neg <;> simp <;> omega
  have e2 : (double.word neg r / 9223372036854775808 % 2 == 1) = neg := by
    unfold Format.word
    rw [sign_eq]
    cases neg
    · simp; omega
    · simp; omega
  rw [e1, e2]
  by_cases h1 : r < 4503599627370496
  · simp [h1]
  · by_cases h2 : r < 9218868437227405312
    · simp [h1, h2]
    · have : r = 9218868437227405312 := by omega
      simp [this]

theorem nn_word (neg : Bool) (r : Nat) (hr : r ≤ 9218868437227405312) : NN (double.word neg r) := by
  unfold NN
  rw [read_word neg r hr]
  split
  · rfl
  · split <;> rfl

theorem key_word (neg : Bool) (r : Nat) (hr : r ≤ 9218868437227405312) :
    (r < 9218868437227405312 ∧ c (double.word neg r) = 0 ∧ v (double.word neg r) = if neg then -(val r : Int) else (val r : Int)) ∨
    (r = 9218868437227405312 ∧ c (double.word neg r) = (if neg then -1 else 1) ∧ v (double.word neg r) = 0) := by
  unfold c v
  rw [read_word neg r hr]
  by_cases h1 : r < 4503599627370496
  · left
    refine ⟨by omega, by simp [h1, c1], ?_⟩
    simp only [h1, if_true, v1, val, Int.sub_self, signed, Int.toNat_zero, Nat.shiftLeft_zero]
  · by_cases h2 : r < 9218868437227405312
    · left
      refine ⟨h2, by simp [h1, h2, c1], ?_⟩
      have e : (double.leastPlace + ((r / 4503599627370496 - 1 : Nat) : Int) - double.leastPlace).toNat = r / 4503599627370496 - 1 := by omega
      simp only [h1, h2, if_true, if_false, v1, val, e, signed, Nat.shiftLeft_eq]
    · right
      refine ⟨by omega, by simp [h1, h2, c1], by simp [h1, h2, v1]⟩

theorem val_mono {r t : Nat} (h : r ≤ t) : val r ≤ val t := by
  unfold val
  by_cases h1 : t < 4503599627370496
  · rw [if_pos h1, if_pos (by omega)]; exact h
  · rw [if_neg h1]
    by_cases h2 : r < 4503599627370496
    · rw [if_pos h2]
      have : 0 < 2 ^ (t / 4503599627370496 - 1) := Nat.pos_of_ne_zero (by simp)
      calc r ≤ 4503599627370496 + t % 4503599627370496 := by omega
        _ ≤ (4503599627370496 + t % 4503599627370496) * 2 ^ (t / 4503599627370496 - 1) := Nat.le_mul_of_pos_right _ this
    · rw [if_neg h2]
      by_cases h3 : r / 4503599627370496 = t / 4503599627370496
      · rw [h3]
        exact Nat.mul_le_mul_right _ (by omega)
      · have h4 : r / 4503599627370496 - 1 + 1 ≤ t / 4503599627370496 - 1 := by omega
        have h5 : 2 ^ (r / 4503599627370496 - 1 + 1) ≤ 2 ^ (t / 4503599627370496 - 1) := Nat.pow_le_pow_right (by omega) h4
        rw [Nat.pow_succ] at h5
        calc (4503599627370496 + r % 4503599627370496) * 2 ^ (r / 4503599627370496 - 1)
            ≤ (4503599627370496 * 2) * 2 ^ (r / 4503599627370496 - 1) := Nat.mul_le_mul_right _ (by omega)
          _ = 4503599627370496 * (2 ^ (r / 4503599627370496 - 1) * 2) := by rw [Nat.mul_assoc, Nat.mul_comm 2]
          _ ≤ 4503599627370496 * 2 ^ (t / 4503599627370496 - 1) := Nat.mul_le_mul_left _ h5
          _ ≤ (4503599627370496 + t % 4503599627370496) * 2 ^ (t / 4503599627370496 - 1) := Nat.mul_le_mul_right _ (by omega)

/-- The rung of the nearest word. -/
def rung (mag : Nat) (place : Int) : Nat := double.nearest false mag place

theorem nearest_word (neg : Bool) (mag : Nat) (place : Int) : double.nearest neg mag place = double.word neg (rung mag place) ∧ rung mag place ≤ 9218868437227405312 := by
  unfold rung Format.nearest
  by_cases h : mag = 0
  · simp [h, Format.word]
  · simp only [h, if_false]
    have cut_same : ∀ n d : Nat, Toward.even.cut neg n d = Toward.even.cut false n d := fun n d => rfl
    rw [cut_same]
    refine ⟨by simp [Format.word], ?_⟩
    simp only [Format.word, inf_eq, Bool.false_eq_true, if_false]
    exact Nat.min_le_right _ _

theorem nn_nearest (neg : Bool) (mag : Nat) (place : Int) : NN (double.nearest neg mag place) := by
  have := nearest_word neg mag place
  rw [this.1]
  exact nn_word neg _ this.2

end Go.Proofs.Qxb6626440a.Ord
