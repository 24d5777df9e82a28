/-
  SEAT b6626480a: THE PLAIN LAWS.
-/
import Derived.Test.Qxb6626480aFind
namespace Go.Proofs.Qxb6626480a
open Go.RowKit

/-! ### Codes met -/
def addCode (C : List Int) (c : Int) : List Int := if c ∈ C then C else C ++ [c]
def codesOf (c : Int) (L : List Av) : List Int := L.foldl (fun C A => addCode C A.code) [c]

theorem codesOf_snoc (c : Int) (L : List Av) (k : Nat) (h : k < L.length) : codesOf c (L.take (k + 1)) = addCode (codesOf c (L.take k)) L[k].code := by
  unfold codesOf
  rw [List.take_succ_eq_append_getElem h, List.foldl_append]
  rfl

theorem addCode_nodup {C : List Int} (c : Int) (h : C.Nodup) : (addCode C c).Nodup := by
  unfold addCode
  split
  · exact h
  · rename_i hc
    rw [List.nodup_append]
    refine ⟨h, by simp, ?_⟩
    intro a ha b hb
    simp at hb
    subst hb
    rintro rfl
    exact hc ha

theorem addCode_mem (C : List Int) (c : Int) : c ∈ addCode C c := by
  unfold addCode
  split
  · assumption
  · simp

theorem addCode_sub (C : List Int) (c x : Int) (h : x ∈ C) : x ∈ addCode C c := by
  unfold addCode
  split
  · exact h
  · simp [h]

theorem fold_sub (L : List Av) : ∀ (C : List Int) (x : Int), x ∈ C → x ∈ L.foldl (fun C A => addCode C A.code) C := by
  induction L with
  | nil => intro C x h; exact h
  | cons A L ih => intro C x h; exact ih _ x (addCode_sub C _ x h)

theorem fold_nodup (L : List Av) : ∀ C : List Int, C.Nodup → (L.foldl (fun C A => addCode C A.code) C).Nodup := by
  induction L with
  | nil => intro C h; exact h
  | cons A L ih => intro C h; exact ih _ (addCode_nodup _ h)

theorem fold_mem (L : List Av) : ∀ (C : List Int) (A : Av), A ∈ L → A.code ∈ L.foldl (fun C A => addCode C A.code) C := by
  induction L with
  | nil => intro C A h; simp at h
  | cons B L ih =>
    intro C A h
    rcases List.mem_cons.1 h with rfl | h
    · exact fold_sub L _ _ (addCode_mem C _)
    · exact ih _ A h

theorem addCode_len (C : List Int) (c : Int) : (addCode C c).length ≤ C.length + 1 := by
  unfold addCode
  split
  · omega
  · simp

theorem codesOf_len (c : Int) (L : List Av) (k : Nat) (h : k ≤ L.length) : (codesOf c (L.take k)).length ≤ k + 1 := by
  induction k with
  | zero => simp [codesOf]
  | succ k ih =>
    rw [codesOf_snoc c L k (by omega)]
    have := addCode_len (codesOf c (L.take k)) L[k].code
    have := ih (by omega)
    omega

theorem codesOf_pos (c : Int) (L : List Av) : 0 < (codesOf c L).length := List.length_pos_of_mem (fold_sub L [c] c (by simp))

/-! ### The count -/
/-- Of the base namespace. -/
def base (A : Av) : Bool := bits BinOp.and IntKind.u8 A.flags 128 == 0
def sumHits (C : List Int) (L : List Av) : Nat := (C.map fun c => (L.filter (hit c)).length).sum

theorem sum_zero (C : List Int) (A : Av) (h : base A = false ∨ A.code ∉ C) : (C.map fun c => if hit c A then 1 else 0).sum = 0 := by
  induction C with
  | nil => rfl
  | cons c C ih =>
    have hc : hit c A = false := by
      unfold hit
      rcases h with h | h
      · unfold base at h; rw [h]; simp
      · have : ¬ A.code = c := fun e => h (by simp [e])
        simp [this]
    have := ih (by rcases h with h | h; exact .inl h; exact .inr (fun hm => h (by simp [hm])))
    simp [hc, this]

theorem sum_one (C : List Int) (A : Av) (hn : C.Nodup) (hb : base A = true) (h : A.code ∈ C) : (C.map fun c => if hit c A then 1 else 0).sum = 1 := by
  induction C with
  | nil => simp at h
  | cons c C ih =>
    rw [List.nodup_cons] at hn
    by_cases e : A.code = c
    · have hc : hit c A = true := by unfold hit; unfold base at hb; rw [hb]; simp [e]
      have := sum_zero C A (.inr (by rw [e]; exact hn.1))
      simp [hc, this]
    · have hc : hit c A = false := by unfold hit; simp [e]
      have := ih hn.2 (by rcases List.mem_cons.1 h with h | h; exact absurd h e; exact h)
      simp [hc, this]

theorem sumHits_cons (C : List Int) (A : Av) (L : List Av) : sumHits C (A :: L) = sumHits C L + (C.map fun c => if hit c A then 1 else 0).sum := by
  unfold sumHits
  induction C with
  | nil => rfl
  | cons c C ih =>
    simp only [List.map_cons, List.sum_cons, ih]
    cases hh : hit c A <;> simp [hh] <;> omega

/-- THE LAW ON THE COUNT. -/
theorem sum_base (C : List Int) (hn : C.Nodup) : ∀ L : List Av, (∀ A ∈ L, A.code ∈ C) → sumHits C L = (L.filter base).length
  | [], _ => by
    unfold sumHits
    have : ∀ D : List Int, (D.map fun c => (([] : List Av).filter (hit c)).length).sum = 0 := fun D => by
      induction D with
      | nil => rfl
      | cons d D ih => simp only [List.map_cons, List.sum_cons, ih]; rfl
    rw [this]
    rfl
  | A :: L, h => by
    rw [sumHits_cons, sum_base C hn L (fun B hB => h B (by simp [hB]))]
    cases hb : base A
    · rw [sum_zero C A (.inl hb)]; simp [hb]
    · rw [sum_one C A hn hb (h A (by simp))]; simp [hb]

theorem law_count (c : Int) (L : List Av) : sumHits (codesOf c L) L = (L.filter base).length :=
  sum_base _ (fold_nodup L [c] (by simp)) L (fun A hA => fold_mem L [c] A hA)

theorem sumHits_snoc (C : List Int) (L : List Av) (t : Nat) (h : t < C.length) : sumHits (C.take (t + 1)) L = sumHits (C.take t) L + (L.filter (hit C[t])).length := by
  unfold sumHits
  rw [List.take_succ_eq_append_getElem h, List.map_append, List.sum_append]
  simp only [List.map_cons, List.map_nil, List.sum_cons, List.sum_nil, Nat.add_zero]

theorem sumHits_le (C : List Int) (L : List Av) (n : Nat) (h : L.length ≤ n) : ∀ t, sumHits (C.take t) L ≤ t * n := by
  intro t
  induction t with
  | zero => simp [sumHits]
  | succ t ih =>
    by_cases ht : t < C.length
    · rw [sumHits_snoc C L t ht]
      have := List.length_filter_le (hit C[t]) L
      rw [Nat.succ_mul]
      omega
    · rw [List.take_of_length_le (by omega)]
      rw [List.take_of_length_le (by omega)] at ih
      rw [Nat.succ_mul]
      omega

/-! ### The greedy search -/
theorem greedy_skip {A B : Av} {F M : List Av} (h : (A :: F).Sublist (B :: M)) (hne : B ≠ A) : (A :: F).Sublist M := by
  cases h with
  | cons _ h => exact h
  | cons_cons _ h => exact absurd rfl hne

theorem greedy_take {A B : Av} {F M : List Av} (h : (A :: F).Sublist (B :: M)) : F.Sublist M := by
  cases h with
  | cons _ h => exact (List.sublist_cons_self A F).trans h
  | cons_cons _ h => exact h

theorem sub_lt {A : Av} {F L : List Av} {j : Nat} (h : (A :: F).Sublist (L.drop j)) : j < L.length := by
  have := h.length_le
  simp at this
  omega

theorem filter_hit {c : Int} {L : List Av} {i : Nat} (h : i < (L.filter (hit c)).length) : hit c (L.filter (hit c))[i] = true :=
  (List.mem_filter.1 (List.getElem_mem h)).2
end Go.Proofs.Qxb6626480a
