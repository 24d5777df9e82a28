/-
  THE PLAIN LAWS OF SEAT b6626307a: no Go in sight.
-/
namespace Go.Proofs.Qxb6626307a.Plain

/-- Is the byte an ASCII digit? -/
def isDig (c : UInt8) : Bool := decide (48 ≤ (c.toNat : Int)) && decide ((c.toNat : Int) ≤ 57)

/-- How many digits does the list open with? -/
def lead : List UInt8 → Nat
  | [] => 0
  | c :: l => if isDig c then lead l + 1 else 0

/-- One sign struck. -/
def strip : List UInt8 → List UInt8
  | [] => []
  | c :: l => if c.toNat = 43 ∨ c.toNat = 45 then l else c :: l

/-- The unsigned form, as IsDecimal reads it. -/
def dec (u : List UInt8) : Bool :=
  if lead u = 0 ∨ lead u = u.length then decide (0 < lead u)
  else decide (((u.getD (lead u) 0).toNat : Int) = 46) && (!(u.drop (lead u + 1)).isEmpty && decide (lead (u.drop (lead u + 1)) = (u.drop (lead u + 1)).length))

def isDec (s : List UInt8) : Bool := dec (strip s)

/-- The points in a list. -/
def dots : List UInt8 → Nat
  | [] => 0
  | c :: l => if c.toNat = 46 then dots l + 1 else dots l

/-- Digits and points alone. -/
def clean : List UInt8 → Bool
  | [] => true
  | c :: l => (decide (c.toNat = 46) || isDig c) && clean l

/-- The unsigned form, as the law's grammar tells it. -/
def gramU (u : List UInt8) : Bool :=
  if u.length = 0 then false
  else if (u.getD 0 0).toNat = 46 ∨ (u.getD (u.length - 1) 0).toNat = 46 then false
  else clean u && decide (dots u ≤ 1)

def gram (s : List UInt8) : Bool := gramU (strip s)

def allDig : List UInt8 → Bool
  | [] => true
  | c :: l => isDig c && allDig l

theorem dig_ne {c : UInt8} (h : isDig c = true) : c.toNat ≠ 46 ∧ c.toNat ≠ 43 ∧ c.toNat ≠ 45 := by
  simp [isDig] at h
  omega

theorem lead_le : ∀ l : List UInt8, lead l ≤ l.length
  | [] => Nat.le_refl _
  | c :: l => by
    have := lead_le l
    unfold lead
    split <;> simp <;> omega

theorem lead_all : ∀ l : List UInt8, lead l = l.length ↔ allDig l = true
  | [] => by simp [lead, allDig]
  | c :: l => by
    have h1 := lead_all l
    have h2 := lead_le l
    unfold lead allDig
    cases hc : isDig c
    · simp
    · simp [← h1]

/-- The list at the end of its digits. -/
theorem lead_split : ∀ l : List UInt8, lead l < l.length → ∃ d c r, l = d ++ c :: r ∧ allDig d = true ∧ isDig c = false ∧ lead l = d.length
  | [], h => by simp at h
  | c :: l, h => by
    unfold lead at h ⊢
    cases hc : isDig c
    · exact ⟨[], c, l, rfl, rfl, hc, by simp⟩
    · simp [hc] at h
      obtain ⟨d, c', r, e, h1, h2, h3⟩ := lead_split l h
      exact ⟨c :: d, c', r, by rw [e]; rfl, by simp [allDig, hc, h1], h2, by simp [h3]⟩

theorem lead_app : ∀ (d : List UInt8) (c : UInt8) (r : List UInt8), allDig d = true → isDig c = false → lead (d ++ c :: r) = d.length
  | [], c, r, _, h => by simp [lead, h]
  | x :: d, c, r, hd, h => by
    simp [allDig] at hd
    simp [lead, hd.1, lead_app d c r hd.2 h]

theorem dots_all : ∀ l : List UInt8, allDig l = true → dots l = 0
  | [], _ => rfl
  | c :: l, h => by
    simp [allDig] at h
    simp [dots, dots_all l h.2, (dig_ne h.1).1]

theorem clean_all : ∀ l : List UInt8, allDig l = true → clean l = true
  | [], _ => rfl
  | c :: l, h => by
    simp [allDig] at h
    simp [clean, clean_all l h.2, h.1]

theorem all_of : ∀ l : List UInt8, clean l = true → dots l = 0 → allDig l = true
  | [], _, _ => rfl
  | c :: l, h, h2 => by
    simp [clean] at h
    by_cases hc : c.toNat = 46
    · simp [dots, hc] at h2
    · simp [dots, hc] at h2
      simp [hc] at h
      simp [allDig, h.1, all_of l h.2 h2]

theorem dots_app : ∀ a b : List UInt8, dots (a ++ b) = dots a + dots b
  | [], b => by simp [dots]
  | c :: a, b => by
    have := dots_app a b
    simp only [List.cons_append, dots]
    split <;> omega

theorem clean_app : ∀ a b : List UInt8, clean (a ++ b) = (clean a && clean b)
  | [], b => by simp [clean]
  | c :: a, b => by simp [clean, clean_app a b, Bool.and_assoc]

theorem all_app : ∀ a b : List UInt8, allDig (a ++ b) = (allDig a && allDig b)
  | [], b => by simp [allDig]
  | c :: a, b => by simp [allDig, all_app a b, Bool.and_assoc]

theorem isDig_zero_byte {c : UInt8} (h : c.toNat = 46) : isDig c = false := by simp [isDig, h]

/-- 'dec', told: digits; or digits, a point, digits. -/
theorem dec_iff (u : List UInt8) : dec u = true ↔ (u ≠ [] ∧ allDig u = true) ∨ ∃ d c r, u = d ++ c :: r ∧ d ≠ [] ∧ allDig d = true ∧ c.toNat = 46 ∧ r ≠ [] ∧ allDig r = true := by
  have hle := lead_le u
  by_cases hall : lead u = u.length
  · have ha := (lead_all u).1 hall
    unfold dec
    rw [if_pos (.inr hall)]
    constructor
    · intro h
      refine .inl ⟨?_, ha⟩
      rintro rfl
      simp [lead] at h
    · intro h
      rcases h with ⟨h, _⟩ | ⟨d, c, r, e, _, _, hc, _, _⟩
      · simp only [decide_eq_true_eq]
        have := List.length_pos_iff.2 h
        omega
      · subst e
        rw [all_app] at ha
        simp [allDig, isDig_zero_byte hc] at ha
  · obtain ⟨d, c, r, e, h1, h2, h3⟩ := lead_split u (by omega)
    have hn : allDig u = false := by
      rw [e, all_app]; simp [allDig, h2]
    have e1 : u.getD (lead u) 0 = c := by rw [h3, e]; simp
    have e2 : u.drop (lead u + 1) = r := by rw [h3, e]; simp
    unfold dec
    by_cases h0 : lead u = 0
    · rw [if_pos (.inl h0)]
      simp [h0, hn]
      intro d' c' r' e' hd' had' hc'
      exfalso
      subst e'
      rw [lead_app d' c' r' had' (isDig_zero_byte hc')] at h0
      exact hd' (List.length_eq_zero_iff.1 h0)
    · rw [if_neg (by omega), e1, e2]
      constructor
      · intro h
        simp at h
        refine .inr ⟨d, c, r, e, ?_, h1, by omega, by simpa using h.2.1, (lead_all r).1 h.2.2⟩
        rintro rfl
        simp at h3
        omega
      · intro h
        rcases h with ⟨_, h⟩ | ⟨d', c', r', e', hd', had', hc', hr', har'⟩
        · rw [hn] at h; cases h
        · have k : d'.length = d.length := by
            have := lead_app d' c' r' had' (isDig_zero_byte hc')
            rw [← e'] at this
            omega
          rw [e] at e'
          have := List.append_inj e' k.symm
          obtain ⟨rfl, e3⟩ := this
          injection e3 with e4 e5
          subst e4
          subst e5
          simp [hc', hr', (lead_all r).2 har']

theorem gramU_iff (u : List UInt8) : gramU u = true ↔ (u ≠ [] ∧ allDig u = true) ∨ ∃ d c r, u = d ++ c :: r ∧ d ≠ [] ∧ allDig d = true ∧ c.toNat = 46 ∧ r ≠ [] ∧ allDig r = true := by
  constructor
  · intro h
    unfold gramU at h
    split at h
    · cases h
    · rename_i h0
      split at h
      · cases h
      · rename_i h1
        simp at h
        obtain ⟨hc, hd⟩ := h
        have hne : u ≠ [] := by rintro rfl; simp at h0
        by_cases hz : dots u = 0
        · exact .inl ⟨hne, all_of u hc hz⟩
        · right
          have hlt : lead u < u.length := by
            rcases Nat.lt_or_ge (lead u) u.length with hh | hh
            · exact hh
            · have := dots_all u ((lead_all u).1 (by have := lead_le u; omega))
              omega
          obtain ⟨d, c, r, e, k1, k2, k3⟩ := lead_split u hlt
          have c1 : clean (d ++ c :: r) = true := by rw [← e]; exact hc
          rw [clean_app] at c1
          simp [clean, k2] at c1
          obtain ⟨_, c46, cr⟩ := c1
          have d1 : dots (d ++ c :: r) ≤ 1 := by rw [← e]; exact hd
          rw [dots_app, dots_all d k1] at d1
          simp [dots, c46] at d1
          refine ⟨d, c, r, e, ?_, k1, c46, ?_, all_of r cr d1⟩
          · rintro rfl
            exact h1 (.inl (by rw [e]; simpa using c46))
          · rintro rfl
            refine h1 (.inr ?_)
            rw [e]
            simpa using c46
  · intro h
    unfold gramU
    rcases h with ⟨hne, ha⟩ | ⟨d, c, r, e, hd, had, hc, hr, har⟩
    · have hl : u.length ≠ 0 := by simpa using hne
      rw [if_neg hl]
      have at' : ∀ i, i < u.length → (u.getD i 0).toNat ≠ 46 := by
        intro i hi
        have : ∀ (l : List UInt8) (i : Nat), allDig l = true → i < l.length → isDig (l.getD i 0) = true := by
          intro l
          induction l with
          | nil => intro i _ h; simp at h
          | cons x l ih =>
            intro i h1 h2
            simp [allDig] at h1
            cases i with
            | zero => simpa using h1.1
            | succ i => simpa using ih i h1.2 (by simpa using h2)
        exact (dig_ne (this u i ha hi)).1
      rw [if_neg (by
        intro h
        rcases h with h | h
        · exact at' 0 (by omega) h
        · exact at' _ (by omega) h)]
      simp [clean_all u ha, dots_all u ha]
    · have at' : ∀ (l : List UInt8) (i : Nat), allDig l = true → i < l.length → isDig (l.getD i 0) = true := by
        intro l
        induction l with
        | nil => intro i _ h; simp at h
        | cons x l ih =>
          intro i h1 h2
          simp [allDig] at h1
          cases i with
          | zero => simpa using h1.1
          | succ i => simpa using ih i h1.2 (by simpa using h2)
      have hdl := List.length_pos_iff.2 hd
      have hrl := List.length_pos_iff.2 hr
      have e0 : u.getD 0 0 = d.getD 0 0 := by rw [e]; simp [List.getD, List.getElem?_append_left hdl]
      have e1 : u.getD (u.length - 1) 0 = r.getD (r.length - 1) 0 := by
        rw [e]
        have k : (d ++ c :: r).length - 1 = d.length + ((r.length - 1) + 1) := by simp; omega
        rw [k]
        simp only [List.getD]
        rw [List.getElem?_append_right (by omega)]
        have k2 : d.length + (r.length - 1 + 1) - d.length = (r.length - 1) + 1 := by omega
        rw [k2, List.getElem?_cons_succ]
      have hl : u.length ≠ 0 := by rw [e]; simp
      rw [if_neg hl, e0, e1, if_neg (by
        intro h
        rcases h with h | h
        · exact (dig_ne (at' d 0 had hdl)).1 h
        · exact (dig_ne (at' r _ har (by omega))).1 h), e, clean_app, dots_app]
      simp [clean, dots, clean_all d had, clean_all r har, dots_all d had, dots_all r har, hc]

theorem dec_gramU (u : List UInt8) : dec u = gramU u := by
  rw [Bool.eq_iff_iff, dec_iff, gramU_iff]

/-- THE LAW, FIRST PART. -/
theorem isDec_gram (s : List UInt8) : isDec s = gram s := dec_gramU (strip s)

def starts (s : List UInt8) : Bool := match s with
  | [] => false
  | c :: _ => isDig c

theorem strip_sign (c : UInt8) (s : List UInt8) (h : c.toNat = 43 ∨ c.toNat = 45) : strip (c :: s) = s := by simp [strip, h]

theorem dec_starts (u : List UInt8) (h : dec u = true) : starts u = true := by
  rcases (dec_iff u).1 h with ⟨h1, h2⟩ | ⟨d, c, r, rfl, h1, h2, _, _, _⟩
  · cases u with
    | nil => exact absurd rfl h1
    | cons x u => simp [allDig] at h2; exact h2.1
  · cases d with
    | nil => exact absurd rfl h1
    | cons x d => simp [allDig] at h2; exact h2.1

theorem strip_starts (s : List UInt8) (h : starts s = true) : strip s = s := by
  cases s with
  | nil => rfl
  | cons c s =>
    have := dig_ne (c := c) h
    simp [strip]
    omega

/-- THE LAW, SECOND PART: a sign put in front. -/
theorem isDec_signed (c : UInt8) (s : List UInt8) (h : c.toNat = 43 ∨ c.toNat = 45) : isDec (c :: s) = (gram s && starts s) := by
  rw [← isDec_gram]
  unfold isDec
  rw [strip_sign c s h, Bool.eq_iff_iff]
  constructor
  · intro hd
    have := dec_starts s hd
    simp [strip_starts s this, hd, this]
  · intro hd
    simp at hd
    rw [strip_starts s hd.2] at hd
    exact hd.1

/-- Is there a point? -/
def hasDot : List UInt8 → Bool
  | [] => false
  | c :: l => if c.toNat = 46 then true else hasDot l

theorem hasDot_all : ∀ l : List UInt8, allDig l = true → hasDot l = false
  | [], _ => rfl
  | c :: l, h => by
    simp [allDig] at h
    simp [hasDot, hasDot_all l h.2, (dig_ne h.1).1]

theorem hasDot_app : ∀ a b : List UInt8, hasDot (a ++ b) = (hasDot a || hasDot b)
  | [], b => by simp [hasDot]
  | c :: a, b => by
    simp only [List.cons_append, hasDot]
    split
    · simp
    · exact hasDot_app a b

theorem hasDot_strip (s : List UInt8) : hasDot (strip s) = hasDot s := by
  cases s with
  | nil => rfl
  | cons c s =>
    by_cases h : c.toNat = 43 ∨ c.toNat = 45
    · have : c.toNat ≠ 46 := by omega
      simp [strip, h, hasDot, this]
    · simp [strip, h]

/-- A decimal without a point: digits. -/
theorem dec_nodot (u : List UInt8) : (dec u && !hasDot u) = (!u.isEmpty && allDig u) := by
  rw [Bool.eq_iff_iff]
  constructor
  · intro h
    simp at h
    rcases (dec_iff u).1 h.1 with ⟨h1, h2⟩ | ⟨d, c, r, rfl, _, _, hc, _, _⟩
    · simp [h1, h2]
    · have := h.2
      rw [hasDot_app] at this
      simp [hasDot, hc] at this
  · intro h
    simp at h
    simp [hasDot_all u h.2, (dec_iff u).2 (.inl h)]

/-- THE LAW ON THE JOINED STRING. -/
theorem joined (s t : List UInt8) (p : UInt8) (hp : p.toNat = 46) :
    isDec (s ++ p :: t) = ((isDec s && !hasDot s) && (((isDec t && !t.isEmpty) && starts t) && !hasDot t)) := by
  have hs : strip (s ++ p :: t) = strip s ++ p :: t := by
    cases s with
    | nil => simp [strip]; omega
    | cons c s => simp only [List.cons_append, strip]; split <;> rfl
  have h1 : (isDec s && !hasDot s) = (!(strip s).isEmpty && allDig (strip s)) := by
    rw [← hasDot_strip]; exact dec_nodot (strip s)
  have h2 : (((isDec t && !t.isEmpty) && starts t) && !hasDot t) = (!t.isEmpty && allDig t) := by
    rw [← dec_nodot]
    by_cases h : starts t = true
    · have ht : t.isEmpty = false := by cases t <;> simp [starts] at h ⊢
      simp [isDec, strip_starts t h, h, ht]
    · have hd : dec t = false := by
        cases hd : dec t
        · rfl
        · exact absurd (dec_starts t hd) h
      simp at h
      simp [h, hd]
  rw [h1, h2]
  unfold isDec
  rw [hs, Bool.eq_iff_iff, dec_iff]
  constructor
  · intro h
    rcases h with ⟨_, h⟩ | ⟨d, c, r, e, hd, had, hc, hr, har⟩
    · rw [all_app] at h
      simp [allDig, isDig_zero_byte hp] at h
    · have hno : ∀ (a b : List UInt8) (x y : UInt8) (c e : List UInt8), a ++ x :: c = b ++ y :: e → allDig b = true → x.toNat = 46 → y.toNat = 46 → allDig e = true → a = b ∧ c = e := by
        intro a
        induction a with
        | nil =>
          intro b x y c e h hb hx hy he
          cases b with
          | nil => simp at h; exact ⟨rfl, h.2⟩
          | cons z b =>
            simp at h
            simp [allDig] at hb
            have := dig_ne hb.1
            rw [← h.1] at this
            omega
        | cons z a ih =>
          intro b x y c e h hb hx hy he
          cases b with
          | nil =>
            simp at h
            have := hasDot_all e he
            rw [← h.2, hasDot_app] at this
            simp [hasDot, hx] at this
          | cons z' b =>
            simp at h
            simp [allDig] at hb
            obtain ⟨k1, k2⟩ := ih b x y c e h.2 hb.2 hx hy he
            exact ⟨by rw [h.1, k1], k2⟩
      obtain ⟨rfl, rfl⟩ := hno _ _ _ _ _ _ e had hp hc har
      simp [hd, had, hr, har]
  · intro h
    simp at h
    exact .inr ⟨strip s, p, t, rfl, h.1.1, h.1.2, hp, h.2.1, h.2.2⟩

/-- 'zzAllDigitsNonEmpty' gives a decimal. -/
theorem digits_dec (s : List UInt8) (h : (!s.isEmpty && allDig s) = true) : isDec s = true := by
  simp at h
  have hst : starts s = true := by
    cases s with
    | nil => simp at h
    | cons c s => have := h.2; simp [allDig] at this; exact this.1
  unfold isDec
  rw [strip_starts s hst]
  exact (dec_iff s).2 (.inl h)

end Go.Proofs.Qxb6626307a.Plain
