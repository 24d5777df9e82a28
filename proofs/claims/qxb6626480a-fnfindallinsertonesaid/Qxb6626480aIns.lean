/-
  SEAT b6626480a: WALK of FnFindAllInsertOne (3).
-/
import Derived.Test.Qxb6626480aPlain
import Derived.Deep.DeepCutAuto
import Derived.Deep.RegionHeld3
import Derived.Deep.RegionWith
namespace Go.Proofs.Qxb6626480a.ins
open Go.RowKit
open Go.Proofs.Qxb6626480a

abbrev hd (h0 h1 h2 h3 h4 : Int) : Obj := .cells #[.int .u8 h0, .int .u32 h1, .int .u32 h2, .int .u32 h3, .int .u32 h4] 25
abbrev xb (X : Av) : Obj := .cells #[.int .u32 X.code, .int .u8 X.flags, .int .u32 X.vendor, .slice X.at' X.len X.cap] 28

theorem chain {w X w' : World} (h : Below w.heap.size w X) (hb : Below X.heap.size X w') : Below w.heap.size w w' := h.trans (hb.mono h.size)

/-- The world behind the two boxes, and whatever has come since. -/
def Since (w : World) (h0 h1 h2 h3 h4 : Int) (X : Av) (wr : World) : Prop := Below (w.heap.size + 2) ((w.alloc (hd h0 h1 h2 h3 h4)).alloc (xb X)) wr

section
variable {w : World} {h0 h1 h2 h3 h4 : Int} {X : Av} {wr : World}
theorem Since.size (h : Since w h0 h1 h2 h3 h4 X wr) : w.heap.size + 2 ≤ wr.heap.size := by
  have := Below.size h
  simp at this
  omega
theorem Since.next {w1 : World} (h : Since w h0 h1 h2 h3 h4 X wr) (hb : Below wr.heap.size wr w1) : Since w h0 h1 h2 h3 h4 X w1 := Below.trans h (hb.mono h.size)
theorem Since.below (h : Since w h0 h1 h2 h3 h4 X wr) : Below w.heap.size w wr :=
  (((Below.refl _ _).alloc (Nat.le_refl _) _).alloc (by simp) _).trans (Below.mono h (by omega))
theorem Since.hdr (h : Since w h0 h1 h2 h3 h4 X wr) : wr.cell? ⟨w.heap.size, 0, none⟩ = some (.int .u8 h0) ∧ wr.cell? ⟨w.heap.size, 1, none⟩ = some (.int .u32 h1) ∧ wr.cell? ⟨w.heap.size, 2, none⟩ = some (.int .u32 h2) ∧ wr.cell? ⟨w.heap.size, 3, none⟩ = some (.int .u32 h3) ∧ wr.cell? ⟨w.heap.size, 4, none⟩ = some (.int .u32 h4) := by
  have c : ∀ o, wr.cell? ⟨w.heap.size, o, none⟩ = (#[.int .u8 h0, .int .u32 h1, .int .u32 h2, .int .u32 h3, .int .u32 h4] : Array Value)[o]? := fun o => by
    rw [Below.cell h (p := ⟨w.heap.size, o, none⟩) (by show w.heap.size < w.heap.size + 2; omega)]
    simp
  exact ⟨by rw [c]; rfl, by rw [c]; rfl, by rw [c]; rfl, by rw [c]; rfl, by rw [c]; rfl⟩
theorem Since.box (h : Since w h0 h1 h2 h3 h4 X wr) : wr.cell? ⟨w.heap.size + 1, 0, none⟩ = some (.int .u32 X.code) ∧ wr.cell? ⟨w.heap.size + 1, 1, none⟩ = some (.int .u8 X.flags) ∧ wr.cell? ⟨w.heap.size + 1, 2, none⟩ = some (.int .u32 X.vendor) ∧ wr.cell? ⟨w.heap.size + 1, 3, none⟩ = some (.slice X.at' X.len X.cap) := by
  have c : ∀ o, wr.cell? ⟨w.heap.size + 1, o, none⟩ = (#[.int .u32 X.code, .int .u8 X.flags, .int .u32 X.vendor, .slice X.at' X.len X.cap] : Array Value)[o]? := fun o => by
    rw [Below.cell h (p := ⟨w.heap.size + 1, o, none⟩) (by show w.heap.size + 1 < w.heap.size + 2; omega)]
    simp
  exact ⟨by rw [c]; rfl, by rw [c]; rfl, by rw [c]; rfl, by rw [c]; rfl⟩
end

theorem info28 : (Try.prog.info? 28).map (fun i => (i.zero, i.size, i.bytes)) = some (some (.agg #[.int .u32 0, .int .u8 0, .int .u32 0, .slice none 0 0]), 4, 40) := by kernel_rfl

/-- 'make([]DiamB1AVP, n)'. -/
theorem make22 (n : Nat) (hn : n ≤ 65537) (L : List Av) (w : World) : ∃ w1, (Instr.makeSlice 22 (.int .i64 n) (.int .i64 n)).run Try.prog w = .ok (.slice (some ⟨w.heap.size, 0, none⟩) n n) w1 ∧ Fl 28 w1 w.heap.size n L 0 ∧ Below w.heap.size w w1 := by
  obtain ⟨i, hi, hz0, hz1, hz2⟩ := info_parts info28
  obtain ⟨w1, hrun, hown, hg⟩ := run_make_full (P := Try.prog) w w.heap.size 22 28 i _ 4 Try.underlying22 hi hz0 hz1 .i64 .i64 n (by rw [hz2]; omega) (by unfold maxLen; omega) (Nat.le_refl _)
  exact ⟨w1, hrun, Fl.start L hown, (Below.refl _ _).grown hg (Nat.le_refl _) (fun k h => by cases h)⟩

/-- What a slice argument's rounds want. -/
def At (w : World) (a : Option Addr) (L : List Av) : Prop := L ≠ [] → ∃ b off, a = some ⟨b, off, none⟩ ∧ Lies w b off L

theorem at_of {w : World} {a : Option Addr} {n cap : Nat} {L : List Av} (h : Sl w (.slice a n cap) L) : At w a L := by
  intro hne
  rcases h with ⟨h, _⟩ | ⟨h, _⟩ | ⟨b, off, c, e, hl⟩
  · exact absurd h hne
  · exact absurd h hne
  · injection e with e1
    exact ⟨b, off, e1, hl⟩

/-- The list with x put in. -/
def put (L : List Av) (p : Nat) (X : Av) : List Av := L.take p ++ X :: L.drop p

theorem put_len (L : List Av) (p : Nat) (X : Av) (h : p ≤ L.length) : (put L p X).length = L.length + 1 := by
  unfold put
  simp
  omega
theorem put_lo? (L : List Av) (p i : Nat) (X : Av) (h : p ≤ L.length) (hi : i < p) : (put L p X)[i]? = L[i]? := by
  unfold put
  rw [List.getElem?_append_left (by simp; omega), List.getElem?_take_of_lt hi]
theorem put_at? (L : List Av) (p : Nat) (X : Av) (h : p ≤ L.length) : (put L p X)[p]? = some X := by
  unfold put
  rw [List.getElem?_append_right (by simp; omega)]
  have e : p - (L.take p).length = 0 := by simp; omega
  rw [e]
  rfl
theorem put_hi? (L : List Av) (p i : Nat) (X : Av) (h : p ≤ L.length) (hi : p ≤ i) : (put L p X)[i + 1]? = L[i]? := by
  unfold put
  rw [List.getElem?_append_right (by simp; omega)]
  have e : i + 1 - (L.take p).length = (i - p) + 1 := by simp; omega
  rw [e, List.getElem?_cons_succ, List.getElem?_drop]
  congr 1
  omega
theorem put_lo (L : List Av) (p i : Nat) (X : Av) (h : p ≤ L.length) (hi : i < p) (hl : i < (put L p X).length) (hl2 : i < L.length) : (put L p X)[i] = L[i] := by
  have e := put_lo? L p i X h hi
  rw [List.getElem?_eq_getElem hl, List.getElem?_eq_getElem hl2] at e
  injection e
theorem put_at (L : List Av) (p : Nat) (X : Av) (h : p ≤ L.length) (hl : p < (put L p X).length) : (put L p X)[p] = X := by
  have e := put_at? L p X h
  rw [List.getElem?_eq_getElem hl] at e
  injection e
theorem put_hi (L : List Av) (p i : Nat) (X : Av) (h : p ≤ L.length) (hi : p ≤ i) (hl : i + 1 < (put L p X).length) (hl2 : i < L.length) : (put L p X)[i + 1] = L[i] := by
  have e := put_hi? L p i X h hi
  rw [List.getElem?_eq_getElem hl, List.getElem?_eq_getElem hl2] at e
  injection e

theorem sl_take {w : World} {a : Option Addr} {n cap p : Nat} {L : List Av} (h : Sl w (.slice a n cap) L) (hL : L.length = n) (hp : p ≤ n) : Sl w (.slice a p cap) (L.take p) := by
  rcases h with ⟨rfl, e⟩ | ⟨rfl, ad, c, e⟩ | ⟨b, off, c, e, hl⟩
  · injection e with e1 e2 e3
    subst e1 e2 e3
    obtain rfl : p = 0 := by omega
    exact .inl ⟨by simp, rfl⟩
  · injection e with e1 e2 e3
    subst e1 e2
    obtain rfl : p = 0 := by omega
    exact .inr (.inl ⟨by simp, ad, cap, rfl⟩)
  · injection e with e1 e2 e3
    subst e1
    refine .inr (.inr ⟨b, off, cap, by rw [List.length_take, Nat.min_eq_left (by omega)], fun i hi => ?_⟩)
    rw [List.length_take] at hi
    rw [List.getElem_take]
    exact hl i (by omega)

theorem elem22 : Try.prog.elem 22 = 28 := by kernel_rfl
theorem ncells28 : Try.prog.cellsOf 28 = 4 := by kernel_rfl
/-- 'avps[:p]'. -/
theorem cut22 (a : Option Addr) (n cap p : Nat) (hp : p ≤ cap) (W : World) : (Instr.slice 22 (.slice a n cap) none (some (.int .i64 (p : Int))) none).run Try.prog W = .ok (.slice a p cap) W := by
  obtain ⟨i, hi, _, _, _⟩ := info_parts info28
  rw [run_slice_h W 22 a n cap (by rw [elem22]; exact Try.underlying22) .i64 _ (by omega) (by omega), elem22, run_sizeOf W hi, ncells28]
  cases a <;> simp [Result.andThen, sliced, Addr.add]

theorem sl_own {w : World} {g n : Nat} {M : List Av} (h : Own w g M) (hM : M.length = n) : Sl w (.slice (some ⟨g, 0, none⟩) n n) M := by
  subst hM
  refine .inr (.inr ⟨g, 0, _, rfl, fun i hi => ?_⟩)
  obtain ⟨g0, g1, g2, g3⟩ := h i hi
  rw [Nat.zero_add]
  exact ⟨g0, g1, g2, g3⟩

/-- THE PLAIN LAWS: x matches; x does not; the first part's answer heads the whole list's. -/
theorem filt_parts (c : Int) (L : List Av) (p : Nat) : L.filter (hit c) = (L.take p).filter (hit c) ++ (L.drop p).filter (hit c) := by
  rw [← List.filter_append, List.take_append_drop]
theorem ins_hit (c : Int) (L : List Av) (p : Nat) (X : Av) (h : hit c X = true) : (put L p X).filter (hit c) = put (L.filter (hit c)) ((L.take p).filter (hit c)).length X := by
  have e := filt_parts c L p
  unfold put
  rw [List.filter_append, List.filter_cons_of_pos h, e, List.take_left, List.drop_left]
theorem ins_miss (c : Int) (L : List Av) (p : Nat) (X : Av) (h : hit c X = false) : (put L p X).filter (hit c) = L.filter (hit c) := by
  rw [filt_parts c L p]
  unfold put
  rw [List.filter_append, List.filter_cons_of_neg (by rw [h]; simp)]
theorem ins_pre (c : Int) (L : List Av) (p i : Nat) (hi : i < ((L.take p).filter (hit c)).length) (h0 : i < (L.filter (hit c)).length) : ((L.take p).filter (hit c))[i] = (L.filter (hit c))[i] := by
  have e : (L.filter (hit c))[i]? = ((L.take p).filter (hit c))[i]? := by
    rw [filt_parts c L p, List.getElem?_append_left hi]
  rw [List.getElem?_eq_getElem hi, List.getElem?_eq_getElem h0] at e
  injection e with e
  exact e.symm
theorem ins_len (c : Int) (L : List Av) (p : Nat) : ((L.take p).filter (hit c)).length ≤ (L.filter (hit c)).length := by
  rw [filt_parts c L p, List.length_append]
  omega

/-- An AVP equals itself. -/
theorem eq_same (A : Av) (w : World) (hA : Bytes w A.at' A.len) : Calls Try.prog 9 #[A.val, A.val] w fun e w' => e = .returned (.bool true) ∧ Below w.heap.size w w' :=
  (eq_any A A w hA hA).mono fun _ _ ⟨_, e, h, hb⟩ => ⟨by rw [e, h rfl], hb⟩
theorem eqZ_same (A : Av) (w : World) (hA : Bytes w A.at' A.len) : Calls Try.prog 10 #[A.val, A.val] w fun e w' => e = .returned (.bool true) ∧ Below w.heap.size w w' :=
  (eqZ_any A A w hA hA).mono fun _ _ ⟨_, e, h, hb⟩ => ⟨by rw [e, h rfl], hb⟩

/-- What the copying loops keep. -/
def Inv (w : World) (h0 h1 h2 h3 h4 : Int) (X : Av) (g n : Nat) (M : List Av) (wr : World) (k : Nat) : Prop :=
  Since w h0 h1 h2 h3 h4 X wr ∧ Fl 28 wr g n M k

set_option maxRecDepth 20000 in
set_option maxHeartbeats 4000000 in
theorem law (a : Option Addr) (cap n p : Nat) (h0 h1 h2 h3 h4 c : Int) (X : Av) (L : List Av) (w : World) (hL : L.length = n) (hn : n ≤ 65536) (hp : p ≤ n) (hcap : n ≤ cap) (hS : Sl w (.slice a n cap) L) (hD : ∀ A ∈ L, Bytes w A.at' A.len) (hX : Bytes w X.at' X.len) :
    Calls Try.prog 3 #[.slice a n cap, hv h0 h1 h2 h3 h4, .int .u32 c, .int .i64 p, X.val] w fun e w' => e = .returned (.bool true) ∧ Below w.heap.size w w' := by
  have HS : Hid (∀ w0, Below w.heap.size w w0 → Sl w0 (.slice a n cap) L) := fun w0 hb => hS.later hb
  have HA : Hid (∀ w0, Below w.heap.size w w0 → At w0 a L) := fun w0 hb => at_of (hS.later hb)
  have HX0 : Hid (Since w h0 h1 h2 h3 h4 X ((w.alloc (hd h0 h1 h2 h3 h4)).alloc (xb X))) := Below.refl _ _
  have hML := put_len L p X (by omega)
  have HM1 : Hid (∀ i (hi : i < p) (hl : i < (put L p X).length) (hl2 : i < L.length), (put L p X)[i] = L[i]) := fun i hi hl hl2 => put_lo L p i X (by omega) hi hl hl2
  have HM2 : Hid (∀ hl : p < (put L p X).length, (put L p X)[p] = X) := fun hl => put_at L p X (by omega) hl
  have HM3 : Hid (∀ i (hi : p ≤ i) (hl : i + 1 < (put L p X).length) (hl2 : i < L.length), (put L p X)[i + 1] = L[i]) := fun i hi hl hl2 => put_hi L p i X (by omega) hi hl hl2
  obtain ⟨M, hM⟩ : ∃ M, M = put L p X := ⟨_, rfl⟩
  rw [← hM] at hML HM1 HM2 HM3
  have HMe : Hid (M = put L p X) := hM
  have hML' : M.length = n + 1 := by omega
  clear hS hM hML
  go_enter Try.func3, Try.ntmps3
  go_wp2_with fail
  refine (zzA_any _ L h0 h1 h2 h3 h4 c p X _ (by unfold maxLen; omega) (HS.out _ HX0.out.below)).mono ?_
  rintro e w1 ⟨⟨q, rfl⟩, hb1⟩
  have HW1 : Hid (Since w h0 h1 h2 h3 h4 X w1) := by
    have e2 : ((w.alloc (hd h0 h1 h2 h3 h4)).alloc (xb X)).heap.size = w.heap.size + 2 := by simp
    unfold Hid Since
    rw [← e2]
    exact hb1
  clear hb1
  cases q
  · go_wp2
    go_ret
    exact ⟨rfl, HW1.out.below⟩
  obtain ⟨_, _, _, x3⟩ := HW1.out.box
  go_wp2_with fail
  refine (sizeOK_any _ L X.len _ (by unfold maxLen; omega) (HS.out _ HW1.out.below)).mono ?_
  rintro e w2 ⟨⟨q, rfl⟩, hb2⟩
  have HW2 : Hid (Since w h0 h1 h2 h3 h4 X w2) := HW1.out.next hb2
  clear hb2 HW1 x3
  cases q
  · go_wp2
    go_ret
    exact ⟨rfl, HW2.out.below⟩
  obtain ⟨w3, hmk, hf3, hb3⟩ := make22 (n + 1) (by omega) M w2
  have en : ((n + 1 : Nat) : Int) = (n : Int) + 1 := by omega
  rw [en] at hmk
  have HI : Hid (Inv w h0 h1 h2 h3 h4 X w2.heap.size (n + 1) M w3 0) := ⟨HW2.out.next hb3, hf3⟩
  have hg2 : w.heap.size + 2 ≤ w2.heap.size := HW2.out.size
  clear hf3 hb3 en
  have hpn : ¬ (n : Int) < (p : Int) := by omega
  go_wp2
  go_loopw [12] (fun i wr => ∃ k : Nat, k ≤ p ∧ i = .int .i64 k ∧ Hid (Inv w h0 h1 h2 h3 h4 X w2.heap.size (n + 1) M wr k)) (fun i _ => p - (intOf i).toNat)
  case atStart => exact ⟨0, Nat.zero_le _, rfl, HI⟩
  case round =>
    clear hmk HI
    obtain ⟨k, hk, rfl, hI⟩ := hrel
    by_cases hlt : k < p
    · obtain ⟨b, off, ha, hl⟩ := HA.out wr hI.out.1.below (by rintro rfl; simp at hL; omega)
      subst ha
      obtain ⟨g0, g1, g2, g3⟩ := hl k (by omega)
      have i1 : (k : Int) < (n : Int) := by omega
      have i2 : (k : Int) < (n : Int) + 1 := by omega
      obtain ⟨⟨v0, e0⟩, f0⟩ := hI.out.2.write (k * 4) (by omega)
      obtain ⟨⟨v1, e1⟩, f1⟩ := hI.out.2.write (k * 4 + 1) (by omega)
      obtain ⟨⟨v2, e2⟩, f2⟩ := hI.out.2.write (k * 4 + 2) (by omega)
      obtain ⟨⟨v3, e3⟩, f3⟩ := hI.out.2.write (k * 4 + 3) (by omega)
      clear hl
      go_wp2
      go_roundw
      case rel =>
        refine ⟨k + 1, by omega, by go_num, ?_, hI.out.2.step (by omega) L[k] (fun h => HM1.out k hlt h (by omega))⟩
        exact (((Below.setCell hI.out.1 hg2 _).setCell hg2 _).setCell hg2 _).setCell hg2 _
      case measure => simp [intOf]; omega
    · have hkp : p = k := by omega
      subst hkp
      obtain ⟨x0, x1, x2, x3⟩ := hI.out.1.box
      obtain ⟨⟨v0, e0⟩, f0⟩ := hI.out.2.write (p * 4) (by omega)
      obtain ⟨⟨v1, e1⟩, f1⟩ := hI.out.2.write (p * 4 + 1) (by omega)
      obtain ⟨⟨v2, e2⟩, f2⟩ := hI.out.2.write (p * 4 + 2) (by omega)
      obtain ⟨⟨v3, e3⟩, f3⟩ := hI.out.2.write (p * 4 + 3) (by omega)
      have i2 : (p : Int) < (n : Int) + 1 := by omega
      have HI2 : Hid (Inv w h0 h1 h2 h3 h4 X w2.heap.size (n + 1) M ((((wr.setCell ⟨w2.heap.size, p * 4, none⟩ (.int .u32 X.code)).setCell ⟨w2.heap.size, p * 4 + 1, none⟩ (.int .u8 X.flags)).setCell ⟨w2.heap.size, p * 4 + 2, none⟩ (.int .u32 X.vendor)).setCell ⟨w2.heap.size, p * 4 + 3, none⟩ (.slice X.at' X.len X.cap)) (p + 1)) :=
        ⟨(((Below.setCell hI.out.1 hg2 _).setCell hg2 _).setCell hg2 _).setCell hg2 _, hI.out.2.step (by omega) X (fun h => HM2.out h)⟩
      go_wp2
      clear x0 x1 x2 x3 e0 e1 e2 e3 f0 f1 f2 f3 hI i2
      go_loopw [13] (fun i wx => ∃ k2 : Nat, p ≤ k2 ∧ k2 ≤ n ∧ i = .int .i64 k2 ∧ Hid (Inv w h0 h1 h2 h3 h4 X w2.heap.size (n + 1) M wx (k2 + 1))) (fun i _ => n - (intOf i).toNat)
      case atStart => exact ⟨p, Nat.le_refl _, hp, rfl, HI2⟩
      case round =>
        clear HI2
        obtain ⟨k2, hkk, hk2, rfl, hI⟩ := hrel
        by_cases hlt2 : k2 < n
        · obtain ⟨b, off, ha, hl⟩ := HA.out wr hI.out.1.below (by rintro rfl; simp at hL; omega)
          subst ha
          obtain ⟨g0, g1, g2, g3⟩ := hl k2 (by omega)
          have i1 : (k2 : Int) < (n : Int) := by omega
          have i2 : (k2 : Int) + 1 < (n : Int) + 1 := by omega
          obtain ⟨⟨v0, e0⟩, f0⟩ := hI.out.2.write ((k2 + 1) * 4) (by omega)
          obtain ⟨⟨v1, e1⟩, f1⟩ := hI.out.2.write ((k2 + 1) * 4 + 1) (by omega)
          obtain ⟨⟨v2, e2⟩, f2⟩ := hI.out.2.write ((k2 + 1) * 4 + 2) (by omega)
          obtain ⟨⟨v3, e3⟩, f3⟩ := hI.out.2.write ((k2 + 1) * 4 + 3) (by omega)
          clear hl
          go_wp2
          go_roundw
          case rel =>
            refine ⟨k2 + 1, by omega, by omega, by go_num, ?_, hI.out.2.step (by omega) L[k2] (fun h => HM3.out k2 hkk h (by omega))⟩
            exact (((Below.setCell hI.out.1 hg2 _).setCell hg2 _).setCell hg2 _).setCell hg2 _
          case measure => simp [intOf]; omega
        · have hkn : n = k2 := by omega
          subst hkn
          have hf := hI.out.2
          rw [← hML'] at hf
          have HO : Hid (∀ w0, Below wr.heap.size wr w0 → Sl w0 (.slice (some ⟨w2.heap.size, 0, none⟩) (n + 1) (n + 1)) M) := fun w0 hb => (sl_own hf.own hML').later hb
          have HWr : Hid (Since w h0 h1 h2 h3 h4 X wr) := hI.out.1
          clear hf hI HM1 HM2 HM3 hg2
          obtain ⟨q0, q1, q2, q3, q4⟩ := HWr.out.hdr
          go_wp2_with fail
          refine (msg_any h0 h1 h2 h3 h4 _ L _ (by omega) (HS.out _ HWr.out.below)).mono ?_
          rintro e wa ⟨m0, rfl, hba, hma⟩
          have HWa : Hid (Since w h0 h1 h2 h3 h4 X wa) := HWr.out.next hba
          have HOa : Hid (∀ w0, Below wa.heap.size wa w0 → Sl w0 (.slice (some ⟨w2.heap.size, 0, none⟩) (n + 1) (n + 1)) M) := fun w0 hb => HO.out w0 (chain hba hb)
          have HM0 : Hid (∀ w0, Below wa.heap.size wa w0 → Has w0 m0 L) := fun w0 hb => hma.later hb
          clear q0 q1 q2 q3 q4 hba hma HO HWr
          obtain ⟨q0, q1, q2, q3, q4⟩ := HWa.out.hdr
          go_wp2_with fail
          refine (msg_any h0 h1 h2 h3 h4 _ M _ (by omega) (HOa.out _ (Below.refl _ _))).mono ?_
          rintro e wb ⟨m1, rfl, hbb, hmb⟩
          have HWb : Hid (Since w h0 h1 h2 h3 h4 X wb) := HWa.out.next hbb
          have HM0' : Hid (∀ w0, Below wb.heap.size wb w0 → Has w0 m0 L) := fun w0 hb => HM0.out w0 (chain hbb hb)
          have HM1 : Hid (∀ w0, Below wb.heap.size wb w0 → Has w0 m1 M) := fun w0 hb => hmb.later hb
          clear q0 q1 q2 q3 q4 hbb hmb HOa HM0 HWa
          obtain ⟨q0, q1, q2, q3, q4⟩ := HWb.out.hdr
          have hsl := cut22 a n cap p (by omega)
          have HT : Hid (∀ w0, Below wb.heap.size wb w0 → Sl w0 (.slice a p cap) (L.take p)) := fun w0 hb => sl_take (HS.out w0 (chain HWb.out.below hb)) hL hp
          have hTl : (L.take p).length ≤ 65537 := by rw [List.length_take]; omega
          go_wp2_with fail
          go_region_held3 (fun w' => w'.cell? ⟨w.heap.size, 0, none⟩ = some (.int .u8 h0) ∧ w'.cell? ⟨w.heap.size, 1, none⟩ = some (.int .u32 h1) ∧ w'.cell? ⟨w.heap.size, 2, none⟩ = some (.int .u32 h2) ∧ w'.cell? ⟨w.heap.size, 3, none⟩ = some (.int .u32 h3) ∧ w'.cell? ⟨w.heap.size, 4, none⟩ = some (.int .u32 h4)) (go_keep) (first
            | (go_at_call 7; refine (msg_any h0 h1 h2 h3 h4 _ (L.take p) _ hTl (HT.out _ (Below.refl _ _).drew)).mono ?_; rintro e wc ⟨mp, rfl, hbc, hmc⟩; have s0 := cell_later hbc q0; have s1 := cell_later hbc q1; have s2 := cell_later hbc q2; have s3 := cell_later hbc q3; have s4 := cell_later hbc q4))
          have hbc' : Below wb.heap.size wb wc := chain ((Below.refl _ _).drew) hbc
          have HWc : Hid (Since w h0 h1 h2 h3 h4 X wc) := HWb.out.next hbc'
          have HM0 : Hid (∀ w0, Below wc.heap.size wc w0 → Has w0 m0 L) := fun w0 hb => HM0'.out w0 (chain hbc' hb)
          have HM1' : Hid (∀ w0, Below wc.heap.size wc w0 → Has w0 m1 M) := fun w0 hb => HM1.out w0 (chain hbc' hb)
          have HMp : Hid (∀ w0, Below wc.heap.size wc w0 → Has w0 mp (L.take p)) := fun w0 hb => hmc.later hb
          clear q0 q1 q2 q3 q4 s0 s1 s2 s3 s4 hbc hbc' hmc HM0' HM1 HWb HT hsl
          go_wp2_with fail
          refine (find_any m0 L c _ (by omega) (HM0.out _ (Below.refl _ _))).mono ?_
          rintro e wd ⟨v0, rfl, ⟨ra, rca, rfl, hr0⟩, hbd⟩
          have HWd : Hid (Since w h0 h1 h2 h3 h4 X wd) := HWc.out.next hbd
          have HR0 : Hid (L.filter (hit c) = [] ∨ ∃ g, ra = some ⟨g, 0, none⟩ ∧ Own wd g (L.filter (hit c))) := hr0
          have HM1 : Hid (∀ w0, Below wd.heap.size wd w0 → Has w0 m1 M) := fun w0 hb => HM1'.out w0 (chain hbd hb)
          have HMp' : Hid (∀ w0, Below wd.heap.size wd w0 → Has w0 mp (L.take p)) := fun w0 hb => HMp.out w0 (chain hbd hb)
          clear hbd hr0 HM0 HM1' HMp HWc
          go_wp2_with fail
          refine (find_any m1 M c _ (by omega) (HM1.out _ (Below.refl _ _))).mono ?_
          rintro e we ⟨v1, rfl, ⟨rb, rcb, rfl, hr1⟩, hbe⟩
          have HWe : Hid (Since w h0 h1 h2 h3 h4 X we) := HWd.out.next hbe
          have HBe : Hid (Below wd.heap.size wd we) := hbe
          have HR1 : Hid (M.filter (hit c) = [] ∨ ∃ g, rb = some ⟨g, 0, none⟩ ∧ Own we g (M.filter (hit c))) := hr1
          have HMp : Hid (∀ w0, Below we.heap.size we w0 → Has w0 mp (L.take p)) := fun w0 hb => HMp'.out w0 (chain hbe hb)
          clear hbe hr1 HM1 HMp' HWd
          go_wp2_with fail
          refine (find_any mp (L.take p) c _ hTl (HMp.out _ (Below.refl _ _))).mono ?_
          rintro e wf ⟨v2, rfl, ⟨rp, rcp, rfl, hr2⟩, hbf⟩
          have HWf : Hid (Since w h0 h1 h2 h3 h4 X wf) := HWe.out.next hbf
          have HRp : Hid ((L.take p).filter (hit c) = [] ∨ ∃ g, rp = some ⟨g, 0, none⟩ ∧ Own wf g ((L.take p).filter (hit c))) := hr2
          have HR1' : Hid (M.filter (hit c) = [] ∨ ∃ g, rb = some ⟨g, 0, none⟩ ∧ Own wf g (M.filter (hit c))) := match HR1.out with | .inl h => .inl h | .inr ⟨g, e, h⟩ => .inr ⟨g, e, h.later hbf⟩
          have HR0' : Hid (L.filter (hit c) = [] ∨ ∃ g, ra = some ⟨g, 0, none⟩ ∧ Own wf g (L.filter (hit c))) := match HR0.out with | .inl h => .inl h | .inr ⟨g, e, h⟩ => .inr ⟨g, e, h.later (chain HBe.out hbf)⟩
          clear hbf hr2 HR0 HR1 HBe HMp HWe
          obtain ⟨Fp, hFp⟩ : ∃ F, F = (L.take p).filter (hit c) := ⟨_, rfl⟩
          obtain ⟨F0, hF0⟩ : ∃ F, F = L.filter (hit c) := ⟨_, rfl⟩
          obtain ⟨F1, hF1⟩ : ∃ F, F = M.filter (hit c) := ⟨_, rfl⟩
          have hlp : Fp.length ≤ F0.length := by rw [hFp, hF0]; exact ins_len c L p
          have hl0 : F0.length ≤ 65536 := by rw [hF0]; have := List.length_filter_le (hit c) L; omega
          have hl1' : F1.length ≤ 65537 := by rw [hF1]; have := List.length_filter_le (hit c) M; omega
          have HP : Hid (∀ i (hi : i < Fp.length) (h0 : i < F0.length), Fp[i] = F0[i]) := by unfold Hid; rw [hFp, hF0]; exact fun i hi h0 => ins_pre c L p i hi h0
          have HD0 : Hid (∀ w0, Below wf.heap.size wf w0 → ∀ A ∈ F0, Bytes w0 A.at' A.len) := fun w0 hb A hA => (hD A (by rw [hF0] at hA; exact (List.mem_filter.1 hA).1)).later (chain HWf.out.below hb)
          have HDX : Hid (∀ w0, Below wf.heap.size wf w0 → Bytes w0 X.at' X.len) := fun w0 hb => hX.later (chain HWf.out.below hb)
          rw [← hFp] at HRp
          rw [← hF0] at HR0'
          rw [← hF1] at HR1'
          rw [← hFp, ← hF0, ← hF1]
          have HFp : Hid (Fp = (L.take p).filter (hit c)) := hFp
          have HF0 : Hid (F0 = L.filter (hit c)) := hF0
          have HFm : Hid (F1 = M.filter (hit c)) := hF1
          clear hFp hF0 hF1
          have hk : ¬ (F0.length : Int) < (Fp.length : Int) := by omega
          have hkd : decide (F0.length < Fp.length) = false := by simp; omega
          go_wp2
          clear hkd hk
          have HBS : Hid (Below wf.heap.size wf wf) := Below.refl _ _
          go_loopw [21] (fun i wx => ∃ ii : Nat, 0 ≤ ii ∧ ii ≤ Fp.length ∧ i = .int .i64 ii ∧ Hid (Below wf.heap.size wf wx)) (fun i _ => Fp.length - (intOf i).toNat)
          case atStart => exact ⟨0, Nat.le_refl _, Nat.zero_le _, rfl, HBS⟩
          case round =>
            clear HBS
            obtain ⟨ii, hlo, hii, rfl, hB⟩ := hrel
            by_cases hi : ii < Fp.length
            · have hiA : ii < Fp.length := by have := True.intro; omega
              have hiB : ii < F0.length := by omega
              obtain ⟨ga, hra, hoa⟩ := HRp.out.resolve_left (fun e => by rw [e] at hiA; exact Nat.not_lt_zero _ hiA)
              obtain ⟨gb, hrb, hob⟩ := HR0'.out.resolve_left (fun e => by rw [e] at hiB; exact Nat.not_lt_zero _ hiB)
              subst hra hrb
              have x := hoa.later hB.out ii hiA
              have y := hob.later hB.out ii hiB
              have he : Fp[ii] = F0[ii] := HP.out ii hiA hiB
              rw [he] at x
              have HbA : Hid (∀ w0, Below wf.heap.size wf w0 → Bytes w0 F0[ii].at' F0[ii].len) := fun w0 hb => HD0.out w0 hb _ (List.getElem_mem hiB)
              clear hoa hob he
              obtain ⟨A, hA⟩ : ∃ A, A = F0[ii] := ⟨_, rfl⟩
              rw [← hA] at x y HbA
              clear hA
              obtain ⟨x0, x1, x2, x3⟩ := x
              obtain ⟨y0, y1, y2, y3⟩ := y
              have i1 : (ii : Int) < (Fp.length : Int) := by have := True.intro; omega
              have i2 : (ii : Int) < (F0.length : Int) := by omega
              have i3 : (0 : Int) ≤ (ii : Int) := by omega
              have i4 : (0 : Int) ≤ (ii : Int) + 1 := by omega
              have i5 : (ii : Int) < (Fp.length : Int) := by omega
              go_wp2
              go_region_held3 (fun w' => w'.cell? ⟨ga, ii * 4, none⟩ = some (.int .u32 A.code) ∧ w'.cell? ⟨ga, ii * 4 + 1, none⟩ = some (.int .u8 A.flags) ∧ w'.cell? ⟨ga, ii * 4 + 2, none⟩ = some (.int .u32 A.vendor) ∧ w'.cell? ⟨ga, ii * 4 + 3, none⟩ = some (.slice A.at' A.len A.cap) ∧ w'.cell? ⟨gb, ii * 4, none⟩ = some (.int .u32 A.code) ∧ w'.cell? ⟨gb, ii * 4 + 1, none⟩ = some (.int .u8 A.flags) ∧ w'.cell? ⟨gb, ii * 4 + 2, none⟩ = some (.int .u32 A.vendor) ∧ w'.cell? ⟨gb, ii * 4 + 3, none⟩ = some (.slice A.at' A.len A.cap)) (go_keep) (first
                | (go_at_call 9; refine (eq_same A _ (HbA.out _ (chain hB.out (Below.refl _ _).drew))).mono ?_; rintro e w7 ⟨rfl, hb7⟩; have s0 := cell_later hb7 x0; have s1 := cell_later hb7 x1; have s2 := cell_later hb7 x2; have s3 := cell_later hb7 x3; have s4 := cell_later hb7 y0; have s5 := cell_later hb7 y1; have s6 := cell_later hb7 y2; have s7 := cell_later hb7 y3))
              have HB7 : Hid (Below wf.heap.size wf w7) := chain hB.out (chain ((Below.refl _ _).drew) hb7)
              clear hb7 s0 s1 s2 s3 s4 s5 s6 s7 x0 x1 x2 x3 y0 y1 y2 y3
              go_wp2
              go_roundw
              case rel => exact ⟨ii + 1, by omega, by omega, by go_num, HB7⟩
              case measure => simp [intOf]; omega
            · obtain ⟨b0, b1, b2, b3⟩ := (HWf.out.next hB.out).box
              cases hx1 : (X.code == c)
              · have HF1 : F0 = F1 := by rw [HFm.out, HMe.out, HF0.out]; exact (ins_miss c L p X (by unfold hit; rw [hx1]; rfl)).symm
                subst HF1
                clear HFm HF0 HFp
                go_wp2
                have HBS : Hid (Below wf.heap.size wf wr) := hB
                clear hB hx1 b0 b1 b2 b3
                go_loopw [23] (fun i wx => ∃ ii : Nat, 0 ≤ ii ∧ ii ≤ F0.length ∧ i = .int .i64 ii ∧ Hid (Below wf.heap.size wf wx)) (fun i _ => F0.length - (intOf i).toNat)
                case atStart => exact ⟨0, Nat.le_refl _, Nat.zero_le _, rfl, HBS⟩
                case round =>
                  clear HBS
                  obtain ⟨ii, hlo, hii, rfl, hB⟩ := hrel
                  by_cases hi : ii < F0.length
                  · have hiA : ii < F0.length := by have := True.intro; omega
                    have hiB : ii < F0.length := by omega
                    obtain ⟨ga, hra, hoa⟩ := HR1'.out.resolve_left (fun e => by rw [e] at hiA; exact Nat.not_lt_zero _ hiA)
                    obtain ⟨gb, hrb, hob⟩ := HR0'.out.resolve_left (fun e => by rw [e] at hiB; exact Nat.not_lt_zero _ hiB)
                    subst hra hrb
                    have x := hoa.later hB.out ii hiA
                    have y := hob.later hB.out ii hiB
                    have he : F0[ii] = F0[ii] := rfl
                    rw [he] at x
                    have HbA : Hid (∀ w0, Below wf.heap.size wf w0 → Bytes w0 F0[ii].at' F0[ii].len) := fun w0 hb => HD0.out w0 hb _ (List.getElem_mem hiB)
                    clear hoa hob he
                    obtain ⟨A, hA⟩ : ∃ A, A = F0[ii] := ⟨_, rfl⟩
                    rw [← hA] at x y HbA
                    clear hA
                    obtain ⟨x0, x1, x2, x3⟩ := x
                    obtain ⟨y0, y1, y2, y3⟩ := y
                    have i1 : (ii : Int) < (F0.length : Int) := by have := True.intro; omega
                    have i2 : (ii : Int) < (F0.length : Int) := by omega
                    have i3 : (0 : Int) ≤ (ii : Int) := by omega
                    have i4 : (0 : Int) ≤ (ii : Int) + 1 := by omega
                    have i5 : (ii : Int) < (F0.length : Int) := by omega
                    go_wp2
                    go_region_held3 (fun w' => w'.cell? ⟨ga, ii * 4, none⟩ = some (.int .u32 A.code) ∧ w'.cell? ⟨ga, ii * 4 + 1, none⟩ = some (.int .u8 A.flags) ∧ w'.cell? ⟨ga, ii * 4 + 2, none⟩ = some (.int .u32 A.vendor) ∧ w'.cell? ⟨ga, ii * 4 + 3, none⟩ = some (.slice A.at' A.len A.cap) ∧ w'.cell? ⟨gb, ii * 4, none⟩ = some (.int .u32 A.code) ∧ w'.cell? ⟨gb, ii * 4 + 1, none⟩ = some (.int .u8 A.flags) ∧ w'.cell? ⟨gb, ii * 4 + 2, none⟩ = some (.int .u32 A.vendor) ∧ w'.cell? ⟨gb, ii * 4 + 3, none⟩ = some (.slice A.at' A.len A.cap)) (go_keep) (first
                      | (go_at_call 9; refine (eq_same A _ (HbA.out _ (chain hB.out (Below.refl _ _).drew))).mono ?_; rintro e w7 ⟨rfl, hb7⟩; have s0 := cell_later hb7 x0; have s1 := cell_later hb7 x1; have s2 := cell_later hb7 x2; have s3 := cell_later hb7 x3; have s4 := cell_later hb7 y0; have s5 := cell_later hb7 y1; have s6 := cell_later hb7 y2; have s7 := cell_later hb7 y3))
                    have HB7 : Hid (Below wf.heap.size wf w7) := chain hB.out (chain ((Below.refl _ _).drew) hb7)
                    clear hb7 s0 s1 s2 s3 s4 s5 s6 s7 x0 x1 x2 x3 y0 y1 y2 y3
                    go_wp2
                    go_roundw
                    case rel => exact ⟨ii + 1, by omega, by omega, by go_num, HB7⟩
                    case measure => simp [intOf]; omega
                  · have HWz : Hid (Below w.heap.size w wr) := chain HWf.out.below hB.out
                    go_wp2
                    go_ret
                    exact ⟨rfl, HWz.out⟩
              · cases hx2 : (bits BinOp.and IntKind.u8 X.flags 128 == 0)
                · have HF1 : F0 = F1 := by rw [HFm.out, HMe.out, HF0.out]; exact (ins_miss c L p X (by unfold hit; rw [hx1, hx2]; rfl)).symm
                  subst HF1
                  clear HFm HF0 HFp
                  go_wp2
                  have HBS : Hid (Below wf.heap.size wf wr) := hB
                  clear hB hx1 hx2 b0 b1 b2 b3
                  go_loopw [23] (fun i wx => ∃ ii : Nat, 0 ≤ ii ∧ ii ≤ F0.length ∧ i = .int .i64 ii ∧ Hid (Below wf.heap.size wf wx)) (fun i _ => F0.length - (intOf i).toNat)
                  case atStart => exact ⟨0, Nat.le_refl _, Nat.zero_le _, rfl, HBS⟩
                  case round =>
                    clear HBS
                    obtain ⟨ii, hlo, hii, rfl, hB⟩ := hrel
                    by_cases hi : ii < F0.length
                    · have hiA : ii < F0.length := by have := True.intro; omega
                      have hiB : ii < F0.length := by omega
                      obtain ⟨ga, hra, hoa⟩ := HR1'.out.resolve_left (fun e => by rw [e] at hiA; exact Nat.not_lt_zero _ hiA)
                      obtain ⟨gb, hrb, hob⟩ := HR0'.out.resolve_left (fun e => by rw [e] at hiB; exact Nat.not_lt_zero _ hiB)
                      subst hra hrb
                      have x := hoa.later hB.out ii hiA
                      have y := hob.later hB.out ii hiB
                      have he : F0[ii] = F0[ii] := rfl
                      rw [he] at x
                      have HbA : Hid (∀ w0, Below wf.heap.size wf w0 → Bytes w0 F0[ii].at' F0[ii].len) := fun w0 hb => HD0.out w0 hb _ (List.getElem_mem hiB)
                      clear hoa hob he
                      obtain ⟨A, hA⟩ : ∃ A, A = F0[ii] := ⟨_, rfl⟩
                      rw [← hA] at x y HbA
                      clear hA
                      obtain ⟨x0, x1, x2, x3⟩ := x
                      obtain ⟨y0, y1, y2, y3⟩ := y
                      have i1 : (ii : Int) < (F0.length : Int) := by have := True.intro; omega
                      have i2 : (ii : Int) < (F0.length : Int) := by omega
                      have i3 : (0 : Int) ≤ (ii : Int) := by omega
                      have i4 : (0 : Int) ≤ (ii : Int) + 1 := by omega
                      have i5 : (ii : Int) < (F0.length : Int) := by omega
                      go_wp2
                      go_region_held3 (fun w' => w'.cell? ⟨ga, ii * 4, none⟩ = some (.int .u32 A.code) ∧ w'.cell? ⟨ga, ii * 4 + 1, none⟩ = some (.int .u8 A.flags) ∧ w'.cell? ⟨ga, ii * 4 + 2, none⟩ = some (.int .u32 A.vendor) ∧ w'.cell? ⟨ga, ii * 4 + 3, none⟩ = some (.slice A.at' A.len A.cap) ∧ w'.cell? ⟨gb, ii * 4, none⟩ = some (.int .u32 A.code) ∧ w'.cell? ⟨gb, ii * 4 + 1, none⟩ = some (.int .u8 A.flags) ∧ w'.cell? ⟨gb, ii * 4 + 2, none⟩ = some (.int .u32 A.vendor) ∧ w'.cell? ⟨gb, ii * 4 + 3, none⟩ = some (.slice A.at' A.len A.cap)) (go_keep) (first
                        | (go_at_call 9; refine (eq_same A _ (HbA.out _ (chain hB.out (Below.refl _ _).drew))).mono ?_; rintro e w7 ⟨rfl, hb7⟩; have s0 := cell_later hb7 x0; have s1 := cell_later hb7 x1; have s2 := cell_later hb7 x2; have s3 := cell_later hb7 x3; have s4 := cell_later hb7 y0; have s5 := cell_later hb7 y1; have s6 := cell_later hb7 y2; have s7 := cell_later hb7 y3))
                      have HB7 : Hid (Below wf.heap.size wf w7) := chain hB.out (chain ((Below.refl _ _).drew) hb7)
                      clear hb7 s0 s1 s2 s3 s4 s5 s6 s7 x0 x1 x2 x3 y0 y1 y2 y3
                      go_wp2
                      go_roundw
                      case rel => exact ⟨ii + 1, by omega, by omega, by go_num, HB7⟩
                      case measure => simp [intOf]; omega
                    · have HWz : Hid (Below w.heap.size w wr) := chain HWf.out.below hB.out
                      go_wp2
                      go_ret
                      exact ⟨rfl, HWz.out⟩
                · have HF1 : Hid (F1 = put F0 Fp.length X) := by rw [HFm.out, HMe.out, HF0.out, HFp.out]; exact ins_hit c L p X (by unfold hit; rw [hx1, hx2]; rfl)
                  have HL1 : Hid (F1.length = F0.length + 1) := by unfold Hid; rw [HF1.out]; exact put_len _ _ _ hlp
                  have HH1 : Hid (∀ i (hi : i < Fp.length) (hl : i < F1.length) (hl2 : i < F0.length), F1[i] = F0[i]) := by unfold Hid; rw [HF1.out]; exact fun i hi hl hl2 => put_lo F0 Fp.length i X hlp hi hl hl2
                  have HH2 : Hid (∀ hl : Fp.length < F1.length, F1[Fp.length] = X) := by unfold Hid; rw [HF1.out]; exact fun hl => put_at F0 Fp.length X hlp hl
                  have HH3 : Hid (∀ i (hi : Fp.length ≤ i) (hl : i + 1 < F1.length) (hl2 : i < F0.length), F1[i + 1] = F0[i]) := by unfold Hid; rw [HF1.out]; exact fun i hi hl hl2 => put_hi F0 Fp.length i X hlp hi hl hl2
                  have hne : ((F1.length : Int) != (F0.length : Int) + 1) = false := by rw [HL1.out]; simp
                  clear HFm HF0 HFp HF1
                  go_wp2
                  have HBS : Hid (Below wf.heap.size wf wr) := hB
                  clear hB
                  clear hx1 hx2 hne b0 b1 b2 b3
                  go_loopw [24] (fun i wx => ∃ ii : Nat, 0 ≤ ii ∧ ii ≤ Fp.length ∧ i = .int .i64 ii ∧ Hid (Below wf.heap.size wf wx)) (fun i _ => Fp.length - (intOf i).toNat)
                  case atStart => exact ⟨0, Nat.le_refl _, Nat.zero_le _, rfl, HBS⟩
                  case round =>
                    clear HBS
                    obtain ⟨ii, hlo, hii, rfl, hB⟩ := hrel
                    by_cases hi : ii < Fp.length
                    · have hiA : ii < F1.length := by have := HL1.out; omega
                      have hiB : ii < F0.length := by omega
                      obtain ⟨ga, hra, hoa⟩ := HR1'.out.resolve_left (fun e => by rw [e] at hiA; exact Nat.not_lt_zero _ hiA)
                      obtain ⟨gb, hrb, hob⟩ := HR0'.out.resolve_left (fun e => by rw [e] at hiB; exact Nat.not_lt_zero _ hiB)
                      subst hra hrb
                      have x := hoa.later hB.out ii hiA
                      have y := hob.later hB.out ii hiB
                      have he : F1[ii] = F0[ii] := HH1.out ii hi hiA hiB
                      rw [he] at x
                      have HbA : Hid (∀ w0, Below wf.heap.size wf w0 → Bytes w0 F0[ii].at' F0[ii].len) := fun w0 hb => HD0.out w0 hb _ (List.getElem_mem hiB)
                      clear hoa hob he
                      obtain ⟨A, hA⟩ : ∃ A, A = F0[ii] := ⟨_, rfl⟩
                      rw [← hA] at x y HbA
                      clear hA
                      obtain ⟨x0, x1, x2, x3⟩ := x
                      obtain ⟨y0, y1, y2, y3⟩ := y
                      have i1 : (ii : Int) < (F1.length : Int) := by have := HL1.out; omega
                      have i2 : (ii : Int) < (F0.length : Int) := by omega
                      have i3 : (0 : Int) ≤ (ii : Int) := by omega
                      have i4 : (0 : Int) ≤ (ii : Int) + 1 := by omega
                      have i5 : (ii : Int) < (Fp.length : Int) := by omega
                      go_wp2
                      go_region_held3 (fun w' => w'.cell? ⟨ga, ii * 4, none⟩ = some (.int .u32 A.code) ∧ w'.cell? ⟨ga, ii * 4 + 1, none⟩ = some (.int .u8 A.flags) ∧ w'.cell? ⟨ga, ii * 4 + 2, none⟩ = some (.int .u32 A.vendor) ∧ w'.cell? ⟨ga, ii * 4 + 3, none⟩ = some (.slice A.at' A.len A.cap) ∧ w'.cell? ⟨gb, ii * 4, none⟩ = some (.int .u32 A.code) ∧ w'.cell? ⟨gb, ii * 4 + 1, none⟩ = some (.int .u8 A.flags) ∧ w'.cell? ⟨gb, ii * 4 + 2, none⟩ = some (.int .u32 A.vendor) ∧ w'.cell? ⟨gb, ii * 4 + 3, none⟩ = some (.slice A.at' A.len A.cap)) (go_keep) (first
                        | (go_at_call 9; refine (eq_same A _ (HbA.out _ (chain hB.out (Below.refl _ _).drew))).mono ?_; rintro e w7 ⟨rfl, hb7⟩; have s0 := cell_later hb7 x0; have s1 := cell_later hb7 x1; have s2 := cell_later hb7 x2; have s3 := cell_later hb7 x3; have s4 := cell_later hb7 y0; have s5 := cell_later hb7 y1; have s6 := cell_later hb7 y2; have s7 := cell_later hb7 y3))
                      have HB7 : Hid (Below wf.heap.size wf w7) := chain hB.out (chain ((Below.refl _ _).drew) hb7)
                      clear hb7 s0 s1 s2 s3 s4 s5 s6 s7 x0 x1 x2 x3 y0 y1 y2 y3
                      go_wp2
                      go_roundw
                      case rel => exact ⟨ii + 1, by omega, by omega, by go_num, HB7⟩
                      case measure => simp [intOf]; omega
                    · obtain ⟨ga, hra, hoa⟩ := HR1'.out.resolve_left (fun e => by have h := HL1.out; rw [e] at h; simp at h)
                      subst hra
                      have hiA : Fp.length < F1.length := by have := HL1.out; omega
                      have x := hoa.later hB.out Fp.length hiA
                      rw [HH2.out hiA] at x
                      obtain ⟨y0, y1, y2, y3⟩ := x
                      obtain ⟨x0, x1, x2, x3⟩ := (HWf.out.next hB.out).box
                      have HbA : Hid (∀ w0, Below wf.heap.size wf w0 → Bytes w0 X.at' X.len) := HDX
                      have i1 : (Fp.length : Int) < (F1.length : Int) := by have := HL1.out; omega
                      have i3 : (0 : Int) ≤ (Fp.length : Int) := by omega
                      have HOA : Hid (Own wf ga F1) := hoa
                      clear hoa hiA
                      go_wp2
                      go_region_held3 (fun w' => w'.cell? ⟨w.heap.size + 1, 0, none⟩ = some (.int .u32 X.code) ∧ w'.cell? ⟨w.heap.size + 1, 1, none⟩ = some (.int .u8 X.flags) ∧ w'.cell? ⟨w.heap.size + 1, 2, none⟩ = some (.int .u32 X.vendor) ∧ w'.cell? ⟨w.heap.size + 1, 3, none⟩ = some (.slice X.at' X.len X.cap) ∧ w'.cell? ⟨ga, Fp.length * 4, none⟩ = some (.int .u32 X.code) ∧ w'.cell? ⟨ga, Fp.length * 4 + 1, none⟩ = some (.int .u8 X.flags) ∧ w'.cell? ⟨ga, Fp.length * 4 + 2, none⟩ = some (.int .u32 X.vendor) ∧ w'.cell? ⟨ga, Fp.length * 4 + 3, none⟩ = some (.slice X.at' X.len X.cap)) (go_keep) (first
                        | (go_at_call 10; refine (eqZ_same X _ (HbA.out _ (chain hB.out (Below.refl _ _).drew))).mono ?_; rintro e w7 ⟨rfl, hb7⟩; have s0 := cell_later hb7 x0; have s1 := cell_later hb7 x1; have s2 := cell_later hb7 x2; have s3 := cell_later hb7 x3; have s4 := cell_later hb7 y0; have s5 := cell_later hb7 y1; have s6 := cell_later hb7 y2; have s7 := cell_later hb7 y3))
                      have HBS : Hid (Below wf.heap.size wf w7) := chain hB.out (chain ((Below.refl _ _).drew) hb7)
                      clear hb7 s0 s1 s2 s3 s4 s5 s6 s7 x0 x1 x2 x3 y0 y1 y2 y3 hB
                      go_wp2
                      go_loopw [25] (fun i wx => ∃ ii : Nat, Fp.length ≤ ii ∧ ii ≤ F0.length ∧ i = .int .i64 ii ∧ Hid (Below wf.heap.size wf wx)) (fun i _ => F0.length - (intOf i).toNat)
                      case atStart => exact ⟨Fp.length, Nat.le_refl _, hlp, rfl, HBS⟩
                      case round =>
                        clear HBS
                        obtain ⟨ii, hlo, hii, rfl, hB⟩ := hrel
                        by_cases hi : ii < F0.length
                        · have hiA : (ii + 1) < F1.length := by have := HL1.out; omega
                          have hiB : ii < F0.length := by omega
                          have hoa := HOA.out
                          obtain ⟨gb, hrb, hob⟩ := HR0'.out.resolve_left (fun e => by rw [e] at hiB; exact Nat.not_lt_zero _ hiB)
                          subst hrb
                          have x := hoa.later hB.out (ii + 1) hiA
                          have y := hob.later hB.out ii hiB
                          have he : F1[(ii + 1)] = F0[ii] := HH3.out ii hlo hiA hiB
                          rw [he] at x
                          have HbA : Hid (∀ w0, Below wf.heap.size wf w0 → Bytes w0 F0[ii].at' F0[ii].len) := fun w0 hb => HD0.out w0 hb _ (List.getElem_mem hiB)
                          clear hoa hob he
                          obtain ⟨A, hA⟩ : ∃ A, A = F0[ii] := ⟨_, rfl⟩
                          rw [← hA] at x y HbA
                          clear hA
                          obtain ⟨x0, x1, x2, x3⟩ := x
                          obtain ⟨y0, y1, y2, y3⟩ := y
                          have i1 : (ii : Int) + 1 < (F1.length : Int) := by have := HL1.out; omega
                          have i2 : (ii : Int) < (F0.length : Int) := by omega
                          have i3 : (0 : Int) ≤ (ii : Int) := by omega
                          have i4 : (0 : Int) ≤ (ii : Int) + 1 := by omega
                          have i5 : (ii : Int) < (F0.length : Int) := by omega
                          have i6 : IntKind.i64.wrap ((ii : Int) + 1) = (ii : Int) + 1 := by rw [IntKind.wrap_i64]; omega
                          go_wp2
                          go_region_held3 (fun w' => w'.cell? ⟨ga, (ii + 1) * 4, none⟩ = some (.int .u32 A.code) ∧ w'.cell? ⟨ga, (ii + 1) * 4 + 1, none⟩ = some (.int .u8 A.flags) ∧ w'.cell? ⟨ga, (ii + 1) * 4 + 2, none⟩ = some (.int .u32 A.vendor) ∧ w'.cell? ⟨ga, (ii + 1) * 4 + 3, none⟩ = some (.slice A.at' A.len A.cap) ∧ w'.cell? ⟨gb, ii * 4, none⟩ = some (.int .u32 A.code) ∧ w'.cell? ⟨gb, ii * 4 + 1, none⟩ = some (.int .u8 A.flags) ∧ w'.cell? ⟨gb, ii * 4 + 2, none⟩ = some (.int .u32 A.vendor) ∧ w'.cell? ⟨gb, ii * 4 + 3, none⟩ = some (.slice A.at' A.len A.cap)) (go_keep) (first
                            | (go_at_call 9; refine (eq_same A _ (HbA.out _ (chain hB.out (Below.refl _ _).drew))).mono ?_; rintro e w7 ⟨rfl, hb7⟩; have s0 := cell_later hb7 x0; have s1 := cell_later hb7 x1; have s2 := cell_later hb7 x2; have s3 := cell_later hb7 x3; have s4 := cell_later hb7 y0; have s5 := cell_later hb7 y1; have s6 := cell_later hb7 y2; have s7 := cell_later hb7 y3))
                          have HB7 : Hid (Below wf.heap.size wf w7) := chain hB.out (chain ((Below.refl _ _).drew) hb7)
                          clear hb7 s0 s1 s2 s3 s4 s5 s6 s7 x0 x1 x2 x3 y0 y1 y2 y3
                          go_wp2
                          go_roundw
                          case rel => exact ⟨ii + 1, by omega, by omega, by go_num, HB7⟩
                          case measure => simp [intOf]; omega
                        · have HWz : Hid (Below w.heap.size w wr) := chain HWf.out.below hB.out
                          go_wp2
                          go_ret
                          exact ⟨rfl, HWz.out⟩
end Go.Proofs.Qxb6626480a.ins
