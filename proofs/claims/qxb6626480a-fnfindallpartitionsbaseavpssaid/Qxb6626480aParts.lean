/-
  SEAT b6626480a: WALK of FnFindAllPartitionsBaseAVPs (4).
-/
import Derived.Test.Qxb6626480aPlain
import Derived.Deep.DeepCutAuto
import Derived.Deep.RegionHeld3
namespace Go.Proofs.Qxb6626480a.parts
open Go.RowKit
open Go.Proofs.Qxb6626480a

abbrev hd (h0 h1 h2 h3 h4 : Int) : Obj := .cells #[.int .u8 h0, .int .u32 h1, .int .u32 h2, .int .u32 h3, .int .u32 h4] 25

theorem chain {w X w' : World} (h : Below w.heap.size w X) (hb : Below X.heap.size X w') : Below w.heap.size w w' := h.trans (hb.mono h.size)

/-- A row of codes: N cells, the first of them C. -/
def Cd (w : World) (g N : Nat) (C : List Int) : Prop :=
  ∃ cur, w.heap[g]? = some (.cells cur 23 (0, 0)) ∧ cur.size = N ∧ ∀ j (h : j < C.length), cur[j]? = some (.int .u32 C[j])

theorem info23 : (Try.prog.info? 23).map (fun i => (i.zero, i.size, i.bytes)) = some (some (.int .u32 0), 1, 4) := by kernel_rfl

/-- 'make([]uint32, n)'. -/
theorem make39 (n : Nat) (hn : n ≤ 65537) (w : World) : ∃ w1, (Instr.makeSlice 39 (.int .i64 n) (.int .i64 n)).run Try.prog w = .ok (.slice (some ⟨w.heap.size, 0, none⟩) n n) w1 ∧ Cd w1 w.heap.size n [] ∧ Below w.heap.size w w1 := by
  obtain ⟨i, hi, hz0, hz1, hz2⟩ := info_parts info23
  obtain ⟨w1, hrun, hown, hg⟩ := run_make_full (P := Try.prog) w w.heap.size 39 23 i _ 1 Try.underlying39 hi hz0 hz1 .i64 .i64 n (by rw [hz2]; omega) (by unfold maxLen; omega) (Nat.le_refl _)
  refine ⟨w1, hrun, ?_, (Below.refl _ _).grown hg (Nat.le_refl _) (fun k h => by cases h)⟩
  rcases hown.2 with ⟨h, _⟩ | ⟨g', cp, cur, e, _, hg', _, _, hs, _⟩
  · cases h
  · injection e with e1 _ e3
    injection e1 with e1
    injection e1 with e1
    subst e1
    subst e3
    exact ⟨cur, hg', by rw [hs, Nat.mul_one], fun j h => absurd h (Nat.not_lt_zero _)⟩

theorem Cd.later {w w1 : World} {g N : Nat} {C : List Int} (h : Cd w g N C) (hb : Below w.heap.size w w1) : Cd w1 g N C := by
  obtain ⟨cur, hg, rest⟩ := h
  exact ⟨cur, by rw [hb.block g (Array.getElem?_eq_some_iff.1 hg).1]; exact hg, rest⟩
theorem Cd.lt {w : World} {g N : Nat} {C : List Int} (h : Cd w g N C) : g < w.heap.size := by
  obtain ⟨cur, hg, _⟩ := h
  exact (Array.getElem?_eq_some_iff.1 hg).1
theorem Cd.write {w : World} {g N : Nat} {C : List Int} (h : Cd w g N C) (j : Nat) (hj : j < N) : (∃ v, w.cell? ⟨g, j, none⟩ = some v) ∧ w.frozen? ⟨g, j, none⟩ = false := by
  obtain ⟨cur, hg, hs, _⟩ := h
  refine ⟨⟨cur[j]'(by omega), ?_⟩, frozen_of_row w g j cur 23 hg⟩
  rw [cell_of_row w g j cur 23 (0, 0) hg]
  exact Array.getElem?_eq_getElem _
theorem Cd.read {w : World} {g N : Nat} {C : List Int} (h : Cd w g N C) (j : Nat) (hj : j < C.length) : w.cell? ⟨g, j, none⟩ = some (.int .u32 C[j]) := by
  obtain ⟨cur, hg, hs, hc⟩ := h
  rw [cell_of_row w g j cur 23 (0, 0) hg]
  exact hc j hj
theorem Cd.push {w : World} {g N : Nat} {C : List Int} (h : Cd w g N C) (x : Int) (hN : C.length < N) : Cd (w.setCell ⟨g, C.length, none⟩ (.int .u32 x)) g N (C ++ [x]) := by
  obtain ⟨cur, hg, hs, hc⟩ := h
  refine ⟨_, heap_setCell_same _ g C.length cur 23 (.int .u32 x) hg, by simp [hs], ?_⟩
  intro j hj
  rw [Array.getElem?_setIfInBounds]
  by_cases e : C.length = j
  · subst e
    rw [if_pos rfl, if_pos (by omega)]
    simp
  · rw [if_neg e]
    have : j < C.length := by simp at hj; omega
    rw [hc j this, List.getElem_append_left this]

/-- What a slice argument's rounds want. -/
def At (w : World) (a : Option Addr) (L : List Av) : Prop := L ≠ [] → ∃ b off, a = some ⟨b, off, none⟩ ∧ Lies w b off L

theorem at_of {w : World} {a : Option Addr} {n cap : Nat} {L : List Av} (h : Sl w (.slice a n cap) L) : At w a L := by
  intro hne
  rcases h with ⟨h, _⟩ | ⟨h, _⟩ | ⟨b, off, c, e, hl⟩
  · exact absurd h hne
  · exact absurd h hne
  · injection e with e1
    exact ⟨b, off, e1, hl⟩

/-- What loop 1 keeps. -/
def Inv1 (w3 : World) (n : Nat) (c : Int) (L : List Av) (wr : World) (k : Nat) (C : List Int) : Prop :=
  Below w3.heap.size w3 wr ∧ Cd wr w3.heap.size (n + 1) C ∧ C = codesOf c (L.take k)

theorem inv1_seen {w3 : World} {n : Nat} {c : Int} {L : List Av} {wr : World} {k j : Nat} {C : List Int} (h : Inv1 w3 n c L wr k C) (hk : k < L.length) (hj : j < C.length) (he : (C[j] == L[k].code) = true) : Inv1 w3 n c L wr (k + 1) C := by
  refine ⟨h.1, h.2.1, ?_⟩
  rw [codesOf_snoc c L k hk, ← h.2.2]
  unfold addCode
  rw [if_pos]
  rw [← eq_of_beq he]
  exact List.getElem_mem hj

theorem inv1_new {w3 : World} {n : Nat} {c : Int} {L : List Av} {wr : World} {k : Nat} {C : List Int} (h : Inv1 w3 n c L wr k C) (hk : k < L.length) (hN : C.length < n + 1) (hno : ∀ t (ht : t < C.length), C[t] ≠ L[k].code) :
    Inv1 w3 n c L (wr.setCell ⟨w3.heap.size, C.length, none⟩ (.int .u32 L[k].code)) (k + 1) (C ++ [L[k].code]) := by
  refine ⟨h.1.setCell (Nat.le_refl _) _, h.2.1.push _ hN, ?_⟩
  rw [codesOf_snoc c L k hk, ← h.2.2]
  unfold addCode
  rw [if_neg]
  intro hm
  obtain ⟨t, ht, e⟩ := List.getElem_of_mem hm
  exact hno t ht e

/-- What the inner search has seen. -/
def No (C : List Int) (x : Int) (j : Nat) : Prop := ∀ t (ht : t < C.length), t < j → C[t] ≠ x
theorem No.step {C : List Int} {x : Int} {j : Nat} (h : No C x j) (hj : j < C.length) (he : (C[j] == x) = false) : No C x (j + 1) := by
  intro t ht hlt
  by_cases e : t = j
  · subst e
    exact ne_of_beq_false he
  · exact h t ht (by omega)

set_option maxRecDepth 20000 in
set_option maxHeartbeats 2000000 in
theorem law (a : Option Addr) (cap n : Nat) (h0 h1 h2 h3 h4 c : Int) (L : List Av) (w : World) (hL : L.length = n) (h4k : n ≤ 4096) (hS : Sl w (.slice a n cap) L) (hD : ∀ A ∈ L, Bytes w A.at' A.len) :
    Calls Try.prog 4 #[.slice a n cap, hv h0 h1 h2 h3 h4, .int .u32 c] w fun e w' => e = .returned (.bool true) ∧ Below w.heap.size w w' := by
  have HS : Hid (∀ w0, Below w.heap.size w w0 → Sl w0 (.slice a n cap) L) := fun w0 hb => hS.later hb
  have HA : Hid (∀ w0, Below w.heap.size w w0 → At w0 a L) := fun w0 hb => at_of (hS.later hb)
  have HX : Hid (Below w.heap.size w (w.alloc (hd h0 h1 h2 h3 h4))) := (Below.refl _ _).alloc (Nat.le_refl _) _
  clear hS
  go_enter Try.func4, Try.ntmps4
  go_wp2_with fail
  refine (zzB_any _ L h0 h1 h2 h3 h4 c _ (by unfold maxLen; omega) (HS.out _ HX.out)).mono ?_
  rintro e w1 ⟨⟨q, rfl⟩, hb1⟩
  have HB1 : Hid (Below (w.heap.size + 1) (w.alloc (hd h0 h1 h2 h3 h4)) w1) := by unfold Hid; simpa using hb1
  have HW1 : Hid (Below w.heap.size w w1) := chain HX.out hb1
  clear hb1
  cases q
  · go_wp2
    go_ret
    exact ⟨rfl, HW1.out⟩
  go_wp2_with fail
  refine (sizeOK_any _ L 0 _ (by unfold maxLen; omega) (HS.out _ HW1.out)).mono ?_
  rintro e w2 ⟨⟨q, rfl⟩, hb2⟩
  have HB2 : Hid (Below (w.heap.size + 1) (w.alloc (hd h0 h1 h2 h3 h4)) w2) := HB1.out.trans (hb2.mono (by have := HB1.out.size; simp at this; omega))
  have HW2 : Hid (Below w.heap.size w w2) := chain HW1.out hb2
  clear hb2 HB1 HW1
  cases q
  · go_wp2
    go_ret
    exact ⟨rfl, HW2.out⟩
  obtain ⟨q0, q1, q2, q3, q4⟩ := five_kept HB2.out
  go_wp2_with fail
  refine (msg_any h0 h1 h2 h3 h4 _ L _ (by omega) (HS.out _ HW2.out)).mono ?_
  rintro e w3 ⟨m, rfl, hb3, hm⟩
  have HW3 : Hid (Below w.heap.size w w3) := chain HW2.out hb3
  have HM : Hid (∀ w0, Below w3.heap.size w3 w0 → Has w0 m L) := fun w0 hb => hm.later hb
  clear hb3 hm HB2 HW2 q0 q1 q2 q3 q4
  obtain ⟨w4, hmk, hcd, hb4⟩ := make39 (n + 1) (by omega) w3
  have en : ((n + 1 : Nat) : Int) = (n : Int) + 1 := by omega
  rw [en] at hmk
  obtain ⟨⟨v0, e0⟩, f0⟩ := hcd.write 0 (by omega)
  have HI : Hid (Inv1 w3 n c L (w4.setCell ⟨w3.heap.size, 0, none⟩ (.int .u32 c)) 0 [c]) := ⟨hb4.setCell (Nat.le_refl _) _, hcd.push c (by simp), by simp [codesOf]⟩
  clear hcd hb4 en
  go_wp2
  go_loopw [9, 10] (fun nc i wr => ∃ (k : Nat) (C : List Int), k ≤ n ∧ i = .int .i64 k ∧ nc = .int .i64 C.length ∧ C.length ≤ k + 1 ∧ Hid (Inv1 w3 n c L wr k C)) (fun _ i _ => n - (intOf i).toNat)
  case atStart => exact ⟨0, [c], Nat.zero_le _, rfl, rfl, Nat.le_refl _, HI⟩
  case round =>
    clear hmk HI e0 f0
    obtain ⟨k, C, hk, rfl, rfl, hC, hI⟩ := hrel
    by_cases hlt : k < n
    · have HWr : Hid (Below w.heap.size w wr) := chain HW3.out hI.out.1
      obtain ⟨b, off, ha, hl⟩ := HA.out wr HWr.out (by rintro rfl; simp at hL; omega)
      subst ha
      obtain ⟨g0, _, _, _⟩ := hl k (by omega)
      clear hl
      go_wp2
      go_loop [12, 13] (fun s j => ∃ jj : Nat, jj ≤ C.length ∧ s = .bool false ∧ j = .int .i64 jj ∧ Hid (No C L[k].code jj)) (fun _ j => C.length - (intOf j).toNat)
      case atStart => exact ⟨0, Nat.zero_le _, rfl, rfl, fun t ht h => absurd h (Nat.not_lt_zero _)⟩
      case round =>
        obtain ⟨jj, hjj, rfl, rfl, hno⟩ := hrel
        by_cases hj : jj < C.length
        · have r0 := hI.out.2.1.read jj hj
          have i1 : (jj : Int) < (n : Int) + 1 := by omega
          cases he : (C[jj] == L[k].code)
          · go_wp2
            go_round
            case rel => exact ⟨jj + 1, by omega, rfl, by go_num, hno.out.step hj he⟩
            case measure => simp [intOf]; omega
          · go_wp2
            go_roundw
            case rel => exact ⟨k + 1, C, by omega, by go_num, rfl, by omega, inv1_seen hI.out (by omega) hj he⟩
            case measure => simp [intOf]; omega
        · obtain ⟨⟨v1, e1⟩, f1⟩ := hI.out.2.1.write C.length (by omega)
          have i1 : (C.length : Int) < (n : Int) + 1 := by omega
          go_wp2
          go_roundw
          case rel =>
            refine ⟨k + 1, C ++ [L[k].code], by omega, by go_num, by simp, by simp; omega, inv1_new hI.out (by omega) (by omega) (fun t ht => hno.out t ht (by omega))⟩
          case measure => simp [intOf]; omega
    · have hCe : C = codesOf c L := by rw [hI.out.2.2, List.take_of_length_le (by omega)]
      have HC : Hid (C = codesOf c L) := hCe
      clear hCe
      obtain ⟨wo, hwo⟩ : ∃ wo : World, wo = wr := ⟨_, rfl⟩
      subst hwo
      have HWo : Hid (Below w.heap.size w wo) := chain HW3.out hI.out.1
      have HCd : Hid (∀ w0, Below wo.heap.size wo w0 → Cd w0 w3.heap.size (n + 1) C) := fun w0 hb => hI.out.2.1.later hb
      have HMo : Hid (∀ w0, Below wo.heap.size wo w0 → Has w0 m L) := fun w0 hb => HM.out w0 (chain hI.out.1 hb)
      clear hI HM HW3
      go_wp2
      go_loopw [14, 15] (fun tot t wx => ∃ tt : Nat, tt ≤ C.length ∧ t = .int .i64 tt ∧ tot = .int .i64 (sumHits (C.take tt) L) ∧ Hid (Below wo.heap.size wo wx)) (fun _ t _ => C.length - (intOf t).toNat)
      case atStart => exact ⟨0, Nat.zero_le _, rfl, by simp [sumHits], Below.refl _ _⟩
      case round =>
        obtain ⟨tt, htt, rfl, rfl, hB⟩ := hrel
        have hs := sumHits_le C L 4096 (by omega) tt
        by_cases ht : tt < C.length
        · have r0 := (HCd.out _ hB.out).read tt ht
          have i1 : (tt : Int) < (n : Int) + 1 := by omega
          go_wp2_with fail
          refine (find_any m L C[tt] _ (by omega) (HMo.out _ hB.out)).mono ?_
          rintro e w6 ⟨v6, rfl, ⟨ra, rc, rfl, hres⟩, hb6⟩
          have HB6 : Hid (Below wo.heap.size wo w6) := chain hB.out hb6
          have HR : Hid (L.filter (hit C[tt]) = [] ∨ ∃ g, ra = some ⟨g, 0, none⟩ ∧ Own w6 g (L.filter (hit C[tt]))) := hres
          have HF0 : Hid ((L.filter (hit C[tt])).Sublist L) := List.filter_sublist
          have HFh : Hid (∀ i (h : i < (L.filter (hit C[tt])).length), hit C[tt] (L.filter (hit C[tt]))[i] = true) := fun i h => filter_hit h
          have hFl : (L.filter (hit C[tt])).length ≤ n := by have := List.length_filter_le (hit C[tt]) L; omega
          have HFl : Hid (sumHits (C.take (tt + 1)) L = sumHits (C.take tt) L + (L.filter (hit C[tt])).length) := sumHits_snoc C L tt ht
          clear hb6 hres hB r0
          obtain ⟨F, hF⟩ : ∃ F, F = L.filter (hit C[tt]) := ⟨_, rfl⟩
          rw [← hF] at HR HF0 HFh hFl HFl
          rw [← hF]
          clear hF
          go_wp2
          go_loopw [18, 19] (fun j i wx => ∃ ii jj : Nat, ii ≤ F.length ∧ jj ≤ n ∧ i = .int .i64 ii ∧ j = .int .i64 jj ∧ Hid ((F.drop ii).Sublist (L.drop jj)) ∧ Hid (Below w6.heap.size w6 wx)) (fun _ i _ => F.length - (intOf i).toNat)
          case atStart => exact ⟨0, 0, Nat.zero_le _, Nat.zero_le _, rfl, rfl, HF0, Below.refl _ _⟩
          case round =>
            obtain ⟨ii, jj, hii, hjj, rfl, rfl, hsub, hB⟩ := hrel
            by_cases hi : ii < F.length
            · obtain ⟨gr, hra, hown⟩ := HR.out.resolve_left (by rintro e; rw [e] at hi; simp at hi)
              subst hra
              obtain ⟨g0, g1, g2, g3⟩ := hown.later hB.out ii hi
              have hh := HFh.out ii hi
              unfold hit at hh
              rw [Bool.and_eq_true] at hh
              have k1 : (F[ii].code != C[tt]) = false := by simp only [bne, hh.1]; rfl
              have k2 : (bits BinOp.and IntKind.u8 F[ii].flags 128 != 0) = false := by simp only [bne, hh.2]; rfl
              clear hh
              have HE : Hid (F.drop ii = F[ii] :: F.drop (ii + 1)) := List.drop_eq_getElem_cons hi
              have HOw : Hid (Own w6 gr F) := hown
              have HBd : Hid (∀ w0, Below w6.heap.size w6 w0 → Bytes w0 F[ii].at' F[ii].len) := fun w0 hb => (hD _ (HF0.out.subset (List.getElem_mem hi))).later (chain HWo.out (chain HB6.out hb))
              clear hown
              go_wp2
              clear g0 g1 g2 g3 k1 k2
              go_loopw [18] (fun j wy => ∃ jj : Nat, jj ≤ n ∧ j = .int .i64 jj ∧ Hid ((F.drop ii).Sublist (L.drop jj)) ∧ Hid (Below w6.heap.size w6 wy)) (fun j _ => n - (intOf j).toNat)
              case atStart => exact ⟨jj, hjj, rfl, hsub, hB⟩
              case round =>
                clear hsub hB hjj
                obtain ⟨j2, hj2, rfl, hsub2, hB2⟩ := hrel
                have hs2 := hsub2.out
                rw [HE.out] at hs2
                have hjl := sub_lt hs2
                rw [hL] at hjl
                have HW2 : Hid (Below w.heap.size w wr) := chain HWo.out (chain HB6.out hB2.out)
                obtain ⟨b, off, ha, hl⟩ := HA.out wr HW2.out (by rintro rfl; simp at hL; omega)
                subst ha
                obtain ⟨p0, p1, p2, p3⟩ := hl j2 (by omega)
                obtain ⟨g0, g1, g2, g3⟩ := HOw.out.later hB2.out ii hi
                have hdr : L.drop j2 = L[j2] :: L.drop (j2 + 1) := List.drop_eq_getElem_cons (by omega)
                rw [hdr] at hs2
                have HS2 : Hid ((F[ii] :: F.drop (ii + 1)).Sublist (L[j2] :: L.drop (j2 + 1))) := hs2
                have HB1 : Hid (∀ w0, Below wr.heap.size wr w0 → Bytes w0 L[j2].at' L[j2].len) := fun w0 hb => (hD _ (List.getElem_mem _)).later (chain HW2.out hb)
                have HB3 : Hid (∀ w0, Below wr.heap.size wr w0 → Bytes w0 F[ii].at' F[ii].len) := fun w0 hb => HBd.out w0 (chain hB2.out hb)
                have i2 : (j2 : Int) < (n : Int) := by omega
                have i3 : (ii : Int) < (F.length : Int) := by omega
                have i4 : (0 : Int) ≤ (j2 : Int) := by omega
                have i5 : (0 : Int) ≤ (ii : Int) := by omega
                clear hs2 hdr hl hsub2
                go_wp2
                go_region_held3 (fun w' => w'.cell? ⟨b, off + j2 * 4, none⟩ = some (.int .u32 L[j2].code) ∧ w'.cell? ⟨b, off + j2 * 4 + 1, none⟩ = some (.int .u8 L[j2].flags) ∧ w'.cell? ⟨b, off + j2 * 4 + 2, none⟩ = some (.int .u32 L[j2].vendor) ∧ w'.cell? ⟨b, off + j2 * 4 + 3, none⟩ = some (.slice L[j2].at' L[j2].len L[j2].cap) ∧ w'.cell? ⟨gr, ii * 4, none⟩ = some (.int .u32 F[ii].code) ∧ w'.cell? ⟨gr, ii * 4 + 1, none⟩ = some (.int .u8 F[ii].flags) ∧ w'.cell? ⟨gr, ii * 4 + 2, none⟩ = some (.int .u32 F[ii].vendor) ∧ w'.cell? ⟨gr, ii * 4 + 3, none⟩ = some (.slice F[ii].at' F[ii].len F[ii].cap)) (go_keep) (first
                  | (go_at_call 10; refine (eqZ_any L[j2] F[ii] _ (HB1.out _ (Below.refl _ _).drew) (HB3.out _ (Below.refl _ _).drew)).mono ?_; rintro e w7 ⟨q, rfl, hq, hb7⟩; have s0 := cell_later hb7 p0; have s1 := cell_later hb7 p1; have s2 := cell_later hb7 p2; have s3 := cell_later hb7 p3; have s4 := cell_later hb7 g0; have s5 := cell_later hb7 g1; have s6 := cell_later hb7 g2; have s7 := cell_later hb7 g3))
                have HQ : Hid (L[j2] = F[ii] → q = true) := hq
                have HB7 : Hid (Below w6.heap.size w6 w7) := chain hB2.out (chain ((Below.refl _ _).drew) hb7)
                have hne : ((j2 : Int) == (n : Int)) = false := beq_false_of_ne (by omega)
                clear hq hb7 s0 s1 s2 s3 s4 s5 s6 s7 p0 p1 p2 p3 g0 g1 g2 g3
                cases q
                · go_wp2
                  go_roundw
                  case rel =>
                    refine ⟨j2 + 1, by omega, by go_num, ?_, HB7⟩
                    unfold Hid
                    rw [HE.out]
                    exact greedy_skip HS2.out (fun e => by cases HQ.out e)
                  case measure => simp [intOf]; omega
                · go_wp2
                  go_roundw
                  case rel => exact ⟨ii + 1, j2 + 1, by omega, by omega, by go_num, by go_num, greedy_take HS2.out, HB7⟩
                  case measure => simp [intOf]; omega
            · go_wp2
              go_roundw
              case rel => exact ⟨tt + 1, by omega, by go_num, by rw [HFl.out]; go_num, chain HB6.out hB.out⟩
              case measure => simp [intOf]; omega
        · have HWe : Hid (Below w.heap.size w wr) := chain HWo.out hB.out
          have HT : Hid (sumHits (C.take tt) L = (L.filter base).length) := by
            unfold Hid
            rw [List.take_of_length_le (by omega), HC.out]
            exact law_count c L
          go_wp2
          go_loop [20, 21] (fun bs i => ∃ k2 : Nat, k2 ≤ n ∧ i = .int .i64 k2 ∧ bs = .int .i64 ((L.take k2).filter base).length ∧ ((L.take k2).filter base).length ≤ k2) (fun _ i => n - (intOf i).toNat)
          case atStart => exact ⟨0, Nat.zero_le _, rfl, rfl, Nat.le_refl _⟩
          case round =>
            obtain ⟨k2, hk2, rfl, rfl, hle⟩ := hrel
            by_cases hl2 : k2 < n
            · obtain ⟨b, off, ha, hl⟩ := HA.out wr HWe.out (by rintro rfl; simp at hL; omega)
              subst ha
              obtain ⟨_, p1, _, _⟩ := hl k2 (by omega)
              clear hl
              have HTk : Hid ((L.take (k2 + 1)).filter base = (L.take k2).filter base ++ (if base L[k2] then [L[k2]] else [])) := by
                unfold Hid
                rw [List.take_succ_eq_append_getElem (by omega), List.filter_append]
                congr 1
                cases hh : base L[k2] <;> simp [hh]
              cases hbb : (bits BinOp.and IntKind.u8 L[k2].flags 128 == 0)
              · go_wp2
                go_round
                case rel =>
                  have e := HTk.out
                  unfold base at e
                  rw [hbb] at e
                  simp only [Bool.false_eq_true, if_false, List.append_nil] at e
                  have e2 : ((L.take (k2 + 1)).filter base).length = ((L.take k2).filter base).length := by unfold base; rw [e]
                  exact ⟨k2 + 1, by omega, by go_num, by rw [e2], by rw [e2]; omega⟩
                case measure => simp [intOf]; omega
              · go_wp2
                go_round
                case rel =>
                  have e := HTk.out
                  unfold base at e
                  rw [hbb] at e
                  simp only [if_true] at e
                  have e2 : ((L.take (k2 + 1)).filter base).length = ((L.take k2).filter base).length + 1 := by unfold base; rw [e]; simp
                  exact ⟨k2 + 1, by omega, by go_num, by rw [e2]; go_num, by rw [e2]; omega⟩
                case measure => simp [intOf]; omega
            · have hfin : (((sumHits (C.take tt) L : Nat) : Int) == (((L.take k2).filter base).length : Int)) = true := by
                rw [HT.out, List.take_of_length_le (by omega)]
                simp
              go_wp2
              go_ret
              exact ⟨rfl, HWe.out⟩
end Go.Proofs.Qxb6626480a.parts
