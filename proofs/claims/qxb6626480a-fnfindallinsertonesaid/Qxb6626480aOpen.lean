/-
  SEAT b6626480a: THE ARGUMENTS OPENED: an AVP, a header, a slice of AVPs.
-/
import Derived.Test.Qxb6626480aFind
import Derived.ProofKit
import Derived.OpenShut
import Derived.ChangeOld
import Derived.Deep.Slices
import Derived.Lib.SmallJoins
namespace Go.Proofs.Qxb6626480a
open Go.ChangeShapes Go.WideShapes Go.ChangeAt Go.RowKit

theorem cells23 : Try.prog.cellsOf 23 = 1 := by kernel_rfl
theorem cells5 : Try.prog.cellsOf 5 = 1 := by kernel_rfl
theorem cells26 : Try.prog.cellsOf 26 = 1 := by kernel_rfl
theorem cells28 : Try.prog.cellsOf 28 = 4 := by kernel_rfl
theorem cells25 : Try.prog.cellsOf 25 = 5 := by kernel_rfl

section
variable {H : Type} {enc : TypeId × Value → H} {w : World} {held : Bool}

/-- A slice of bytes. -/
theorem open_bytes {fuel : Nat} {v : Value} {x : DataW H × List MemPlace} (h : DataW.trod enc Try.prog w 0 (fun _ => true) held fuel 26 [v] = some x) : ∃ a n cap, v = .slice a n cap ∧ Bytes w a n := by
  rcases open_ints Try.underlying26 Try.underlying5 cells5 h with ⟨hcs, _⟩ | ⟨a, len, cap, zs, hcs, _, hl, hm, hz, _, hcell, _⟩
  · simp at hcs
    exact ⟨none, 0, 0, hcs, by unfold maxLen; omega, .inl rfl⟩
  · simp at hcs
    simp only [if_true] at hz
    refine ⟨some a, len, cap, hcs, by omega, ?_⟩
    by_cases h0 : len = 0
    · exact .inl h0
    · right
      obtain ⟨b, off, spot⟩ := a
      have hspot : spot = none := by simpa [Addr.add] using World.cell?_spot (hcell 0 (by omega))
      subst hspot
      exact ⟨b, off, fun i => zs.getD i 0, rfl, fun i hi => by rw [← add_plain]; exact hcell i (by omega)⟩

/-- An AVP's four cells. -/
theorem open_cells {fuel : Nat} {cs : List Value} {x : DataW H × List MemPlace} (h : DataW.trod enc Try.prog w 0 (fun _ => true) held fuel 28 cs = some x) : ∃ A : Av, cs = A.cells ∧ Bytes w A.at' A.len := by
  obtain ⟨y0, y1, y2, y3, n, _, hlen, h0, h1, h2, h3⟩ := Joins.trod_struct4 Try.underlying28 h
  rw [cells28] at hlen
  simp only [cells23, cells5, cells26] at h0 h1 h2 h3
  match cs, hlen with
  | [c0, c1, c2, c3], _ =>
    simp at h0 h1 h2 h3
    obtain ⟨z0, e0, _, _⟩ := DataW.trod_int Try.underlying23 h0
    obtain ⟨z1, e1, _, _⟩ := DataW.trod_int Try.underlying5 h1
    obtain ⟨z2, e2, _, _⟩ := DataW.trod_int Try.underlying23 h2
    obtain ⟨a, l, cp, e3, hb⟩ := open_bytes h3
    simp at e0 e1 e2
    subst e0 e1 e2 e3
    exact ⟨⟨z0, z1, z2, a, l, cp⟩, rfl, hb⟩

/-- An AVP by value. -/
theorem open_av {r : Reach} {b0 : Nat} {v : Value} {d : DataW H} {p : List MemPlace} (hv : Value.okWide Try.prog w r b0 28 v) (h : DataW.Trod enc Try.prog w 0 (fun _ => true) held 28 v d p) : ∃ A : Av, v = A.val ∧ Bytes w A.at' A.len := by
  obtain ⟨cs, rfl, hsz⟩ := okWide_struct Try.underlying28 hv
  obtain ⟨fuel, hf⟩ := h
  obtain ⟨A, e, hb⟩ := open_cells hf
  refine ⟨A, ?_, hb⟩
  have : cs = A.cells.toArray := by
    have e' : cs.toList = A.cells := by simpa [Value.cells] using e
    rw [← e']
  rw [this]
  rfl

/-- A header by value. -/
theorem open_hdr {r : Reach} {b0 : Nat} {v : Value} {d : DataW H} {p : List MemPlace} (hv' : Value.okWide Try.prog w r b0 25 v) (h : DataW.Trod enc Try.prog w 0 (fun _ => true) held 25 v d p) : ∃ h0 h1 h2 h3 h4 : Int, v = hv h0 h1 h2 h3 h4 := by
  obtain ⟨cs, rfl, hsz⟩ := okWide_struct Try.underlying25 hv'
  obtain ⟨fuel, hf⟩ := h
  obtain ⟨xs, n, _, _, hl, hlen, hfs⟩ := DataW.trod_struct Try.underlying25 hf
  have hl5 : cs.toList.length = 5 := by rw [Array.length_toList, hsz, cells25]
  have hx5 : xs.length = 5 := hlen
  have f0 : DataW.trod enc Try.prog w 0 (fun _ => true) held n 5 ((cs.toList.drop 0).take (Try.prog.cellsOf 5)) = xs[0]? := hfs 0 _ rfl
  have f1 : DataW.trod enc Try.prog w 0 (fun _ => true) held n 23 ((cs.toList.drop 1).take (Try.prog.cellsOf 23)) = xs[1]? := hfs 1 _ rfl
  have f2 : DataW.trod enc Try.prog w 0 (fun _ => true) held n 23 ((cs.toList.drop 2).take (Try.prog.cellsOf 23)) = xs[2]? := hfs 2 _ rfl
  have f3 : DataW.trod enc Try.prog w 0 (fun _ => true) held n 23 ((cs.toList.drop 3).take (Try.prog.cellsOf 23)) = xs[3]? := hfs 3 _ rfl
  have f4 : DataW.trod enc Try.prog w 0 (fun _ => true) held n 23 ((cs.toList.drop 4).take (Try.prog.cellsOf 23)) = xs[4]? := hfs 4 _ rfl
  rw [cells5] at f0
  rw [cells23] at f1 f2 f3 f4
  obtain ⟨y0, g0⟩ : ∃ y, xs[0]? = some y := ⟨_, List.getElem?_eq_getElem (by omega)⟩
  obtain ⟨y1, g1⟩ : ∃ y, xs[1]? = some y := ⟨_, List.getElem?_eq_getElem (by omega)⟩
  obtain ⟨y2, g2⟩ : ∃ y, xs[2]? = some y := ⟨_, List.getElem?_eq_getElem (by omega)⟩
  obtain ⟨y3, g3⟩ : ∃ y, xs[3]? = some y := ⟨_, List.getElem?_eq_getElem (by omega)⟩
  obtain ⟨y4, g4⟩ : ∃ y, xs[4]? = some y := ⟨_, List.getElem?_eq_getElem (by omega)⟩
  rw [g0] at f0
  rw [g1] at f1
  rw [g2] at f2
  rw [g3] at f3
  rw [g4] at f4
  obtain ⟨l, el⟩ : ∃ l, l = cs.toList := ⟨_, rfl⟩
  rw [← el] at f0 f1 f2 f3 f4 hl5
  match l, hl5 with
  | [c0, c1, c2, c3, c4], _ =>
    simp at f0 f1 f2 f3 f4
    obtain ⟨z0, e0, _, _⟩ := DataW.trod_int Try.underlying5 f0
    obtain ⟨z1, e1, _, _⟩ := DataW.trod_int Try.underlying23 f1
    obtain ⟨z2, e2, _, _⟩ := DataW.trod_int Try.underlying23 f2
    obtain ⟨z3, e3, _, _⟩ := DataW.trod_int Try.underlying23 f3
    obtain ⟨z4, e4, _, _⟩ := DataW.trod_int Try.underlying23 f4
    simp at e0 e1 e2 e3 e4
    subst e0 e1 e2 e3 e4
    refine ⟨z0, z1, z2, z3, z4, ?_⟩
    have : cs = #[.int .u8 z0, .int .u32 z1, .int .u32 z2, .int .u32 z3, .int .u32 z4] := by
      apply Array.toList_inj.1
      exact el.symm
    rw [this]

/-- A slice of AVPs. -/
theorem open_avs {r : Reach} {b0 : Nat} {v : Value} {d : DataW H} {p : List MemPlace} (hv : Value.okWide Try.prog w r b0 22 v) (h : DataW.Trod enc Try.prog w 0 (fun _ => true) held 22 v d p) :
    ∃ (a : Option Addr) (cap : Nat) (L : List Av), v = .slice a L.length cap ∧ L.length ≤ maxLen ∧ Sl w (.slice a L.length cap) L ∧ ∀ A ∈ L, Bytes w A.at' A.len := by
  obtain ⟨a0, len0, cap0, rfl⟩ := okWide_slice Try.underlying22 hv
  obtain ⟨fuel, hf⟩ := h
  rcases Deep.open_slice Try.underlying22 hf with ⟨hcs, _⟩ | ⟨a, len, cap, m, n, D, Pl, hcs, _, hl, hm, hmm, _, hx⟩
  · simp [Value.cells] at hcs
    obtain ⟨rfl, rfl, rfl⟩ := hcs
    exact ⟨none, 0, [], rfl, by unfold maxLen; simp, .inl ⟨rfl, rfl⟩, fun A hA => by simp at hA⟩
  · simp [Value.cells] at hcs
    obtain ⟨rfl, rfl, rfl⟩ := hcs
    simp only [if_true] at hmm
    rw [cells28] at hx
    have hav : ∀ i, ∃ A : Av, i < len0 → w.cells? 0 (a.add (i * 4)) 4 = some A.cells ∧ Bytes w A.at' A.len := fun i => by
      by_cases hi : i < len0
      · obtain ⟨cs', h1, h2⟩ := hx i (by omega)
        obtain ⟨A, e, hb⟩ := open_cells h2
        subst e
        exact ⟨A, fun _ => ⟨h1, hb⟩⟩
      · exact ⟨⟨0, 0, 0, none, 0, 0⟩, fun h => absurd h hi⟩
    obtain ⟨f, hf'⟩ : ∃ f : Nat → Av, ∀ i, i < len0 → w.cells? 0 (a.add (i * 4)) 4 = some (f i).cells ∧ Bytes w (f i).at' (f i).len := ⟨fun i => (hav i).choose, fun i => (hav i).choose_spec⟩
    have hlen : ((List.range len0).map f).length = len0 := by simp
    refine ⟨some a, cap0, (List.range len0).map f, by rw [hlen], by rw [hlen]; omega, ?_, ?_⟩
    · by_cases h0 : len0 = 0
      · subst h0
        exact .inr (.inl ⟨rfl, a, cap0, rfl⟩)
      · refine .inr (.inr ?_)
        obtain ⟨b, off, spot⟩ := a
        have hc0 := (World.cells?_some (hf' 0 (by omega)).1).2.2 0 (by omega)
        have hspot : spot = none := by
          have := World.cell?_spot (hc0.trans (by rfl : _ = some (Value.int .u32 (f 0).code)))
          simpa [Addr.add] using this
        subst hspot
        refine ⟨b, off, cap0, by rw [hlen], ?_⟩
        intro i hi
        rw [hlen] at hi
        have hc := (World.cells?_some (hf' i hi).1).2.2
        have e : ((List.range len0).map f)[i] = f i := by simp
        rw [e]
        have c0 := hc 0 (by omega)
        have c1 := hc 1 (by omega)
        have c2 := hc 2 (by omega)
        have c3 := hc 3 (by omega)
        simp only [add_plain] at c0 c1 c2 c3
        exact ⟨c0, c1, c2, c3⟩
    · intro A hA
      obtain ⟨i, hi, rfl⟩ := List.mem_map.1 hA
      exact (hf' i (by simpa using hi)).2
end
end Go.Proofs.Qxb6626480a
