/-
  SEAT b6626480a: FnFindAllInsertOne (3): the ways on which nothing is asked; the bound of a slice.
-/
import Derived.Test.Qxb6626480aPlain
import Derived.Test.Qxb6626480aOpen
import Derived.Deep.DeepCutAuto
namespace Go.Proofs.Qxb6626480a.ins
open Go.ChangeShapes Go.WideShapes Go.ChangeAt Go.RowKit
open Go.Proofs.Qxb6626480a

abbrev hdO (h0 h1 h2 h3 h4 : Int) : Obj := .cells #[.int .u8 h0, .int .u32 h1, .int .u32 h2, .int .u32 h3, .int .u32 h4] 25
abbrev xbO (X : Av) : Obj := .cells #[.int .u32 X.code, .int .u8 X.flags, .int .u32 X.vendor, .slice X.at' X.len X.cap] 28
theorem chainO {w X w' : World} (h : Below w.heap.size w X) (hb : Below X.heap.size X w') : Below w.heap.size w w' := h.trans (hb.mono h.size)

/-- The box of x, behind whatever has come since. -/
theorem box_kept {w wr : World} {h0 h1 h2 h3 h4 : Int} {X : Av} (h : Below ((w.alloc (hdO h0 h1 h2 h3 h4)).alloc (xbO X)).heap.size ((w.alloc (hdO h0 h1 h2 h3 h4)).alloc (xbO X)) wr) : wr.cell? ⟨w.heap.size + 1, 3, none⟩ = some (.slice X.at' X.len X.cap) := by
  rw [Below.cell h (p := ⟨w.heap.size + 1, 3, none⟩) (by simp)]
  simp

set_option maxRecDepth 20000 in
set_option maxHeartbeats 1000000 in
/-- A long list, or a place outside it: nothing is asked. -/
theorem law_out (a : Option Addr) (cap n : Nat) (h0 h1 h2 h3 h4 c P : Int) (X : Av) (L : List Av) (w : World) (hL : L.length = n) (hm : n ≤ maxLen) (hout : 65536 < n ∨ P < 0 ∨ (n : Int) < P) (hS : Sl w (.slice a n cap) L) :
    Calls Try.prog 3 #[.slice a n cap, hv h0 h1 h2 h3 h4, .int .u32 c, .int .i64 P, X.val] w fun e w' => e = .returned (.bool true) ∧ Below w.heap.size w w' := by
  have HS : Hid (∀ w0, Below w.heap.size w w0 → Sl w0 (.slice a n cap) L) := fun w0 hb => hS.later hb
  have HX : Hid (Below w.heap.size w ((w.alloc (hdO h0 h1 h2 h3 h4)).alloc (xbO X))) := ((Below.refl _ _).alloc (Nat.le_refl _) _).alloc (by simp) _
  have HM : Hid (L.length ≤ maxLen) := by unfold Hid; omega
  have HO : Hid (65536 < n ∨ P < 0 ∨ (n : Int) < P) := hout
  unfold maxLen at hm
  clear hS hout
  go_enter Try.func3, Try.ntmps3
  go_wp2_with fail
  refine (zzA_any _ L h0 h1 h2 h3 h4 c P X _ HM.out (HS.out _ HX.out)).mono ?_
  rintro e w1 ⟨⟨q, rfl⟩, hb1⟩
  have HW1 : Hid (Below w.heap.size w w1) := chainO HX.out hb1
  have x3 := box_kept hb1
  clear hb1
  cases q
  · go_wp2
    go_ret
    exact ⟨rfl, HW1.out⟩
  go_wp2_with fail
  refine (sizeOK_any _ L X.len _ HM.out (HS.out _ HW1.out)).mono ?_
  rintro e w2 ⟨⟨q, rfl⟩, hb2⟩
  have HW2 : Hid (Below w.heap.size w w2) := chainO HW1.out hb2
  clear hb2 HW1 x3
  cases q
  · go_wp2
    go_ret
    exact ⟨rfl, HW2.out⟩
  by_cases k1 : 65536 < n
  · go_wp2
    go_ret
    exact ⟨rfl, HW2.out⟩
  by_cases k2 : P < 0
  · go_wp2
    go_ret
    exact ⟨rfl, HW2.out⟩
  have k3 : (n : Int) < P := (HO.out.resolve_left k1).resolve_left k2
  go_wp2
  go_ret
  exact ⟨rfl, HW2.out⟩

/-- A slice argument's length stays within its capacity. -/
theorem cap_of {H : Type} {enc : TypeId × Value → H} {w : World} {held : Bool} {a : Option Addr} {n cap : Nat} {d : DataW H} {p : List MemPlace} (h : DataW.Trod enc Try.prog w 0 (fun _ => true) held 22 (.slice a n cap) d p) : n ≤ cap := by
  obtain ⟨fuel, hf⟩ := h
  rcases Deep.open_slice Try.underlying22 hf with ⟨hcs, _⟩ | ⟨a', len, cap', m, n', D, Pl, hcs, _, hl, hm, hmm, _, hx⟩
  · simp [Value.cells] at hcs
    obtain ⟨rfl, rfl, rfl⟩ := hcs
    exact Nat.le_refl _
  · simp [Value.cells] at hcs
    obtain ⟨rfl, rfl, rfl⟩ := hcs
    omega
end Go.Proofs.Qxb6626480a.ins
