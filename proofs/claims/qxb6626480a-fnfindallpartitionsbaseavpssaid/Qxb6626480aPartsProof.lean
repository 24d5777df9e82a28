/-
  'Rows.FnFindAllPartitionsBaseAVPsSaid', PROVED.
-/
import Derived.Test.Qxb6626480aParts
import Derived.Test.Qxb6626480aOpen
namespace Go.Proofs.Qxb6626480a.parts
open Go.ChangeShapes Go.WideShapes Go.ChangeAt Go.RowKit
open Go.Proofs.Qxb6626480a

set_option maxRecDepth 20000 in
set_option maxHeartbeats 1000000 in
/-- A long list: nothing is asked. -/
theorem law_big (a : Option Addr) (cap n : Nat) (h0 h1 h2 h3 h4 c : Int) (L : List Av) (w : World) (hL : L.length = n) (hm : n ≤ maxLen) (h4k : 4096 < n) (hS : Sl w (.slice a n cap) L) :
    Calls Try.prog 4 #[.slice a n cap, hv h0 h1 h2 h3 h4, .int .u32 c] w fun e w' => e = .returned (.bool true) ∧ Below w.heap.size w w' := by
  have HS : Hid (∀ w0, Below w.heap.size w w0 → Sl w0 (.slice a n cap) L) := fun w0 hb => hS.later hb
  have HX : Hid (Below w.heap.size w (w.alloc (hd h0 h1 h2 h3 h4))) := (Below.refl _ _).alloc (Nat.le_refl _) _
  have HM : Hid (L.length ≤ maxLen) := by unfold Hid; omega
  unfold maxLen at hm
  clear hS
  go_enter Try.func4, Try.ntmps4
  go_wp2_with fail
  refine (zzB_any _ L h0 h1 h2 h3 h4 c _ HM.out (HS.out _ HX.out)).mono ?_
  rintro e w1 ⟨⟨q, rfl⟩, hb1⟩
  have HW1 : Hid (Below w.heap.size w w1) := chain HX.out hb1
  clear hb1
  cases q
  · go_wp2
    go_ret
    exact ⟨rfl, HW1.out⟩
  go_wp2_with fail
  refine (sizeOK_any _ L 0 _ HM.out (HS.out _ HW1.out)).mono ?_
  rintro e w2 ⟨⟨q, rfl⟩, hb2⟩
  have HW2 : Hid (Below w.heap.size w w2) := chain HW1.out hb2
  clear hb2 HW1
  cases q
  · go_wp2
    go_ret
    exact ⟨rfl, HW2.out⟩
  go_wp2
  go_ret
  exact ⟨rfl, HW2.out⟩

theorem own : ownKnob Try.prog.godebug = none := by kernel_rfl
theorem laidOut : laidOutB Try.prog = true := by kernel_rfl

set_option maxRecDepth 100000 in
theorem lifted (os : Os) (started : os.Started) (H : Type) (enc : TypeId × Value → H) :
    ReturnsInHanded {} Try.checked os 4 .any (Rows.fnFindAllPartitionsBaseAVPsSpec.pre6 enc Try.prog Try.f4 Rows.fnFindAllPartitionsBaseAVPsRow.domain false) (Rows.fnFindAllPartitionsBaseAVPsSpec.post enc Try.prog Try.f4 false true false false) := by
  refine returnsInHanded_of_change (C := Try.checked) own started (by kernel_rfl) Try.func4
    (ChangeSpec.witness6 (enc := enc) (C := Try.checked) false ⟨#[], #[.slice none 0 0, hv 0 0 0 0 0, .int .u32 0], []⟩ 8 (by kernel_rfl) (by kernel_rfl) (by kernel_rfl) (by kernel_rfl)) ?_
  intro W base args ds gs before hval0 hW hcnd _
  have hval : ∀ (j : Nat) t v, Try.f4.params[j]? = some t → args[j]? = some v → Value.okWide Try.prog W .any base t v := hval0
  have hW' := hW
  obtain ⟨p, q, hA0, hV, rfl, hfz, hnd⟩ := hW
  have hA : DataW.TrodAll enc Try.prog W 0 (fun _ => true) true Try.f4.params.toList args.toList ds p := hA0
  rw [Try.params4] at hA hval
  obtain ⟨v0, vs0, d0, ds0, p0, q0, hargs, rfl, rfl, h0, r0⟩ := trodAll_cons hA
  obtain ⟨v1, vs1, d1, ds1, p1, q1, rfl, rfl, rfl, h1, r1⟩ := trodAll_cons r0
  obtain ⟨v2, vs2, d2, ds2, p2, q2, rfl, rfl, rfl, h2, r2⟩ := trodAll_cons r1
  obtain ⟨rfl, rfl, rfl⟩ := trodAll_nil r2
  obtain rfl : args = #[v0, v1, v2] := by cases args; simp_all
  obtain ⟨rfl, rfl⟩ := trodVars_none hV
  have k0 := h0
  have k1 := h1
  have k2 := h2
  have lt0 : ∀ x ∈ p0, x.block < W.heap.size := by obtain ⟨m, hm⟩ := k0; exact DataW.trod_lt m _ _ _ hm
  have lt1 : ∀ x ∈ p1, x.block < W.heap.size := by obtain ⟨m, hm⟩ := k1; exact DataW.trod_lt m _ _ _ hm
  have lt2 : ∀ x ∈ p2, x.block < W.heap.size := by obtain ⟨m, hm⟩ := k2; exact DataW.trod_lt m _ _ _ hm
  obtain ⟨a, cap, L, rfl, hlm, hS, hD⟩ := open_avs (hval 0 22 v0 rfl rfl) h0
  obtain ⟨b0, b1, b2, b3, b4, rfl⟩ := open_hdr (hval 1 25 v1 rfl rfl) h1
  obtain ⟨c, rfl, rfl, rfl, wc⟩ := open_int Try.underlying23 (hval 2 23 v2 rfl rfl) h2
  clear hA0 hval0
  have wk : Calls Try.prog 4 #[.slice a L.length cap, hv b0 b1 b2 b3 b4, .int .u32 c] W fun e w' => e = .returned (.bool true) ∧ Below W.heap.size W w' := by
    by_cases h4k : L.length ≤ 4096
    · exact law a cap L.length b0 b1 b2 b3 b4 c L W rfl h4k hS hD
    · exact law_big a cap L.length b0 b1 b2 b3 b4 c L W rfl hlm (by omega) hS
  refine wk.mono fun e W' ⟨he, bel⟩ => ?_
  subst he
  exact ⟨_, rfl, _, _, _, [], _, [], hW', trodAll_mk1 (shut_bool Try.underlying4 _), (trodAll_cons_mk (Below.trod laidOut (by kernel_rfl) (of_decide_eq_true (by kernel_rfl)) k0 bel lt0) (trodAll_cons_mk (Below.trod laidOut (by kernel_rfl) (of_decide_eq_true (by kernel_rfl)) k1 bel lt1) (trodAll_cons_mk (Below.trod laidOut (by kernel_rfl) (of_decide_eq_true (by kernel_rfl)) k2 bel lt2) trodAll_mk0))), rfl, bel.frame _, fun h => by cases h⟩

theorem over : Rows.fnFindAllPartitionsBaseAVPsRow.holds Try.pinned (OpenSpec.ofChange Rows.fnFindAllPartitionsBaseAVPsSpec) :=
  OpenClaim.holds_of_wide 4 Try.f4 rfl rfl rfl rfl rfl rfl rfl ⟨rfl, rfl, rfl, rfl, rfl⟩ rfl rfl rfl rfl rfl (by kernel_rfl) Try.func4 (by kernel_rfl)
    (of_decide_eq_true (by kernel_rfl)) (by unfold Func.isWrapper; first | (rw [if_pos (by decide +kernel)]; kernel_rfl) | (rw [if_neg (by decide +kernel)]; exact ⟨rfl, rfl⟩))
    (fun os started H enc _ => lifted os started H enc)

/-- THE STATEMENT -/
theorem proved : Rows.FnFindAllPartitionsBaseAVPsSaid :=
  over
end Go.Proofs.Qxb6626480a.parts
