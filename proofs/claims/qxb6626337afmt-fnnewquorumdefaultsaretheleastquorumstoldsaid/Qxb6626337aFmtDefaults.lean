/-
  'Rows.FnNewQuorumDefaultsAreTheLeastQuorumsToldSaid', PROVED: the walk of the law (3).
-/
import Derived.Test.Qxb6626337aFmtQuorum
import Derived.ProofKit
import Derived.OpenShut
import Derived.ChangeOld
import Derived.Stop.JoinedTold
import Derived.SevenToldRow
namespace Go.Proofs.Qxb6626337aFmt.defaults
open Go.RowKit Go.Extern.Stop Go.Stop Go.Extern

/-- Three cells that the last block holds, behind a call that turns nothing old. -/
theorem three_kept {w1 w2 : World} {x y z : Value} {t : TypeId} (hb : Below (w1.alloc (.cells #[x, y, z] t)).heap.size (w1.alloc (.cells #[x, y, z] t)) w2) :
    w2.cell? ⟨w1.heap.size, 0, none⟩ = some x ∧ w2.cell? ⟨w1.heap.size, 1, none⟩ = some y ∧ w2.cell? ⟨w1.heap.size, 2, none⟩ = some z ∧ w1.heap.size < w2.heap.size := by
  have hs : (w1.alloc (.cells #[x, y, z] t)).heap.size = w1.heap.size + 1 := by simp
  have c : ∀ o, w2.cell? ⟨w1.heap.size, o, none⟩ = (#[x, y, z] : Array Value)[o]? := fun o => by
    rw [hb.cell (p := ⟨w1.heap.size, o, none⟩) (by rw [hs]; exact Nat.lt_succ_self _)]
    simp
  refine ⟨by rw [c]; rfl, by rw [c]; rfl, by rw [c]; rfl, ?_⟩
  have := hb.size
  omega

theorem walk_big (n : Int) (w : World) (hn : 1073741823 < n) :
    Calls Tryf.prog 3 #[.int .i64 n] w fun e w' => e = .returned (.bool true) ∧ Below w.heap.size w w' := by
  go_enter Tryf.func3, Tryf.ntmps3
  go_wp2
  go_ret
  exact ⟨rfl, Below.refl _ _⟩

set_option maxHeartbeats 1000000 in
/-- Fewer than one replica. -/
theorem walk_low (n W R : Int) (w : World) (hn : n < 1)
    (C1 : Hid (∀ w0 : World, w0.tape = w.tape → Calls Tryf.prog 5 #[.int .i64 n, .int .i64 0, .int .i64 0] w0 (QErr n W R w0))) :
    Calls Tryf.prog 3 #[.int .i64 n] w fun e w' => e = .returned (.bool true) ∧ Below w.heap.size w w' := by
  go_enter Tryf.func3, Tryf.ntmps3
  go_wp2_with fail
  refine (C1.out _ rfl).mono ?_
  rintro e w1 ⟨a, rfl, hb1⟩
  have HB : Hid (Below w.heap.size w w1) := hb1
  clear hb1
  go_wp2
  go_ret
  refine ⟨rfl, ?_⟩
  exact HB.out.alloc HB.out.size _

set_option maxHeartbeats 2000000 in
theorem walk_mid (n W R : Int) (w : World) (hn : 1 ≤ n) (hn2 : n ≤ 1073741823) (w1a : 1 ≤ W) (w1b : W ≤ n) (r1a : 1 ≤ R) (r1b : R ≤ n) (l1 : n < 2 * W) (l2 : 2 * (W - 1) ≤ n) (l3 : n < W + R) (l4 : W + R - 1 ≤ n)
    (C1 : Hid (∀ w0 : World, Calls Tryf.prog 5 #[.int .i64 n, .int .i64 0, .int .i64 0] w0 fun e w' => e = .returned (.tuple #[.agg #[.int .i64 n, .int .i64 W, .int .i64 R], .nilIface]) ∧ Below w0.heap.size w0 w'))
    (C2 : Hid (∀ w0 : World, Calls Tryf.prog 5 #[.int .i64 n, .int .i64 W, .int .i64 R] w0 fun e w' => e = .returned (.tuple #[.agg #[.int .i64 n, .int .i64 W, .int .i64 R], .nilIface]) ∧ Below w0.heap.size w0 w'))
    (C3 : Hid (1 < W → ∀ w0 : World, w0.tape = w.tape → Calls Tryf.prog 5 #[.int .i64 n, .int .i64 (W - 1), .int .i64 n] w0 (QErr n (W - 1) n w0)))
    (C4 : Hid (1 < R → ∀ w0 : World, w0.tape = w.tape → Calls Tryf.prog 5 #[.int .i64 n, .int .i64 W, .int .i64 (R - 1)] w0 (QErr n W (R - 1) w0))) :
    Calls Tryf.prog 3 #[.int .i64 n] w fun e w' => e = .returned (.bool true) ∧ Below w.heap.size w w' := by
  go_enter Tryf.func3, Tryf.ntmps3
  go_wp2_with fail
  refine (C1.out _).mono ?_
  rintro e w1 ⟨rfl, hb1⟩
  have HB1 : Hid (Below w.heap.size w w1) := hb1
  clear hb1
  go_wp2_with fail
  refine (C2.out _).mono ?_
  rintro e w2 ⟨rfl, hb2⟩
  obtain ⟨d0, d1, d2, hz⟩ := three_kept hb2
  have HB2 : Hid (Below w.heap.size w w2) := (HB1.out.alloc HB1.out.size _).trans (hb2.mono (by have := HB1.out.size; simp; omega))
  clear hb2 HB1
  by_cases hW1 : 1 < W
  · go_wp2_with fail
    refine (C3.out hW1 _ (by show w2.tape = w.tape; exact HB2.out.tape)).mono ?_
    rintro e w3 ⟨a, rfl, hb3⟩
    have HB3 : Hid (Below w.heap.size w w3) := (HB2.out.alloc HB2.out.size _).trans (hb3.mono (by have := HB2.out.size; simp; omega))
    clear hb3
    by_cases hR1 : 1 < R
    · go_wp2_with fail
      refine (C4.out hR1 _ (by show w3.tape = w.tape; exact HB3.out.tape)).mono ?_
      rintro e w4 ⟨a, rfl, hb4⟩
      have HB4 : Hid (Below w.heap.size w w4) := (HB3.out.alloc HB3.out.size _).trans (hb4.mono (by have := HB3.out.size; simp; omega))
      clear hb4
      go_wp2
      go_ret
      exact ⟨rfl, HB4.out.alloc HB4.out.size _⟩
    · go_wp2
      go_ret
      exact ⟨rfl, HB3.out.alloc HB3.out.size _⟩
  · by_cases hR1 : 1 < R
    · exact absurd hR1 (by omega)
    · go_wp2
      go_ret
      exact ⟨rfl, HB2.out.alloc HB2.out.size _⟩

theorem walk (F : Interp) (n : Int) (w : World) (hF : F.answers w.tape) (hn0 : -9223372036854775808 ≤ n) :
    Calls Tryf.prog 3 #[.int .i64 n] w fun e w' => e = .returned (.bool true) ∧ Below w.heap.size w w' := by
  by_cases hb : 1073741823 < n
  · exact walk_big n w hb
  · have hn2 : n ≤ 1073741823 := by omega
    by_cases hl : n < 1
    · refine walk_low n (wq n 0) (rq n (wq n 0) 0) w hl (fun w0 ht => nq_bad F n 0 0 _ _ w0 (by rw [ht]; exact hF) hn2 hn0 rfl rfl ?_)
      unfold Good
      omega
    · have h1 : 1 ≤ n := by omega
      have ew : n / 2 + 1 = wq n 0 := wq_zero (by omega)
      have er : n - (n / 2 + 1) + 1 = rq n (n / 2 + 1) 0 := rq_zero (by omega) (by omega) hn2
      refine walk_mid n (n / 2 + 1) (n - (n / 2 + 1) + 1) w h1 hn2 (by omega) (by omega) (by omega) (by omega) (by omega) (by omega) (by omega) (by omega)
        (fun w0 => nq_good n 0 0 _ _ w0 hn2 ew er ?_) (fun w0 => nq_good n _ _ _ _ w0 hn2 (wq_self (by omega)) (rq_self (by omega)) ?_)
        (fun h w0 ht => nq_bad F n _ _ _ _ w0 (by rw [ht]; exact hF) hn2 hn0 (wq_self (by omega)) (rq_self (by omega)) ?_)
        (fun h w0 ht => nq_bad F n _ _ _ _ w0 (by rw [ht]; exact hF) hn2 hn0 (wq_self (by omega)) (rq_self (by omega)) ?_)
      all_goals
        unfold Good
        omega

/-! ### THE ROW's STEP, fmt's text told (after the guide's IpowTold.lean, HexbadSeven.lean) -/
open Go.ChangeShapes Go.WideShapes Go.ChangeAt
theorem own : ownKnob Tryf.prog.godebug = none := by kernel_rfl

set_option maxRecDepth 100000 in
theorem lifted (os : Os) (started : os.Started) (H : Type) (enc : TypeId × Value → H) :
    ReturnsInTold none {} Tryf.checked os 3 .any Input.okWide ((OpenSpec.ofChange Rows.fnNewQuorumDefaultsAreTheLeastQuorumsSpec).preRow enc Tryf.prog Tryf.f3 [] false Rows.fnNewQuorumDefaultsAreTheLeastQuorumsRow.laid) (fun F => ((OpenSpec.ofChange Rows.fnNewQuorumDefaultsAreTheLeastQuorumsSpec).at F.told).post enc Tryf.prog Tryf.f3 false true false false) (aloneAtReturn Tryf.prog) nothingAlways := by
  refine returnsInTold_of_row (C := Tryf.checked) (s := OpenSpec.ofChange Rows.fnNewQuorumDefaultsAreTheLeastQuorumsSpec) (by kernel_rfl) own started (by kernel_rfl) Tryf.func3
    (OpenSpec.witness_stopped (enc := enc) (C := Tryf.checked) false ⟨#[], #[.int .i64 0], []⟩ 8 (by kernel_rfl) (by kernel_rfl) (by kernel_rfl) (by kernel_rfl)) ?_
  intro F W base0 args ds gs before _ hF hval0 hW _ _ _ hL _
  have hval : ∀ (j : Nat) t v, Tryf.f3.params[j]? = some t → args[j]? = some v → Value.okWide Tryf.prog W .any base0 t v := hval0
  have hW' := hW
  obtain ⟨p, q, hA0, hV, rfl, hfz, hnd⟩ := hW
  have hA : DataW.TrodAll enc Tryf.prog W 0 (fun _ => true) true Tryf.f3.params.toList args.toList ds p := hA0
  rw [Tryf.params3] at hA hval
  obtain ⟨v0, vs0, d0, ds0, p0, q0, hargs, rfl, rfl, h0, r0⟩ := trodAll_cons hA
  obtain ⟨rfl, rfl, rfl⟩ := trodAll_nil r0
  obtain rfl : args = #[v0] := by cases args; simp_all
  obtain ⟨rfl, rfl⟩ := trodVars_none hV
  obtain ⟨n, rfl, rfl, rfl, wn⟩ := open_int Tryf.underlying3 (hval 0 3 v0 rfl rfl) h0
  clear hA0 hval0
  have hb := wn
  simp [Lit.wf, IntKind.min, IntKind.max, IntKind.signed, IntKind.bits] at hb
  refine (walk F.told n W hF hb.1).mono fun e W' ⟨he, bel⟩ => ?_
  subst he
  exact ⟨_, rfl, _, _, _, [], _, [], hW', trodAll_mk1 (shut_bool Tryf.underlying4 _), (trodAll_cons_mk (shut_int Tryf.underlying3 wn) trodAll_mk0), rfl, bel.frame _, fun h => by cases h⟩

theorem laidOut : laidOutB Tryf.pinned.checked.prog = true := by kernel_rfl
theorem stops : Tryf.pinned.checked.prog.stops = ["fmt.errorf"] := by kernel_rfl
theorem stopKnobs : Tryf.pinned.checked.prog.stopKnobs = [] := by kernel_rfl
theorem quiet (os : Os) : Stop.quiet Tryf.pinned.checked.prog os := by
  intro k hk
  rw [stopKnobs] at hk
  cases hk

/-- THE STATEMENT -/
theorem proved : Rows.FnNewQuorumDefaultsAreTheLeastQuorumsToldSaid :=
  Claim7.holds_of_told_any 3 Tryf.f3 "fmt.errorf" [] [] _ _ _ (by kernel_rfl) rfl rfl rfl laidOut (by kernel_rfl) rfl ⟨rfl, rfl, rfl, rfl, rfl, rfl, rfl⟩ rfl rfl (by kernel_rfl) (by kernel_rfl) Tryf.func3 (by kernel_rfl)
    (of_decide_eq_true (by kernel_rfl)) (of_decide_eq_true (by kernel_rfl)) stops.symm rfl stopKnobs.symm (by kernel_rfl)
    (by kernel_rfl) (by kernel_rfl) (by kernel_rfl) (by kernel_rfl) (by kernel_rfl) (by kernel_rfl) (by kernel_rfl) (by kernel_rfl) (by kernel_rfl) rfl (by kernel_rfl) rfl rfl
    rfl rfl
    rfl (by kernel_rfl) (by kernel_rfl) (by kernel_rfl) (by decide) (by kernel_rfl)
    (OpenClaim.moreEntering_of (by kernel_rfl) (by kernel_rfl) (by kernel_rfl) (by kernel_rfl) (by kernel_rfl) (by kernel_rfl) (by kernel_rfl) (by kernel_rfl) (by kernel_rfl) (by kernel_rfl))
    ⟨_, WideRow.started_initial, quiet _⟩
    (fun os started _ H enc _ => lifted os started H enc)
end Go.Proofs.Qxb6626337aFmt.defaults
