/-
  'Rows.FnNewQuorumAcceptsExactlyWhatTheDefaultsBoundToldSaid', PROVED.
-/
import Derived.Test.Qxb6626337aFmtBndB
import Derived.Test.Qxb6626337aFmtBndC
import Derived.Test.Qxb6626337aFmtBndD
import Derived.ProofKit
import Derived.OpenShut
import Derived.ChangeOld
import Derived.Stop.JoinedTold
import Derived.SevenToldRow
namespace Go.Proofs.Qxb6626337aFmt.bounds
open Go.RowKit Go.Extern.Stop Go.Stop Go.Extern

theorem wq_idem (n : Int) : wq n 0 = wq n (wq n 0) := by
  by_cases h : wq n 0 = 0
  · rw [h, h]
  · exact wq_self h

theorem walk (F : Interp) (n a b : Int) (w : World) (hF : F.answers w.tape) (hn0 : -9223372036854775808 ≤ n) : Law n a b w := by
  by_cases hbig : 1073741823 < n
  · exact walk_big n a b w hbig
  have hn : n ≤ 1073741823 := by omega
  have bad : ∀ a b W R : Int, W = wq n a → R = rq n W b → ¬ Good n W R → BadC w n a b W R := fun a b W R hW hR hg w0 ht => nq_bad F n a b W R w0 (by rw [ht]; exact hF) hn hn0 hW hR hg
  have ok : ∀ a b W R : Int, W = wq n a → R = rq n W b → Good n W R → OkC n a b W R := fun a b W R hW hR hg => okc n a b W R hn hW hR hg
  have low : n < 1 → ∀ W R, ¬ Good n W R := fun h W R => by unfold Good; omega
  have z : ∀ x : Int, x ≠ 0 → (x == 0) = false := fun x h => beq_false_of_ne h
  have z' : ∀ x : Int, x ≠ 0 → (x != 0) = true := fun x h => by simp [h]
  by_cases ha : a = 0
  · subst ha
    by_cases hb : b = 0
    · subst hb
      by_cases h1 : n < 1
      · exact c1 n (wq n 0) (rq n (wq n 0) 0) w h1 (decide_eq_false (by omega)) (bad _ _ _ _ rfl rfl (low h1 _ _)) (bad _ _ _ _ rfl rfl (low h1 _ _)) (bad _ _ _ _ (wq_idem n) rfl (low h1 _ _))
      · have ew : n / 2 + 1 = wq n 0 := wq_zero (by omega)
        have er : n - (n / 2 + 1) + 1 = rq n (n / 2 + 1) 0 := rq_zero (by omega) (by omega) hn
        have g : Good n (n / 2 + 1) (n - (n / 2 + 1) + 1) := by unfold Good; omega
        exact c2 n _ _ w hn (by omega) (ok _ _ _ _ ew er g) (ok _ _ _ _ ew er g) (ok _ _ _ _ (wq_self (by omega)) er g)
    · by_cases hW : wq n 0 = 0
      · have h1 : n < 1 := by
          by_cases h : n < 1
          · exact h
          · have ew : n / 2 + 1 = wq n 0 := wq_zero (by omega)
            omega
        exact c3 n b _ w h1 (decide_eq_false (by omega)) (z b hb) (z' b hb) (bad _ _ _ _ hW.symm (rq_self hb) (low h1 _ _)) (bad _ _ _ _ hW.symm rfl (low h1 _ _))
      · by_cases h1 : n < 1
        · exact c4 n b _ _ w h1 (decide_eq_false (by omega)) (z b hb) (z' b hb) (z' _ hW) (bad _ _ _ _ rfl (rq_self hb) (low h1 _ _)) (bad _ _ _ _ rfl rfl (low h1 _ _)) (bad _ _ _ _ (wq_idem n) (rq_self hb) (low h1 _ _))
            (ex_any n _ b hn false (by simp [low h1]))
        · have ew : n / 2 + 1 = wq n 0 := wq_zero (by omega)
          have er : n - (n / 2 + 1) + 1 = rq n (n / 2 + 1) 0 := rq_zero (by omega) (by omega) hn
          have g : Good n (n / 2 + 1) (n - (n / 2 + 1) + 1) := by unfold Good; omega
          by_cases hg : Good n (n / 2 + 1) b
          · exact c6 n b _ _ w hn (by omega) (z b hb) (z' b hb) (z' _ (by omega)) (ok _ _ _ _ ew (rq_self hb) hg) (ok _ _ _ _ ew er g) (ok _ _ _ _ (wq_self (by omega)) (rq_self hb) hg)
              (ex_any n _ b hn true (by simp [hg]))
          · exact c5 n b _ _ w hn (by omega) (z b hb) (z' b hb) (z' _ (by omega)) (bad _ _ _ _ ew (rq_self hb) hg) (ok _ _ _ _ ew er g) (bad _ _ _ _ (wq_self (by omega)) (rq_self hb) hg)
              (ex_any n _ b hn false (by simp [hg]))
  · by_cases hb : b = 0
    · subst hb
      by_cases h1 : n < 1
      · exact d1 n a _ _ _ w h1 (decide_eq_false (by omega)) (z a ha) (z' a ha) (bad _ _ _ _ (wq_self ha) rfl (low h1 _ _)) (bad _ _ _ _ rfl rfl (low h1 _ _))
      · have ew : n / 2 + 1 = wq n 0 := wq_zero (by omega)
        have er : n - (n / 2 + 1) + 1 = rq n (n / 2 + 1) 0 := rq_zero (by omega) (by omega) hn
        have g : Good n (n / 2 + 1) (n - (n / 2 + 1) + 1) := by unfold Good; omega
        by_cases h2 : a < n / 2 + 1
        · exact d2 n a _ _ _ w hn (by omega) (z a ha) (z' a ha) h2 (decide_eq_false (by omega)) (bad _ _ _ _ (wq_self ha) rfl (by unfold Good; omega)) (ok _ _ _ _ ew er g)
        · by_cases h3 : n < a
          · exact d3 n a _ _ _ w hn (by omega) (z a ha) (z' a ha) (by omega) h3 (decide_eq_false (by omega)) (bad _ _ _ _ (wq_self ha) rfl (by unfold Good; omega)) (ok _ _ _ _ ew er g)
          · have er2 : n - a + 1 = rq n a 0 := rq_zero (by omega) (by omega) hn
            have g2 : Good n a (n - a + 1) := by unfold Good; omega
            by_cases h6 : 1 < n - a + 1
            · exact d4 n a _ _ _ w hn (by omega) (z a ha) (z' a ha) (by omega) (by omega) (by omega) (by omega) h6 (ok _ _ _ _ (wq_self ha) er2 g2) (ok _ _ _ _ ew er g) (ok _ _ _ _ (wq_self ha) (rq_self (by omega)) g2)
                (bad _ _ _ _ (wq_self ha) (rq_self (by omega)) (by unfold Good; omega))
            · exact d5 n a _ _ _ w hn (by omega) (z a ha) (z' a ha) (by omega) (by omega) (by omega) (by omega) h6 (ok _ _ _ _ (wq_self ha) er2 g2) (ok _ _ _ _ ew er g) (ok _ _ _ _ (wq_self ha) (rq_self (by omega)) g2)
    · by_cases hg : Good n a b
      · have h1 : 1 ≤ n := by unfold Good at hg; omega
        exact b1 n a b w hn h1 (z a ha) (z b hb) (z' a ha) (z' b hb) (ok _ _ _ _ (wq_self ha) (rq_self hb) hg) (ex_any n a b hn true (by simp [hg]))
      · by_cases h1 : n < 1
        · exact b2 n a b w h1 (z a ha) (z b hb) (z' a ha) (z' b hb) (bad _ _ _ _ (wq_self ha) (rq_self hb) hg) (ex_any n a b hn false (by simp [hg]))
        · exact b3 n a b w hn (by omega) (z a ha) (z b hb) (z' a ha) (z' b hb) (bad _ _ _ _ (wq_self ha) (rq_self hb) hg) (ex_any n a b hn false (by simp [hg]))

/-! ### THE ROW's STEP, fmt's text told (after the guide's IpowTold.lean, HexbadSeven.lean) -/
open Go.ChangeShapes Go.WideShapes Go.ChangeAt
theorem own : ownKnob Tryf.prog.godebug = none := by kernel_rfl

set_option maxRecDepth 100000 in
theorem lifted (os : Os) (started : os.Started) (H : Type) (enc : TypeId × Value → H) :
    ReturnsInTold none {} Tryf.checked os 4 .any Input.okWide ((OpenSpec.ofChange Rows.fnNewQuorumAcceptsExactlyWhatTheDefaultsBoundSpec).preRow enc Tryf.prog Tryf.f4 [] false Rows.fnNewQuorumAcceptsExactlyWhatTheDefaultsBoundRow.laid) (fun F => ((OpenSpec.ofChange Rows.fnNewQuorumAcceptsExactlyWhatTheDefaultsBoundSpec).at F.told).post enc Tryf.prog Tryf.f4 false true false false) (aloneAtReturn Tryf.prog) nothingAlways := by
  refine returnsInTold_of_row (C := Tryf.checked) (s := OpenSpec.ofChange Rows.fnNewQuorumAcceptsExactlyWhatTheDefaultsBoundSpec) (by kernel_rfl) own started (by kernel_rfl) Tryf.func4
    (OpenSpec.witness_stopped (enc := enc) (C := Tryf.checked) false ⟨#[], #[.int .i64 0, .int .i64 0, .int .i64 0], []⟩ 8 (by kernel_rfl) (by kernel_rfl) (by kernel_rfl) (by kernel_rfl)) ?_
  intro F W base0 args ds gs before _ hF hval0 hW _ _ _ hL _
  have hval : ∀ (j : Nat) t v, Tryf.f4.params[j]? = some t → args[j]? = some v → Value.okWide Tryf.prog W .any base0 t v := hval0
  have hW' := hW
  obtain ⟨p, q, hA0, hV, rfl, hfz, hnd⟩ := hW
  have hA : DataW.TrodAll enc Tryf.prog W 0 (fun _ => true) true Tryf.f4.params.toList args.toList ds p := hA0
  rw [Tryf.params4] at hA hval
  obtain ⟨v0, vs0, d0, ds0, p0, q0, hargs, rfl, rfl, h0, r0⟩ := trodAll_cons hA
  obtain ⟨v1, vs1, d1, ds1, p1, q1, rfl, rfl, rfl, h1, r1⟩ := trodAll_cons r0
  obtain ⟨v2, vs2, d2, ds2, p2, q2, rfl, rfl, rfl, h2, r2⟩ := trodAll_cons r1
  obtain ⟨rfl, rfl, rfl⟩ := trodAll_nil r2
  obtain rfl : args = #[v0, v1, v2] := by cases args; simp_all
  obtain ⟨rfl, rfl⟩ := trodVars_none hV
  obtain ⟨n, rfl, rfl, rfl, wn⟩ := open_int Tryf.underlying3 (hval 0 3 v0 rfl rfl) h0
  obtain ⟨a, rfl, rfl, rfl, wa⟩ := open_int Tryf.underlying3 (hval 1 3 v1 rfl rfl) h1
  obtain ⟨b, rfl, rfl, rfl, wb⟩ := open_int Tryf.underlying3 (hval 2 3 v2 rfl rfl) h2
  clear hA0 hval0
  have hb := wn
  simp [Lit.wf, IntKind.min, IntKind.max, IntKind.signed, IntKind.bits] at hb
  refine (walk F.told n a b W hF hb.1).mono fun e W' ⟨he, bel⟩ => ?_
  subst he
  exact ⟨_, rfl, _, _, _, [], _, [], hW', trodAll_mk1 (shut_bool Tryf.underlying4 _), (trodAll_cons_mk (shut_int Tryf.underlying3 wn) (trodAll_cons_mk (shut_int Tryf.underlying3 wa) (trodAll_cons_mk (shut_int Tryf.underlying3 wb) trodAll_mk0))), rfl, bel.frame _, fun h => by cases h⟩

theorem laidOut : laidOutB Tryf.pinned.checked.prog = true := by kernel_rfl
theorem stops : Tryf.pinned.checked.prog.stops = ["fmt.errorf"] := by kernel_rfl
theorem stopKnobs : Tryf.pinned.checked.prog.stopKnobs = [] := by kernel_rfl
theorem quiet (os : Os) : Stop.quiet Tryf.pinned.checked.prog os := by
  intro k hk
  rw [stopKnobs] at hk
  cases hk

/-- THE STATEMENT -/
theorem proved : Rows.FnNewQuorumAcceptsExactlyWhatTheDefaultsBoundToldSaid :=
  Claim7.holds_of_told_any 4 Tryf.f4 "fmt.errorf" [] [] _ _ _ (by kernel_rfl) rfl rfl rfl laidOut (by kernel_rfl) rfl ⟨rfl, rfl, rfl, rfl, rfl, rfl, rfl⟩ rfl rfl (by kernel_rfl) (by kernel_rfl) Tryf.func4 (by kernel_rfl)
    (of_decide_eq_true (by kernel_rfl)) (of_decide_eq_true (by kernel_rfl)) stops.symm rfl stopKnobs.symm (by kernel_rfl)
    (by kernel_rfl) (by kernel_rfl) (by kernel_rfl) (by kernel_rfl) (by kernel_rfl) (by kernel_rfl) (by kernel_rfl) (by kernel_rfl) (by kernel_rfl) rfl (by kernel_rfl) rfl rfl
    rfl rfl
    rfl (by kernel_rfl) (by kernel_rfl) (by kernel_rfl) (by decide) (by kernel_rfl)
    (OpenClaim.moreEntering_of (by kernel_rfl) (by kernel_rfl) (by kernel_rfl) (by kernel_rfl) (by kernel_rfl) (by kernel_rfl) (by kernel_rfl) (by kernel_rfl) (by kernel_rfl) (by kernel_rfl))
    ⟨_, WideRow.started_initial, quiet _⟩
    (fun os started _ H enc _ => lifted os started H enc)
end Go.Proofs.Qxb6626337aFmt.bounds
