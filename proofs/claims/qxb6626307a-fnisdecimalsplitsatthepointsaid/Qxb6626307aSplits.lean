/-
  'Rows.FnIsDecimalSplitsAtThePointSaid', PROVED. The frame (lifted, over, proved) is the guide's, at this function's number and types, in the make with 'Below'.
-/
import Derived.Test.Qxb6626307aGram
import Derived.ProofKit
import Derived.OpenShut
import Derived.ShutString
import Derived.ChangeOld
import Derived.Below
import Derived.Deep.DeepCutAuto
namespace Go.Proofs.Qxb6626307a.fnIsDecimalSplitsAtThePoint
open Go.ChangeShapes Go.WideShapes Go.ChangeAt Go.RowKit
open Go.ChangeMaps (open_string shut_string)
open Plain

theorem own : ownKnob Try.prog.godebug = none := by kernel_rfl

set_option maxRecDepth 20000 in
set_option maxHeartbeats 2000000 in
theorem core (s t : ByteArray) (hs : s.size + t.size ≤ 1048576) (j ws hds ft dt hdt ps pt x y : Bool) (w : World)
    (hx : Hid (x = (ws && !hds))) (hy : Hid (y = (((ft && decide (0 < t.size)) && dt) && !hdt))) (hj : Hid (j = (x && y))) (hps : Hid ((!ps || ws) = true)) (hpt : Hid ((!pt || ft) = true))
    (C9 : Hid (∀ w, Calls Try.prog 9 #[.string s, .string t] w fun e w' => e = .returned (.bool true) ∧ w' = w))
    (CJ : Hid (∀ w, Calls Try.prog 8 #[.string (s ++ { data := #[46] } ++ t)] w fun e w' => e = .returned (.bool j) ∧ Below w.heap.size w w'))
    (CS : Hid (∀ w, Calls Try.prog 8 #[.string s] w fun e w' => e = .returned (.bool ws) ∧ Below w.heap.size w w'))
    (CT : Hid (∀ w, Calls Try.prog 8 #[.string t] w fun e w' => e = .returned (.bool ft) ∧ Below w.heap.size w w'))
    (DS : Hid (∀ w, Calls Try.prog 10 #[.string s] w fun e w' => e = .returned (.bool hds) ∧ w' = w))
    (DT : Hid (∀ w, Calls Try.prog 10 #[.string t] w fun e w' => e = .returned (.bool hdt) ∧ w' = w))
    (C7 : Hid (∀ (h : 0 < t.size) (w : World), Calls Try.prog 7 #[.int .u8 (t[0].toNat : Int)] w fun e w' => e = .returned (.bool dt) ∧ w' = w))
    (PS : Hid (∀ w, Calls Try.prog 11 #[.string s] w fun e w' => e = .returned (.bool ps) ∧ w' = w))
    (PT : Hid (∀ w, Calls Try.prog 11 #[.string t] w fun e w' => e = .returned (.bool pt) ∧ w' = w)) :
    Calls Try.prog 4 #[.string s, .string t] w fun e w' => e = .returned (.bool true) ∧ Below w.heap.size w w' := by
  have h1 : s.size ≤ 1048576 := by omega
  have h2 : t.size ≤ 1048576 := by omega
  go_enter Try.func4, Try.ntmps4
  go_wp2_with fail
  refine (C9.out _).mono ?_
  rintro e w' ⟨rfl, rfl⟩
  go_wp2_with fail
  refine (CJ.out _).mono ?_
  rintro e w1 ⟨rfl, hb1⟩
  go_wp2_with fail
  refine (CS.out _).mono ?_
  rintro e w2 ⟨rfl, hb2⟩
  go_wp2_with fail
  refine (CT.out _).mono ?_
  rintro e w3 ⟨rfl, hb3⟩
  have HB : Hid (Below w'.heap.size w' w3) := (hb1.trans (hb2.mono hb1.size)).trans (hb3.mono (Nat.le_trans hb1.size hb2.size))
  clear hb1 hb2 hb3
  go_upto_region 10 with fail
  go_cut [8] (fun v wx => v = .bool x ∧ w3 = wx)
  case first =>
    cases ws
    · go_wp2_with fail
      go_meet
      exact ⟨by rw [hx.out]; rfl, rfl⟩
    · go_wp2_with fail
      refine (DS.out _).mono ?_
      rintro e w4 ⟨rfl, rfl⟩
      go_wp2_with fail
      go_meet
      exact ⟨by rw [hx.out]; rfl, rfl⟩
  case rest =>
  obtain ⟨rfl, rfl⟩ := hcut
  go_upto_region 11 with fail
  go_cut [9] (fun v wx => v = .bool y ∧ w3 = wx)
  case first =>
    cases ft
    · go_wp2_with fail
      go_meet
      exact ⟨by rw [hy.out]; rfl, rfl⟩
    · by_cases hp : 0 < t.size
      · have hy' := hy.out
        rw [decide_eq_true hp] at hy'
        have HY : Hid (y = (((true && true) && dt) && !hdt)) := hy'
        clear hy'
        cases dt
        · go_wp2_with fail
          refine (C7.out hp _).mono ?_
          rintro e w4 ⟨rfl, rfl⟩
          go_wp2_with fail
          go_meet
          exact ⟨by rw [HY.out]; rfl, rfl⟩
        · go_wp2_with fail
          refine (C7.out hp _).mono ?_
          rintro e w4 ⟨rfl, rfl⟩
          go_wp2_with fail
          refine (DT.out _).mono ?_
          rintro e w4 ⟨rfl, rfl⟩
          go_wp2_with fail
          go_meet
          exact ⟨by rw [HY.out]; rfl, rfl⟩
      · have hy' := hy.out
        rw [decide_eq_false hp] at hy'
        have HY : Hid (y = (((true && false) && dt) && !hdt)) := hy'
        clear hy'
        go_wp2_with fail
        go_meet
        exact ⟨by rw [HY.out]; rfl, rfl⟩
  case rest =>
  obtain ⟨rfl, rfl⟩ := hcut
  go_wp2_with fail
  refine (PS.out _).mono ?_
  rintro e w4 ⟨rfl, rfl⟩
  go_wp2_with fail
  refine (PT.out _).mono ?_
  rintro e w4 ⟨rfl, rfl⟩
  have hj' := hj.out
  have hps' := hps.out
  have hpt' := hpt.out
  clear hx hy hj hps hpt C9 CJ CS CT DS DT C7 PS PT
  subst hj'
  cases x <;> cases y <;> cases ps <;> cases pt <;> cases ws <;> cases ft <;> first | (cases hps'; done) | (cases hpt'; done) | skip
  all_goals
    clear hps' hpt'
    go_wp2
    go_ret
    exact ⟨rfl, HB.out⟩

theorem walk_long (s t : ByteArray) (w : World)
    (C9 : Hid (∀ w, Calls Try.prog 9 #[.string s, .string t] w fun e w' => e = .returned (.bool false) ∧ w' = w)) :
    Calls Try.prog 4 #[.string s, .string t] w fun e w' => e = .returned (.bool true) ∧ Below w.heap.size w w' := by
  go_enter Try.func4, Try.ntmps4
  go_wp2_with fail
  refine (C9.out _).mono ?_
  rintro e w' ⟨rfl, rfl⟩
  go_wp2
  go_ret
  exact ⟨rfl, Below.refl _ _⟩

theorem size_app (s t : ByteArray) : (s ++ { data := #[46] } ++ t : ByteArray).size = s.size + t.size + 1 := by
  rw [ByteArray.size_append', ByteArray.size_append']
  show s.size + 1 + t.size = s.size + t.size + 1
  omega

theorem list_app (s t : ByteArray) : (s ++ { data := #[46] } ++ t : ByteArray).data.toList = s.data.toList ++ (46 : UInt8) :: t.data.toList := by
  simp [ByteArray.data_append]

theorem walk (a0 : ByteArray) (a1 : ByteArray) (w0 : a0.size ≤ maxLen) (w1 : a1.size ≤ maxLen) (w : World) :
    Calls Try.prog 4 #[.string a0, .string a1] w fun e w' => e = .returned (.bool true) ∧ Below w.heap.size w w' := by
  by_cases h : a0.size + a1.size ≤ 1048576
  · have hj := joined a0.data.toList a1.data.toList 46 rfl
    have hst : ∀ h : 0 < a1.size, starts a1.data.toList = isDig a1[0] := fun h => by rw [data_cons a1 h]; rfl
    have hE : (!a1.data.toList.isEmpty) = decide (0 < a1.size) := by
      rw [← ByteArray.toList_eq, isEmpty_of]
      by_cases h0 : a1.size = 0
      · rw [decide_eq_true h0, decide_eq_false (by omega)]; rfl
      · rw [decide_eq_false h0, decide_eq_true (by omega)]; rfl
    rw [hE] at hj
    have g7 : ∀ (h : 0 < a1.size) (w : World), Calls Try.prog 7 #[.int .u8 (a1[0].toNat : Int)] w fun e w' => e = .returned (.bool (starts a1.data.toList)) ∧ w' = w := fun h w => by
      rw [hst h]
      exact isDigit_any _ w
    have g9 : ∀ w, Calls Try.prog 9 #[.string a0, .string a1] w fun e w' => e = .returned (.bool true) ∧ w' = w := fun w => by
      have := bytes2_any a0 a1 w w0 w1
      rwa [decide_eq_true h] at this
    have gj : ∀ w, Calls Try.prog 8 #[.string (a0 ++ { data := #[46] } ++ a1)] w fun e w' => e = .returned (.bool (isDec (a0.data.toList ++ (46 : UInt8) :: a1.data.toList))) ∧ Below w.heap.size w w' := fun w => by
      have := dec_any (a0 ++ { data := #[46] } ++ a1) w (by rw [size_app]; unfold maxLen; omega)
      rwa [list_app] at this
    have pd : ∀ l : List UInt8, (!(!l.isEmpty && allDig l) || isDec l) = true := fun l => by
      cases hc : (!l.isEmpty && allDig l)
      · rfl
      · rw [digits_dec l hc]; rfl
    exact core a0 a1 h _ _ _ _ _ _ _ _ _ _ w rfl rfl hj (pd _) (pd _) g9 gj (fun w => dec_any a0 w w0) (fun w => dec_any a1 w w1) (fun w => hasDot_any a0 w w0) (fun w => hasDot_any a1 w w1) g7
      (fun w => allDig_any a0 w w0) (fun w => allDig_any a1 w w1)
  · refine walk_long a0 a1 w (fun w => ?_)
    have := bytes2_any a0 a1 w w0 w1
    rwa [decide_eq_false h] at this

/-! ### THE ROW's STEP -/
set_option maxRecDepth 100000 in
theorem lifted (os : Os) (started : os.Started) (H : Type) (enc : TypeId × Value → H) :
    ReturnsInHanded {} Try.checked os 4 .any (Rows.fnIsDecimalSplitsAtThePointSpec.pre6 enc Try.prog Try.f4 Rows.fnIsDecimalSplitsAtThePointRow.domain false) (Rows.fnIsDecimalSplitsAtThePointSpec.post enc Try.prog Try.f4 false true false false) := by
  refine returnsInHanded_of_change (C := Try.checked) own started (by kernel_rfl) Try.func4
    (ChangeSpec.witness6 (enc := enc) (C := Try.checked) false ⟨#[], #[.string ByteArray.empty, .string ByteArray.empty], []⟩ 8 (by kernel_rfl) (by kernel_rfl) (by kernel_rfl) (by kernel_rfl)) ?_
  intro W base args ds gs before hval0 hW hcnd _
  have hval : ∀ (j : Nat) t v, Try.f4.params[j]? = some t → args[j]? = some v → Value.okWide Try.prog W .any base t v := hval0
  have hW' := hW
  obtain ⟨p, q, hA0, hV, rfl, hfz, hnd⟩ := hW
  have hA : DataW.TrodAll enc Try.prog W 0 (fun _ => true) true Try.f4.params.toList args.toList ds p := hA0
  rw [Try.params4] at hA hval
  obtain ⟨v0, vs0, d0, ds0, p0, q0, hargs, rfl, rfl, h0, r0⟩ := trodAll_cons hA
  obtain ⟨v1, vs1, d1, ds1, p1, q1, rfl, rfl, rfl, h1, r1⟩ := trodAll_cons r0
  obtain ⟨rfl, rfl, rfl⟩ := trodAll_nil r1
  obtain rfl : args = #[v0, v1] := by cases args; simp_all
  obtain ⟨rfl, rfl⟩ := trodVars_none hV
  obtain ⟨a0, rfl, rfl, rfl, w0⟩ := open_string Try.underlying9 (hval 0 9 v0 rfl rfl) h0
  obtain ⟨a1, rfl, rfl, rfl, w1⟩ := open_string Try.underlying9 (hval 1 9 v1 rfl rfl) h1
  clear hA0 hval0
  refine (walk a0 a1 w0 w1 W).mono fun e W' ⟨he, bel⟩ => ?_
  subst he
  exact ⟨_, rfl, _, _, _, [], _, [], hW', trodAll_mk1 (shut_bool Try.underlying4 _), (trodAll_cons_mk (shut_string Try.underlying9 w0) (trodAll_cons_mk (shut_string Try.underlying9 w1) trodAll_mk0)), rfl, bel.frame _, fun h => by cases h⟩

theorem over : Rows.fnIsDecimalSplitsAtThePointRow.holds Try.pinned (OpenSpec.ofChange Rows.fnIsDecimalSplitsAtThePointSpec) :=
  OpenClaim.holds_of_wide 4 Try.f4 rfl rfl rfl rfl rfl rfl rfl ⟨rfl, rfl, rfl, rfl, rfl⟩ rfl rfl rfl rfl rfl (by kernel_rfl) Try.func4 (by kernel_rfl)
    (of_decide_eq_true (by kernel_rfl)) (by unfold Func.isWrapper; first | (rw [if_pos (by decide +kernel)]; kernel_rfl) | (rw [if_neg (by decide +kernel)]; exact ⟨rfl, rfl⟩))
    (fun os started H enc _ => lifted os started H enc)

/-- THE STATEMENT -/
theorem proved : Rows.FnIsDecimalSplitsAtThePointSaid :=
  over
end Go.Proofs.Qxb6626307a.fnIsDecimalSplitsAtThePoint
