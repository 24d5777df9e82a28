/-
  'Rows.FnIsDecimalMatchesCharacterGrammarAndSignedFormsSaid', PROVED. The frame (lifted, over, proved) is the guide's, at this function's number and types, in the make with 'Below' (the walk lays blocks with a mark: '[]byte(s)').
-/
import Derived.Test.Qxb6626307aGram
import Derived.ProofKit
import Derived.OpenShut
import Derived.ShutString
import Derived.ChangeOld
import Derived.Below
namespace Go.Proofs.Qxb6626307a.fnIsDecimalMatchesCharacterGrammarAndSignedForms
open Go.ChangeShapes Go.WideShapes Go.ChangeAt Go.RowKit
open Go.ChangeMaps (open_string shut_string)
open Plain

theorem own : ownKnob Try.prog.godebug = none := by kernel_rfl

set_option maxHeartbeats 1000000 in
/-- Not empty. -/
theorem core (s : ByteArray) (hs : s.size ≤ 1048576) (hp : 0 < s.size) (g d : Bool) (w : World)
    (C5 : Hid (∀ w, Calls Try.prog 5 #[.string s] w fun e w' => e = .returned (.bool true) ∧ w' = w))
    (C6 : Hid (∀ w, Calls Try.prog 6 #[.string s] w fun e w' => e = .returned (.bool g) ∧ w' = w))
    (C7 : Hid (∀ w, Calls Try.prog 7 #[.int .u8 (s[0].toNat : Int)] w fun e w' => e = .returned (.bool d) ∧ w' = w))
    (C8 : Hid (∀ w, Calls Try.prog 8 #[.string s] w fun e w' => e = .returned (.bool g) ∧ Below w.heap.size w w'))
    (CM : Hid (∀ w, Calls Try.prog 8 #[.string ({ data := #[45] } ++ s)] w fun e w' => e = .returned (.bool (g && d)) ∧ Below w.heap.size w w'))
    (CP : Hid (∀ w, Calls Try.prog 8 #[.string ({ data := #[43] } ++ s)] w fun e w' => e = .returned (.bool (g && d)) ∧ Below w.heap.size w w')) :
    Calls Try.prog 3 #[.string s] w fun e w' => e = .returned (.bool true) ∧ Below w.heap.size w w' := by
  cases g <;> cases d
  all_goals
    go_enter Try.func3, Try.ntmps3
    go_wp2_with fail
    refine (C5.out _).mono ?_
    rintro e w' ⟨rfl, rfl⟩
    go_wp2_with fail
    refine (C6.out _).mono ?_
    rintro e w' ⟨rfl, rfl⟩
    go_wp2_with fail
    refine (C7.out _).mono ?_
    rintro e w' ⟨rfl, rfl⟩
    go_wp2_with fail
    refine (C8.out _).mono ?_
    rintro e w1 ⟨rfl, hb1⟩
    go_wp2_with fail
    refine (CM.out _).mono ?_
    rintro e w2 ⟨rfl, hb2⟩
    go_wp2_with fail
    refine (CP.out _).mono ?_
    rintro e w3 ⟨rfl, hb3⟩
    go_wp2
    go_ret
    exact ⟨rfl, (hb1.trans (hb2.mono hb1.size)).trans (hb3.mono (Nat.le_trans hb1.size hb2.size))⟩

/-- The empty string. -/
theorem core_empty (s : ByteArray) (hs : s.size ≤ 1048576) (hp : ¬ 0 < s.size) (w : World)
    (C5 : Hid (∀ w, Calls Try.prog 5 #[.string s] w fun e w' => e = .returned (.bool true) ∧ w' = w))
    (C6 : Hid (∀ w, Calls Try.prog 6 #[.string s] w fun e w' => e = .returned (.bool false) ∧ w' = w))
    (C8 : Hid (∀ w, Calls Try.prog 8 #[.string s] w fun e w' => e = .returned (.bool false) ∧ Below w.heap.size w w'))
    (CM : Hid (∀ w, Calls Try.prog 8 #[.string ({ data := #[45] } ++ s)] w fun e w' => e = .returned (.bool false) ∧ Below w.heap.size w w'))
    (CP : Hid (∀ w, Calls Try.prog 8 #[.string ({ data := #[43] } ++ s)] w fun e w' => e = .returned (.bool false) ∧ Below w.heap.size w w')) :
    Calls Try.prog 3 #[.string s] w fun e w' => e = .returned (.bool true) ∧ Below w.heap.size w w' := by
  go_enter Try.func3, Try.ntmps3
  go_wp2_with fail
  refine (C5.out _).mono ?_
  rintro e w' ⟨rfl, rfl⟩
  go_wp2_with fail
  refine (C6.out _).mono ?_
  rintro e w' ⟨rfl, rfl⟩
  go_wp2_with fail
  refine (C8.out _).mono ?_
  rintro e w1 ⟨rfl, hb1⟩
  go_wp2_with fail
  refine (CM.out _).mono ?_
  rintro e w2 ⟨rfl, hb2⟩
  go_wp2_with fail
  refine (CP.out _).mono ?_
  rintro e w3 ⟨rfl, hb3⟩
  go_wp2
  go_ret
  exact ⟨rfl, (hb1.trans (hb2.mono hb1.size)).trans (hb3.mono (Nat.le_trans hb1.size hb2.size))⟩

/-- Too long: nothing is asked. -/
theorem core_long (s : ByteArray) (w : World)
    (C5 : Hid (∀ w, Calls Try.prog 5 #[.string s] w fun e w' => e = .returned (.bool false) ∧ w' = w)) :
    Calls Try.prog 3 #[.string s] w fun e w' => e = .returned (.bool true) ∧ Below w.heap.size w w' := by
  go_enter Try.func3, Try.ntmps3
  go_wp2_with fail
  refine (C5.out _).mono ?_
  rintro e w' ⟨rfl, rfl⟩
  go_wp2
  go_ret
  exact ⟨rfl, Below.refl _ _⟩

theorem size_app (c : UInt8) (s : ByteArray) : (({ data := #[c] } : ByteArray) ++ s).size = s.size + 1 := by
  rw [ByteArray.size_append']
  show 1 + s.size = s.size + 1
  omega

theorem list_app (c : UInt8) (s : ByteArray) : (({ data := #[c] } : ByteArray) ++ s).data.toList = c :: s.data.toList := by
  simp [ByteArray.data_append]

theorem walk (a0 : ByteArray) (w0 : a0.size ≤ maxLen) (w : World) :
    Calls Try.prog 3 #[.string a0] w fun e w' => e = .returned (.bool true) ∧ Below w.heap.size w w' := by
  by_cases h : a0.size ≤ 1048576
  · have big : ∀ c : UInt8, (({ data := #[c] } : ByteArray) ++ a0).size ≤ maxLen := fun c => by rw [size_app]; unfold maxLen; omega
    have C5 : Hid (∀ w, Calls Try.prog 5 #[.string a0] w fun e w' => e = .returned (.bool true) ∧ w' = w) := fun w => by
      have := bytes1_any a0 w w0
      rwa [decide_eq_true h] at this
    have sg : ∀ (c : UInt8) (hc : c.toNat = 43 ∨ c.toNat = 45) (w : World), Calls Try.prog 8 #[.string ({ data := #[c] } ++ a0)] w fun e w' => e = .returned (.bool (gram a0.data.toList && starts a0.data.toList)) ∧ Below w.heap.size w w' := fun c hc w => by
      have := dec_any _ w (big c)
      rwa [list_app, isDec_signed c _ hc] at this
    have g8 : ∀ w, Calls Try.prog 8 #[.string a0] w fun e w' => e = .returned (.bool (gram a0.data.toList)) ∧ Below w.heap.size w w' := fun w => by
      have := dec_any a0 w w0
      rwa [isDec_gram] at this
    by_cases hp : 0 < a0.size
    · have hd : starts a0.data.toList = isDig a0[0] := by rw [data_cons a0 hp]; rfl
      rw [hd] at sg
      exact core a0 h hp (gram a0.data.toList) (isDig a0[0]) w C5 (fun w => gram_any a0 w w0) (fun w => isDigit_any _ w) g8 (sg 45 (.inr rfl)) (sg 43 (.inl rfl))
    · have hn : a0.data.toList = [] := by
        have h2 : a0.size = 0 := by omega
        exact List.length_eq_zero_iff.1 (by simpa using h2)
      have hg : gram a0.data.toList = false := by rw [hn]; rfl
      have h6 : ∀ w, Calls Try.prog 6 #[.string a0] w fun e w' => e = .returned (.bool false) ∧ w' = w := fun w => by
        have := gram_any a0 w w0
        rwa [hg] at this
      rw [hg, Bool.false_and] at sg
      rw [hg] at g8
      exact core_empty a0 h hp w C5 h6 g8 (sg 45 (.inr rfl)) (sg 43 (.inl rfl))
  · refine core_long a0 w (fun w => ?_)
    have := bytes1_any a0 w w0
    rwa [decide_eq_false h] at this

/-! ### THE ROW's STEP -/
set_option maxRecDepth 100000 in
theorem lifted (os : Os) (started : os.Started) (H : Type) (enc : TypeId × Value → H) :
    ReturnsInHanded {} Try.checked os 3 .any (Rows.fnIsDecimalMatchesCharacterGrammarAndSignedFormsSpec.pre6 enc Try.prog Try.f3 Rows.fnIsDecimalMatchesCharacterGrammarAndSignedFormsRow.domain false) (Rows.fnIsDecimalMatchesCharacterGrammarAndSignedFormsSpec.post enc Try.prog Try.f3 false true false false) := by
  refine returnsInHanded_of_change (C := Try.checked) own started (by kernel_rfl) Try.func3
    (ChangeSpec.witness6 (enc := enc) (C := Try.checked) false ⟨#[], #[.string ByteArray.empty], []⟩ 8 (by kernel_rfl) (by kernel_rfl) (by kernel_rfl) (by kernel_rfl)) ?_
  intro W base args ds gs before hval0 hW hcnd _
  have hval : ∀ (j : Nat) t v, Try.f3.params[j]? = some t → args[j]? = some v → Value.okWide Try.prog W .any base t v := hval0
  have hW' := hW
  obtain ⟨p, q, hA0, hV, rfl, hfz, hnd⟩ := hW
  have hA : DataW.TrodAll enc Try.prog W 0 (fun _ => true) true Try.f3.params.toList args.toList ds p := hA0
  rw [Try.params3] at hA hval
  obtain ⟨v0, vs0, d0, ds0, p0, q0, hargs, rfl, rfl, h0, r0⟩ := trodAll_cons hA
  obtain ⟨rfl, rfl, rfl⟩ := trodAll_nil r0
  obtain rfl : args = #[v0] := by cases args; simp_all
  obtain ⟨rfl, rfl⟩ := trodVars_none hV
  obtain ⟨a0, rfl, rfl, rfl, w0⟩ := open_string Try.underlying9 (hval 0 9 v0 rfl rfl) h0
  clear hA0 hval0
  refine (walk a0 w0 W).mono fun e W' ⟨he, bel⟩ => ?_
  subst he
  exact ⟨_, rfl, _, _, _, [], _, [], hW', trodAll_mk1 (shut_bool Try.underlying4 _), (trodAll_cons_mk (shut_string Try.underlying9 w0) trodAll_mk0), rfl, bel.frame _, fun h => by cases h⟩

theorem over : Rows.fnIsDecimalMatchesCharacterGrammarAndSignedFormsRow.holds Try.pinned (OpenSpec.ofChange Rows.fnIsDecimalMatchesCharacterGrammarAndSignedFormsSpec) :=
  OpenClaim.holds_of_wide 3 Try.f3 rfl rfl rfl rfl rfl rfl rfl ⟨rfl, rfl, rfl, rfl, rfl⟩ rfl rfl rfl rfl rfl (by kernel_rfl) Try.func3 (by kernel_rfl)
    (of_decide_eq_true (by kernel_rfl)) (by unfold Func.isWrapper; first | (rw [if_pos (by decide +kernel)]; kernel_rfl) | (rw [if_neg (by decide +kernel)]; exact ⟨rfl, rfl⟩))
    (fun os started H enc _ => lifted os started H enc)

/-- THE STATEMENT -/
theorem proved : Rows.FnIsDecimalMatchesCharacterGrammarAndSignedFormsSaid :=
  over
end Go.Proofs.Qxb6626307a.fnIsDecimalMatchesCharacterGrammarAndSignedForms
