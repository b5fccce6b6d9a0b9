/-
  'Rows.FnBranchSameExactlyWhenEqualOrBothNoneSaid' proved: the shell of the seat, its hole filled.
-/
import Derived.Test.Qxb6618284aRows
import Derived.Test.Qxb6618284aBranch
import Derived.WalkKit
import Derived.ProofKit
import Derived.OpenShut
import Derived.ShutString
namespace Go.Proofs.Qxb6618284a.fnBranchSameExactlyWhenEqualOrBothNone
open Go.ChangeShapes Go.WideShapes Go.ChangeAt Go.RowKit
open Go.ChangeMaps (open_string shut_string)
set_option linter.unusedVariables false      -- a walk need not use every 'w<i>' (that an integer argument fits its kind)

theorem own : ownKnob Try.prog.godebug = none := by kernel_rfl

theorem bytes_yes (t u : ByteArray) (w : World) (w0 : t.size ≤ maxLen) (w1 : u.size ≤ maxLen) (h : t.size + u.size ≤ 1048576) :
    Calls Try.prog 4 #[.string t, .string u] w fun e w' => e = .returned (.bool true) ∧ w' = w := by
  have h0 : t.size ≤ 1048576 := by omega
  have h1 : u.size ≤ 1048576 := by omega
  go_enter Try.func4, Try.ntmps4
  go_wp2
  go_ret
  exact ⟨rfl, rfl⟩

theorem bytes_no (t u : ByteArray) (w : World) (w0 : t.size ≤ maxLen) (w1 : u.size ≤ maxLen) (h : ¬ t.size + u.size ≤ 1048576) :
    Calls Try.prog 4 #[.string t, .string u] w fun e w' => e = .returned (.bool false) ∧ w' = w := by
  unfold maxLen at w0 w1
  by_cases h0 : t.size ≤ 1048576
  · by_cases h1 : u.size ≤ 1048576
    · go_enter Try.func4, Try.ntmps4
      go_wp2
      go_ret
      exact ⟨rfl, rfl⟩
    · go_enter Try.func4, Try.ntmps4
      go_wp2
      go_ret
      exact ⟨rfl, rfl⟩
  · go_enter Try.func4, Try.ntmps4
    go_wp2
    go_ret
    exact ⟨rfl, rfl⟩

theorem no_dash (s : ByteArray) (h : 0 < (br s).size) (h1 : (br s).size = 1) (h2 : (((br s)[0].toNat : Int) == 45) = true) : False := by
  rw [br_not s h h1] at h2; cases h2

/-- Within the bounds: every test is decided ahead of the walk. -/
theorem inner (a0 : ByteArray) (a1 : ByteArray) (w0 : a0.size ≤ maxLen) (w1 : a1.size ≤ maxLen) (hle : a0.size + a1.size ≤ 1048576) (h0 : a0.size ≤ 524288) (h1 : a1.size ≤ 524288) (w : World) :
    Calls Try.prog 3 #[.string a0, .string a1] w fun e w' => e = .returned (.bool true) ∧ Grown w w' := by
  have s1 := br_same a0 a1
  have b0 := br_br a0
  have b1 := br_br a1
  by_cases c1 : (a0.toList == a1.toList) = true
  · rw [c1] at s1; simp only [Bool.true_or] at s1
    go_enter Try.func3, Try.ntmps3
    go_wp2_with (first
      | (go_at_call 4; refine (bytes_yes _ _ _ w0 w1 hle).mono ?_; rintro e w' ⟨rfl, rfl⟩)
      | (go_at_call 5; refine (zzbranch_any _ _).mono ?_; rintro e w' ⟨rfl, rfl⟩)
      | (go_at_call 6; refine (names_any _ _).mono ?_; rintro e w' ⟨rfl, rfl⟩))
    all_goals (first | (go_ret; exact ⟨rfl, Grown.refl _⟩) | (exfalso; exact no_dash a0 (by omega) (by omega) (by assumption)) | (exfalso; exact no_dash a1 (by omega) (by omega) (by assumption)))
  have c1' : (a0.toList == a1.toList) = false := by simpa using c1
  clear c1
  by_cases c2 : nn a0 = true
  · by_cases c3 : nn a1 = true
    · rw [c1', c2, c3] at s1; simp only [Bool.false_or, Bool.and_self] at s1
      go_enter Try.func3, Try.ntmps3
      go_wp2_with (first
        | (go_at_call 4; refine (bytes_yes _ _ _ w0 w1 hle).mono ?_; rintro e w' ⟨rfl, rfl⟩)
        | (go_at_call 5; refine (zzbranch_any _ _).mono ?_; rintro e w' ⟨rfl, rfl⟩)
        | (go_at_call 6; refine (names_any _ _).mono ?_; rintro e w' ⟨rfl, rfl⟩))
      all_goals (first | (go_ret; exact ⟨rfl, Grown.refl _⟩) | (exfalso; exact no_dash a0 (by omega) (by omega) (by assumption)) | (exfalso; exact no_dash a1 (by omega) (by omega) (by assumption)))
    have c3' : nn a1 = false := by simpa using c3
    clear c3
    rw [c1', c2, c3'] at s1; simp only [Bool.false_or, Bool.and_false] at s1
    go_enter Try.func3, Try.ntmps3
    go_wp2_with (first
      | (go_at_call 4; refine (bytes_yes _ _ _ w0 w1 hle).mono ?_; rintro e w' ⟨rfl, rfl⟩)
      | (go_at_call 5; refine (zzbranch_any _ _).mono ?_; rintro e w' ⟨rfl, rfl⟩)
      | (go_at_call 6; refine (names_any _ _).mono ?_; rintro e w' ⟨rfl, rfl⟩))
    all_goals (first | (go_ret; exact ⟨rfl, Grown.refl _⟩) | (exfalso; exact no_dash a0 (by omega) (by omega) (by assumption)) | (exfalso; exact no_dash a1 (by omega) (by omega) (by assumption)))
  have c2' : nn a0 = false := by simpa using c2
  clear c2
  rw [c1', c2'] at s1; simp only [Bool.false_or, Bool.false_and] at s1
  go_enter Try.func3, Try.ntmps3
  go_wp2_with (first
    | (go_at_call 4; refine (bytes_yes _ _ _ w0 w1 hle).mono ?_; rintro e w' ⟨rfl, rfl⟩)
    | (go_at_call 5; refine (zzbranch_any _ _).mono ?_; rintro e w' ⟨rfl, rfl⟩)
    | (go_at_call 6; refine (names_any _ _).mono ?_; rintro e w' ⟨rfl, rfl⟩))
  all_goals (first | (go_ret; exact ⟨rfl, Grown.refl _⟩) | (exfalso; exact no_dash a0 (by omega) (by omega) (by assumption)) | (exfalso; exact no_dash a1 (by omega) (by omega) (by assumption)))

/-! ### STEP 1: THE WALK: the Go text returns true. 'Grown w w'': the world has at most new blocks (Derived/RowKit3.lean). Part the cases AHEAD of 'go_enter' where a test parts the walk; take each callee by a contract of your own. -/
theorem walk (a0 : ByteArray) (a1 : ByteArray) (w0 : a0.size ≤ maxLen) (w1 : a1.size ≤ maxLen) (w : World) :
    Calls Try.prog 3 #[.string a0, .string a1] w fun e w' => e = .returned (.bool true) ∧ Grown w w' := by
  by_cases hle : a0.size + a1.size ≤ 1048576
  · by_cases h0 : a0.size ≤ 524288
    · by_cases h1 : a1.size ≤ 524288
      · exact inner a0 a1 w0 w1 hle h0 h1 w
      · go_enter Try.func3, Try.ntmps3
        go_wp2_with (go_at_call 4; refine (bytes_yes _ _ _ w0 w1 hle).mono ?_; rintro e w' ⟨rfl, rfl⟩)
        go_ret
        exact ⟨rfl, Grown.refl _⟩
    · go_enter Try.func3, Try.ntmps3
      go_wp2_with (go_at_call 4; refine (bytes_yes _ _ _ w0 w1 hle).mono ?_; rintro e w' ⟨rfl, rfl⟩)
      go_ret
      exact ⟨rfl, Grown.refl _⟩
  · go_enter Try.func3, Try.ntmps3
    go_wp2_with (go_at_call 4; refine (bytes_no _ _ _ w0 w1 hle).mono ?_; rintro e w' ⟨rfl, rfl⟩)
    go_ret
    exact ⟨rfl, Grown.refl _⟩

/-! ### THE ROW's STEP: WRITTEN OUT: LEAVE IT -/
set_option maxRecDepth 100000 in
theorem lifted (os : Os) (started : os.Started) (H : Type) (enc : TypeId × Value → H) :
    ReturnsInHanded {} Try.checked os 3 .any (Rows.fnBranchSameExactlyWhenEqualOrBothNoneSpec.pre6 enc Try.prog Try.f3 Rows.fnBranchSameExactlyWhenEqualOrBothNoneRow.domain false) (Rows.fnBranchSameExactlyWhenEqualOrBothNoneSpec.post enc Try.prog Try.f3 false true false false) := by
  refine returnsInHanded_of_change (C := Try.checked) own started (by kernel_rfl) Try.func3
    (ChangeSpec.witness6 (enc := enc) (C := Try.checked) false ⟨#[], #[.string ByteArray.empty, .string ByteArray.empty], []⟩ 8 (by kernel_rfl) (by kernel_rfl) (by kernel_rfl) (by kernel_rfl)) ?_
  intro W base args ds gs before hval0 hW hcnd _
  have hval : ∀ (j : Nat) t v, Try.f3.params[j]? = some t → args[j]? = some v → Value.okWide Try.prog W .any base t v := hval0
  have hW' := hW
  obtain ⟨p, q, hA0, hV, rfl, hfz, hnd⟩ := hW
  have hA : DataW.TrodAll enc Try.prog W 0 (fun _ => true) true Try.f3.params.toList args.toList ds p := hA0
  rw [Try.params3] at hA hval
  obtain ⟨v0, vs0, d0, ds0, p0, q0, hargs, rfl, rfl, h0, r0⟩ := trodAll_cons hA
  obtain ⟨v1, vs1, d1, ds1, p1, q1, rfl, rfl, rfl, h1, r1⟩ := trodAll_cons r0
  obtain ⟨rfl, rfl, rfl⟩ := trodAll_nil r1
  obtain rfl : args = #[v0, v1] := by cases args; simp_all
  obtain ⟨rfl, rfl⟩ := trodVars_none hV
  obtain ⟨a0, rfl, rfl, rfl, w0⟩ := open_string Try.underlying9 (hval 0 9 v0 rfl rfl) h0
  obtain ⟨a1, rfl, rfl, rfl, w1⟩ := open_string Try.underlying9 (hval 1 9 v1 rfl rfl) h1
  clear hA0 hval0
  simp only [List.append_nil] at hW'
  refine (walk a0 a1 w0 w1 W).mono fun e W' ⟨he, hg⟩ => ?_
  subst he
  exact ⟨_, rfl, post_of_same (pa := []) (pv := []) hW' (fun _ _ _ => (trodAll_cons_mk (shut_bool Try.underlying4 _) trodAll_mk0)) (fun sp _ => (trodAll_cons_mk (shut_string Try.underlying9 w0) (trodAll_cons_mk (shut_string Try.underlying9 w1) trodAll_mk0))) (fun _ _ => rfl) rfl
    (hg.frame _) hg.2.1 (ok_one (by kernel_rfl) rfl (okWide_bool_mk Try.underlying4 _))⟩

theorem over : Rows.fnBranchSameExactlyWhenEqualOrBothNoneRow.holds Try.pinned (OpenSpec.ofChange Rows.fnBranchSameExactlyWhenEqualOrBothNoneSpec) :=
  OpenClaim.holds_of_wide 3 Try.f3 rfl rfl rfl rfl rfl rfl rfl ⟨rfl, rfl, rfl, rfl, rfl⟩ rfl rfl rfl rfl rfl (by kernel_rfl) Try.func3 (by kernel_rfl)
    (of_decide_eq_true (by kernel_rfl)) (by unfold Func.isWrapper; first | (rw [if_pos (by decide +kernel)]; kernel_rfl) | (rw [if_neg (by decide +kernel)]; exact ⟨rfl, rfl⟩))
    (fun os started H enc _ => lifted os started H enc)

/-- ████ THE STATEMENT ████ -/
theorem proved : Rows.FnBranchSameExactlyWhenEqualOrBothNoneSaid :=
  over
#print axioms proved
end Go.Proofs.Qxb6618284a.fnBranchSameExactlyWhenEqualOrBothNone
