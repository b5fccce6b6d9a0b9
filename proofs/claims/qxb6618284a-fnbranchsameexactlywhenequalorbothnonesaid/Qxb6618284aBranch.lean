/-
  The callees of the law on branch, each computing a plain function of strings, and the plain laws on those functions.
-/
import Derived.Test.Qxb6618284aRows
import Derived.WalkKit
import Derived.WalkSpells
import Derived.WalkLawsBesides
import Derived.RowKit3
namespace Go.Proofs.Qxb6618284a
open Go.RowKit

/-- branch: the tag '-' gives the empty string, every other tag itself. -/
def br (s : ByteArray) : ByteArray := if (s.toList == [45]) = true then ⟨#[]⟩ else s
/-- The tags that name no branch: the empty one and '-'. -/
def nn (s : ByteArray) : Bool := s.toList == [] || s.toList == [45]

theorem branch_any (s : ByteArray) (w : World) :
    Calls Try.prog 7 #[.string s] w fun e w' => e = .returned (.string (br s)) ∧ w' = w := by
  unfold br
  by_cases h : (s.toList == [45]) = true
  · rw [if_pos h]
    go_enter Try.func7, Try.ntmps7
    go_wp2
    go_ret
    exact ⟨rfl, rfl⟩
  · rw [if_neg h]
    have h' : (s.toList == [45]) = false := by simpa using h
    go_enter Try.func7, Try.ntmps7
    go_wp2
    go_ret
    exact ⟨rfl, rfl⟩

theorem zzbranch_any (s : ByteArray) (w : World) :
    Calls Try.prog 5 #[.string s] w fun e w' => e = .returned (.string (br s)) ∧ w' = w := by
  go_enter Try.func5, Try.ntmps5
  go_wp2_with (go_at_call 7; refine (branch_any _ _).mono ?_; rintro e w' ⟨rfl, rfl⟩)
  go_ret
  exact ⟨rfl, rfl⟩

theorem len_toList (s : ByteArray) : s.toList.length = s.size := by rw [ByteArray.toList_eq]; simp
theorem nn_zero (s : ByteArray) (h : s.size = 0) : nn s = true := by
  have : s.toList = [] := List.eq_nil_of_length_eq_zero (by rw [len_toList, h])
  simp [nn, this]
theorem one_toList (s : ByteArray) (h : 0 < s.size) (h1 : s.size = 1) : s.toList = [s[0]] := by
  rw [ByteArray.toList_eq]
  apply List.ext_getElem
  · simp [h1]
  · intro i a b
    simp at b
    subst b
    rfl
theorem nn_one (s : ByteArray) (h : 0 < s.size) (h1 : s.size = 1) : nn s = ((s[0].toNat : Int) == 45) := by
  have e := one_toList s h h1
  rw [Bool.eq_iff_iff]
  simp [nn, e]
  constructor
  · intro h2; rw [h2]; rfl
  · intro h2; exact UInt8.toNat_inj.1 (by simpa using Int.ofNat.inj h2)
theorem nn_more (s : ByteArray) (h0 : s.size ≠ 0) (h1 : s.size ≠ 1) : nn s = false := by
  have e := len_toList s
  unfold nn
  rw [Bool.or_eq_false_iff]
  constructor
  · rw [beq_eq_false_iff_ne]; intro h; rw [h] at e; simp at e; omega
  · rw [beq_eq_false_iff_ne]; intro h; rw [h] at e; simp at e; omega

theorem names_any (s : ByteArray) (w : World) :
    Calls Try.prog 6 #[.string s] w fun e w' => e = .returned (.bool (nn s)) ∧ w' = w := by
  by_cases h0 : s.size = 0
  · rw [nn_zero s h0]
    have h0' : ((s.size : Int) == 0) = true := by simp [h0]
    clear h0
    go_enter Try.func6, Try.ntmps6
    go_wp2
    go_ret
    exact ⟨rfl, rfl⟩
  · have h0' : ((s.size : Int) == 0) = false := beq_eq_false_iff_ne.2 (by omega)
    by_cases h1 : s.size = 1
    · have hp : 0 < s.size := by omega
      rw [nn_one s hp h1]
      go_enter Try.func6, Try.ntmps6
      go_wp2
      go_ret
      exact ⟨rfl, rfl⟩
    · rw [nn_more s h0 h1]
      have h1' : ((s.size : Int) == 1) = false := beq_eq_false_iff_ne.2 (by omega)
      go_enter Try.func6, Try.ntmps6
      go_wp2
      go_ret
      exact ⟨rfl, rfl⟩

/-! ### The plain laws -/
theorem br_br (s : ByteArray) : br (br s) = br s := by
  unfold br
  by_cases h : (s.toList == [45]) = true
  · rw [if_pos h]; simp
  · rw [if_neg h, if_neg h]
theorem empty_toList : (⟨#[]⟩ : ByteArray).toList = [] := by rw [ByteArray.toList_eq]
theorem br_same (t u : ByteArray) : ((br t).toList == (br u).toList) = ((t.toList == u.toList) || (nn t && nn u)) := by
  rw [Bool.eq_iff_iff]
  unfold br nn
  by_cases h : (t.toList == [45]) = true <;> by_cases k : (u.toList == [45]) = true
  · rw [if_pos h, if_pos k]; simp at h k; simp [h, k]
  · rw [if_pos h, if_neg k, empty_toList]; simp at h k; simp [h, k]
    intro e; exact absurd e.symm k
  · rw [if_neg h, if_pos k, empty_toList]; simp at h k; simp [h, k]
  · rw [if_neg h, if_neg k]; simp at h k; simp [h, k]
    intro a b; rw [a, b]
theorem br_not (s : ByteArray) (h : 0 < (br s).size) (h1 : (br s).size = 1) : (((br s)[0].toNat : Int) == 45) = false := by
  rw [← nn_one (br s) h h1]
  have e := len_toList (br s)
  unfold nn
  rw [Bool.or_eq_false_iff]
  constructor
  · rw [beq_eq_false_iff_ne]; intro h; rw [h] at e; simp at e; omega
  · rw [beq_eq_false_iff_ne]
    unfold br
    by_cases k : (s.toList == [45]) = true
    · rw [if_pos k, empty_toList]; simp
    · rw [if_neg k]; simpa using k
end Go.Proofs.Qxb6618284a
