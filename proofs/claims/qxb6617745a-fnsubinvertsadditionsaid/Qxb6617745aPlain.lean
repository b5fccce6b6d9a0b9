/-
  The plain arithmetic of two words (no Go in sight): subtraction, addition with its carry, and order, as the Go text reckons them.
-/
import Derived.RowKit
namespace Go.Proofs.Qxb6617745a
open Go.RowKit

def sLo (xl yl : Int) : Int := IntKind.u64.wrap (xl - yl)
def sHi (xh xl yh yl : Int) : Int := if xl < yl then IntKind.u64.wrap (IntKind.u64.wrap (xh - yh) - 1) else IntKind.u64.wrap (xh - yh)
def aLo (al bl : Int) : Int := IntKind.u64.wrap (al + bl)
def aHi (ah al bh bl : Int) : Int := if IntKind.u64.wrap (al + bl) < al then IntKind.u64.wrap (IntKind.u64.wrap (ah + bh) + 1) else IntKind.u64.wrap (IntKind.u64.wrap (ah + bh))
def aC (ah al bh bl : Int) : Bool := decide (IntKind.u64.wrap (ah + bh) < ah) || decide (aHi ah al bh bl < IntKind.u64.wrap (ah + bh))
def ltB (ah al bh bl : Int) : Bool := if ah = bh then decide (al < bl) else decide (ah < bh)

/-- A word. -/
def Word (x : Int) : Prop := 0 ≤ x ∧ x < 18446744073709551616

theorem wrapU (x : Int) : IntKind.u64.wrap x = x % 18446744073709551616 := by
  simp [IntKind.wrap, IntKind.signed, IntKind.bits]

theorem word_of_wf {x : Int} (h : (Lit.int .u64 x).wf = true) : Word x := by
  simp [Lit.wf, IntKind.min, IntKind.max, IntKind.signed, IntKind.bits] at h
  exact ⟨by omega, by omega⟩

theorem word_sLo (xl yl : Int) : Word (sLo xl yl) := by unfold sLo Word; rw [wrapU]; omega
theorem word_sHi (xh xl yh yl : Int) : Word (sHi xh xl yh yl) := by
  unfold sHi Word; simp only [wrapU]; split <;> omega

/-- d + y = x, the high word. -/
theorem back_hi (xh xl yh yl : Int) (h1 : Word xh) (h2 : Word xl) (h3 : Word yh) (h4 : Word yl) :
    aHi (sHi xh xl yh yl) (sLo xl yl) yh yl = xh := by
  unfold aHi sHi sLo; simp only [wrapU]
  obtain ⟨_, _⟩ := h1; obtain ⟨_, _⟩ := h2; obtain ⟨_, _⟩ := h3; obtain ⟨_, _⟩ := h4
  split <;> split <;> omega
theorem back_lo (xl yl : Int) (h2 : Word xl) (h4 : Word yl) : aLo (sLo xl yl) yl = xl := by
  unfold aLo sLo; simp only [wrapU]
  obtain ⟨_, _⟩ := h2; obtain ⟨_, _⟩ := h4
  omega
/-- x - d = y. -/
theorem inv_hi (xh xl yh yl : Int) (h1 : Word xh) (h2 : Word xl) (h3 : Word yh) (h4 : Word yl) :
    sHi xh xl (sHi xh xl yh yl) (sLo xl yl) = yh := by
  unfold sHi sLo; simp only [wrapU]
  obtain ⟨_, _⟩ := h1; obtain ⟨_, _⟩ := h2; obtain ⟨_, _⟩ := h3; obtain ⟨_, _⟩ := h4
  split <;> split <;> omega
theorem inv_lo (xl yl : Int) (h2 : Word xl) (h4 : Word yl) : sLo xl (sLo xl yl) = yl := by
  unfold sLo; simp only [wrapU]
  obtain ⟨_, _⟩ := h2; obtain ⟨_, _⟩ := h4
  omega
/-- The sum d + y carries exactly where y is above x. -/
theorem carry_lt (xh xl yh yl : Int) (h1 : Word xh) (h2 : Word xl) (h3 : Word yh) (h4 : Word yl) :
    aC (sHi xh xl yh yl) (sLo xl yl) yh yl = ltB xh xl yh yl := by
  unfold aC ltB; rw [back_hi xh xl yh yl h1 h2 h3 h4]
  unfold sHi; simp only [wrapU]
  obtain ⟨_, _⟩ := h1; obtain ⟨_, _⟩ := h2; obtain ⟨_, _⟩ := h3; obtain ⟨_, _⟩ := h4
  rw [← Bool.decide_or, Bool.eq_iff_iff]
  split <;> split <;> simp only [decide_eq_true_eq] <;> omega
/-- Where y is not above x, d is not above x. -/
theorem less_no (xh xl yh yl : Int) (h1 : Word xh) (h2 : Word xl) (h3 : Word yh) (h4 : Word yl) (h : ltB xh xl yh yl = false) :
    ltB xh xl (sHi xh xl yh yl) (sLo xl yl) = false := by
  revert h
  unfold ltB sHi sLo; simp only [wrapU]
  obtain ⟨_, _⟩ := h1; obtain ⟨_, _⟩ := h2; obtain ⟨_, _⟩ := h3; obtain ⟨_, _⟩ := h4
  split <;> split <;> split <;> simp only [decide_eq_false_iff_not] <;> omega
/-- (x - y) + (y - z) = x - z. -/
theorem span_lo (xl yl zl : Int) : aLo (sLo xl yl) (sLo yl zl) = sLo xl zl := by
  unfold aLo sLo; simp only [wrapU]; omega
theorem span_hi (xh xl yh yl zh zl : Int) (h1 : Word xh) (h2 : Word xl) (h3 : Word yh) (h4 : Word yl) (h5 : Word zh) (h6 : Word zl) :
    aHi (sHi xh xl yh yl) (sLo xl yl) (sHi yh yl zh zl) (sLo yl zl) = sHi xh xl zh zl := by
  unfold aHi sHi sLo; simp only [wrapU]
  obtain ⟨_, _⟩ := h1; obtain ⟨_, _⟩ := h2; obtain ⟨_, _⟩ := h3; obtain ⟨_, _⟩ := h4; obtain ⟨_, _⟩ := h5; obtain ⟨_, _⟩ := h6
  split <;> split <;> split <;> split <;> omega
/-- Where z <= y <= x the sum of the two parts does not carry. -/
theorem span_carry (xh xl yh yl zh zl : Int) (h1 : Word xh) (h2 : Word xl) (h3 : Word yh) (h4 : Word yl) (h5 : Word zh) (h6 : Word zl)
    (hyz : ltB yh yl zh zl = false) (hxy : ltB xh xl yh yl = false) :
    aC (sHi xh xl yh yl) (sLo xl yl) (sHi yh yl zh zl) (sLo yl zl) = false := by
  revert hyz hxy
  unfold aC; rw [span_hi xh xl yh yl zh zl h1 h2 h3 h4 h5 h6]
  unfold ltB sHi; simp only [wrapU]
  obtain ⟨_, _⟩ := h1; obtain ⟨_, _⟩ := h2; obtain ⟨_, _⟩ := h3; obtain ⟨_, _⟩ := h4; obtain ⟨_, _⟩ := h5; obtain ⟨_, _⟩ := h6
  rw [← Bool.decide_or]
  split <;> split <;> split <;> split <;> split <;> simp only [decide_eq_false_iff_not] <;> omega
end Go.Proofs.Qxb6617745a
