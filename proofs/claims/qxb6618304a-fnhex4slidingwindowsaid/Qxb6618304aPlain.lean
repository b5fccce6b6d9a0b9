/-
  The plain arithmetic of hexadecimal digits (no Go in sight).
-/
import Derived.RowKit
import Derived.Laws.BitsAllLaws
import Derived.Laws.BitsLemmas
namespace Go.Proofs.Qxb6618304a
open Go.RowKit

/-- The value of a byte as a hexadecimal digit; -1 where it is none. -/
def hv (c : Int) : Int := if 48 ≤ c ∧ c ≤ 57 then c - 48 else if 97 ≤ c ∧ c ≤ 102 then c - 87 else if 65 ≤ c ∧ c ≤ 70 then c - 55 else -1
/-- The alphabet table. -/
def dg : List Int := [48, 49, 50, 51, 52, 53, 54, 55, 56, 57, 97, 98, 99, 100, 101, 102, 65, 66, 67, 68, 69, 70]

theorem dig_fin : ∀ k : Fin 22, (((⟨#[48, 49, 50, 51, 52, 53, 54, 55, 56, 57, 97, 98, 99, 100, 101, 102, 65, 66, 67, 68, 69, 70]⟩ : ByteArray)[k.val]'k.isLt).toNat : Int) = dg.getD k.val 0 := by decide
theorem dig_at (k : Nat) (hk : k < (⟨#[48, 49, 50, 51, 52, 53, 54, 55, 56, 57, 97, 98, 99, 100, 101, 102, 65, 66, 67, 68, 69, 70]⟩ : ByteArray).size) :
    (((⟨#[48, 49, 50, 51, 52, 53, 54, 55, 56, 57, 97, 98, 99, 100, 101, 102, 65, 66, 67, 68, 69, 70]⟩ : ByteArray)[k]).toNat : Int) = dg.getD k 0 := dig_fin ⟨k, hk⟩
theorem hv_dg : ∀ k : Fin 22, hv (dg.getD k.val 0) = if k.val < 16 then (k.val : Int) else (k.val : Int) - 6 := by decide

/-- The round finds the digit in the first sixteen places. -/
theorem hit_lo (k : Nat) (c : Int) (hk : k < (⟨#[48, 49, 50, 51, 52, 53, 54, 55, 56, 57, 97, 98, 99, 100, 101, 102, 65, 66, 67, 68, 69, 70]⟩ : ByteArray).size)
    (h : (((⟨#[48, 49, 50, 51, 52, 53, 54, 55, 56, 57, 97, 98, 99, 100, 101, 102, 65, 66, 67, 68, 69, 70]⟩ : ByteArray)[k].toNat : Int) == c) = true) (h16 : (k : Int) < 16) : (k : Int) = hv c := by
  rw [dig_at k hk, beq_iff_eq] at h
  rw [← h]
  have := hv_dg ⟨k, hk⟩
  simp only at this
  rw [this, if_pos (by omega)]
/-- .. or behind them. -/
theorem hit_hi (k : Nat) (c : Int) (hk : k < (⟨#[48, 49, 50, 51, 52, 53, 54, 55, 56, 57, 97, 98, 99, 100, 101, 102, 65, 66, 67, 68, 69, 70]⟩ : ByteArray).size)
    (h : (((⟨#[48, 49, 50, 51, 52, 53, 54, 55, 56, 57, 97, 98, 99, 100, 101, 102, 65, 66, 67, 68, 69, 70]⟩ : ByteArray)[k].toNat : Int) == c) = true) (h16 : 16 ≤ (k : Int)) : (k : Int) - 6 = hv c := by
  rw [dig_at k hk, beq_iff_eq] at h
  rw [← h]
  have := hv_dg ⟨k, hk⟩
  simp only at this
  rw [this, if_neg (by omega)]
theorem miss (k : Nat) (c : Int) (hk : k < (⟨#[48, 49, 50, 51, 52, 53, 54, 55, 56, 57, 97, 98, 99, 100, 101, 102, 65, 66, 67, 68, 69, 70]⟩ : ByteArray).size)
    (h : (((⟨#[48, 49, 50, 51, 52, 53, 54, 55, 56, 57, 97, 98, 99, 100, 101, 102, 65, 66, 67, 68, 69, 70]⟩ : ByteArray)[k].toNat : Int) == c) = false) (hn : ∀ j, j < k → dg.getD j 0 ≠ c) : ∀ j, j < k + 1 → dg.getD j 0 ≠ c := by
  rw [dig_at k hk, beq_eq_false_iff_ne] at h
  intro j hj
  by_cases e : j = k
  · rw [e]; exact h
  · exact hn j (by omega)
theorem hv_none (k : Nat) (c : Int) (hk : 22 ≤ (k : Int)) (hn : ∀ j, j < k → dg.getD j 0 ≠ c) : -1 = hv c := by
  have h0 := hn 0 (by omega); have h1 := hn 1 (by omega); have h2 := hn 2 (by omega); have h3 := hn 3 (by omega); have h4 := hn 4 (by omega)
  have h5 := hn 5 (by omega); have h6 := hn 6 (by omega); have h7 := hn 7 (by omega); have h8 := hn 8 (by omega); have h9 := hn 9 (by omega)
  have h10 := hn 10 (by omega); have h11 := hn 11 (by omega); have h12 := hn 12 (by omega); have h13 := hn 13 (by omega); have h14 := hn 14 (by omega)
  have h15 := hn 15 (by omega); have h16 := hn 16 (by omega); have h17 := hn 17 (by omega); have h18 := hn 18 (by omega); have h19 := hn 19 (by omega)
  have h20 := hn 20 (by omega); have h21 := hn 21 (by omega)
  simp only [dg, List.getD_cons_zero, List.getD_cons_succ] at h0 h1 h2 h3 h4 h5 h6 h7 h8 h9 h10 h11 h12 h13 h14 h15 h16 h17 h18 h19 h20 h21
  unfold hv
  repeat' split
  all_goals omega
theorem hv_rng (c : Int) : -1 ≤ hv c ∧ hv c ≤ 15 := by
  unfold hv
  repeat' split
  all_goals omega
theorem hv_dec (c : Int) (h1 : 48 ≤ c) (h2 : c ≤ 57) : hv c = c - 48 := by unfold hv; rw [if_pos ⟨h1, h2⟩]
theorem hv_low (c : Int) (h1 : 97 ≤ c) (h2 : c ≤ 102) : hv c = c - 87 := by unfold hv; rw [if_neg (by omega), if_pos ⟨h1, h2⟩]
theorem hv_upp (c : Int) (h1 : 65 ≤ c) (h2 : c ≤ 70) : hv c = c - 55 := by unfold hv; rw [if_neg (by omega), if_neg (by omega), if_pos ⟨h1, h2⟩]
theorem hv_no (c : Int) (h1 : ¬ (48 ≤ c ∧ c ≤ 57)) (h2 : ¬ (97 ≤ c ∧ c ≤ 102)) (h3 : ¬ (65 ≤ c ∧ c ≤ 70)) : hv c = -1 := by unfold hv; rw [if_neg h1, if_neg h2, if_neg h3]

/-! ### Four digits -/
def H4 (a b c d : Int) : Int := if 0 ≤ hv a ∧ 0 ≤ hv b ∧ 0 ≤ hv c ∧ 0 ≤ hv d then ((hv a * 16 + hv b) * 16 + hv c) * 16 + hv d else -1
def val (z : Nat → Int) : Nat → Int
  | 0 => 0
  | k + 1 => val z k * 16 + hv (z k)

theorem val_bd (z : Nat → Int) (k : Nat) (hk : k ≤ 4) (h : ∀ j, j < k → 0 ≤ hv (z j)) : 0 ≤ val z k ∧ (k < 4 → val z k ≤ 4095) ∧ val z k ≤ 65535 := by
  have r0 := hv_rng (z 0); have r1 := hv_rng (z 1); have r2 := hv_rng (z 2); have r3 := hv_rng (z 3)
  match k, hk with
  | 0, _ => simp [val]
  | 1, _ => have h0 := h 0 (by omega); simp only [val]; omega
  | 2, _ => have h0 := h 0 (by omega); have h1 := h 1 (by omega); simp only [val]; omega
  | 3, _ => have h0 := h 0 (by omega); have h1 := h 1 (by omega); have h2 := h 2 (by omega); simp only [val]; omega
  | 4, _ => have h0 := h 0 (by omega); have h1 := h 1 (by omega); have h2 := h 2 (by omega); have h3 := h 3 (by omega); simp only [val]; omega
theorem val_all (z : Nat → Int) (k : Nat) (hk : k ≤ 4) (h4 : 4 ≤ (k : Int)) (h : ∀ j, j < k → 0 ≤ hv (z j)) : val z k = H4 (z 0) (z 1) (z 2) (z 3) := by
  obtain rfl : k = 4 := by omega
  unfold H4
  rw [if_pos ⟨h 0 (by omega), h 1 (by omega), h 2 (by omega), h 3 (by omega)⟩]
  simp only [val]; omega
theorem H4_no (z : Nat → Int) (k : Nat) (hk : k < 4) (h : hv (z k) = -1) : -1 = H4 (z 0) (z 1) (z 2) (z 3) := by
  unfold H4
  rw [if_neg]
  match k, hk with
  | 0, _ => omega
  | 1, _ => omega
  | 2, _ => omega
  | 3, _ => omega
theorem H4_rng (a b c d : Int) : -1 ≤ H4 a b c d ∧ H4 a b c d ≤ 65535 := by
  have r0 := hv_rng a; have r1 := hv_rng b; have r2 := hv_rng c; have r3 := hv_rng d
  unfold H4; split <;> omega

theorem i32_or16 (R d : Int) (h0 : 0 ≤ R) (h1 : R ≤ 65535) (h2 : 0 ≤ d) (h3 : d ≤ 15) : bits .or .i32 (R * 16) d = R * 16 + d := by
  obtain ⟨A, rfl⟩ := Int.eq_ofNat_of_zero_le h0
  obtain ⟨B, rfl⟩ := Int.eq_ofNat_of_zero_le h2
  have e : ((A : Int) * 16) = ((A * 16 : Nat) : Int) := by omega
  rw [e]
  show IntKind.i32.wrap ((BitVec.ofInt 32 ((A * 16 : Nat) : Int) ||| BitVec.ofInt 32 (B : Int)).toNat : Int) = _
  rw [BitVec.toNat_or, ofInt_u32 (A * 16) (by omega), ofInt_u32 B (by omega), nat_join 4 (A * 16) B (by omega) (by omega), IntKind.wrap_i32]
  omega
theorem i32_and12 (R : Int) (h0 : 0 ≤ R) (h1 : R ≤ 65535) : bits .and .i32 R 4095 = R % 4096 := by
  obtain ⟨A, rfl⟩ := Int.eq_ofNat_of_zero_le h0
  show IntKind.i32.wrap ((BitVec.ofInt 32 (A : Int) &&& BitVec.ofInt 32 ((4095 : Nat) : Int)).toNat : Int) = _
  rw [BitVec.toNat_and, ofInt_u32 A (by omega), ofInt_u32 4095 (by omega), nat_mask12, IntKind.wrap_i32]
  omega

/-- The round's sum, digit by digit. -/
theorem step_val (z : Nat → Int) (k : Nat) (d : Int) (h0 : 0 ≤ val z k) (h1 : val z k ≤ 65535) (h2 : 0 ≤ d) (h3 : d ≤ 15) (h : hv (z k) = d) : bits .or .i32 (val z k * 16) d = val z (k + 1) := by
  rw [i32_or16 _ _ h0 h1 h2 h3]; simp only [val, h]
theorem step_all (z : Nat → Int) (k : Nat) (h : ∀ j, j < k → 0 ≤ hv (z j)) (hk : 0 ≤ hv (z k)) : ∀ j, j < k + 1 → 0 ≤ hv (z j) := by
  intro j hj
  by_cases e : j = k
  · rw [e]; exact hk
  · exact h j (by omega)

/-! ### The positional sum -/
def wt : Nat → Int
  | 0 => 4096
  | 1 => 256
  | 2 => 16
  | 3 => 1
  | _ => 0
def tot (z : Nat → Int) : Nat → Int
  | 0 => 0
  | k + 1 => tot z k + hv (z k) * wt k
theorem wt_bd (k : Nat) : 0 ≤ wt k ∧ wt k ≤ 4096 := by
  match k with
  | 0 => decide
  | 1 => decide
  | 2 => decide
  | 3 => decide
  | _ + 4 => simp [wt]
theorem wt_next (k : Nat) (h : k < 4) : wt k / 16 = wt (k + 1) := by
  match k, h with
  | 0, _ => decide
  | 1, _ => decide
  | 2, _ => decide
  | 3, _ => decide
theorem mul_bd (z : Nat → Int) (k : Nat) (hk : k < 4) (h : 0 ≤ hv (z k)) : 0 ≤ hv (z k) * wt k ∧ hv (z k) * wt k ≤ 61440 := by
  have r := hv_rng (z k)
  match k, hk with
  | 0, _ => simp only [wt]; omega
  | 1, _ => simp only [wt]; omega
  | 2, _ => simp only [wt]; omega
  | 3, _ => simp only [wt]; omega
theorem tot_all (z : Nat → Int) (k : Nat) (hk : k ≤ 4) (h4 : 4 ≤ (k : Int)) (h : ∀ j, j < k → 0 ≤ hv (z j)) : tot z k = H4 (z 0) (z 1) (z 2) (z 3) := by
  obtain rfl : k = 4 := by omega
  unfold H4
  rw [if_pos ⟨h 0 (by omega), h 1 (by omega), h 2 (by omega), h 3 (by omega)⟩]
  simp only [tot, wt]; omega
theorem tot_bd (z : Nat → Int) (k : Nat) (hk : k ≤ 4) (h : ∀ j, j < k → 0 ≤ hv (z j)) : 0 ≤ tot z k ∧ tot z k ≤ 65535 := by
  have r0 := hv_rng (z 0); have r1 := hv_rng (z 1); have r2 := hv_rng (z 2); have r3 := hv_rng (z 3)
  match k, hk with
  | 0, _ => simp [tot]
  | 1, _ => have h0 := h 0 (by omega); simp only [tot, wt]; omega
  | 2, _ => have h0 := h 0 (by omega); have h1 := h 1 (by omega); simp only [tot, wt]; omega
  | 3, _ => have h0 := h 0 (by omega); have h1 := h 1 (by omega); have h2 := h 2 (by omega); simp only [tot, wt]; omega
  | 4, _ => have h0 := h 0 (by omega); have h1 := h 1 (by omega); have h2 := h 2 (by omega); have h3 := h 3 (by omega); simp only [tot, wt]; omega

/-! ### The window one byte on -/
theorem slide_yes (a b c d e : Int) (h : 0 ≤ H4 a b c d) (he : 0 ≤ hv e) : H4 b c d e = H4 a b c d % 4096 * 16 + hv e := by
  have r0 := hv_rng a; have r1 := hv_rng b; have r2 := hv_rng c; have r3 := hv_rng d
  by_cases k : 0 ≤ hv a ∧ 0 ≤ hv b ∧ 0 ≤ hv c ∧ 0 ≤ hv d
  · unfold H4
    rw [if_pos k, if_pos ⟨k.2.1, k.2.2.1, k.2.2.2, he⟩]
    obtain ⟨k0, k1, k2, k3⟩ := k
    omega
  · unfold H4 at h; rw [if_neg k] at h; omega
theorem slide_no (b c d e : Int) (he : hv e < 0) : H4 b c d e = -1 := by
  unfold H4; rw [if_neg (by omega)]
theorem slide_first (a b c d e : Int) (h : H4 a b c d < 0) (he : 0 ≤ H4 b c d e) : hv a < 0 := by
  unfold H4 at h he
  by_cases k : 0 ≤ hv b ∧ 0 ≤ hv c ∧ 0 ≤ hv d ∧ 0 ≤ hv e
  · by_cases q : 0 ≤ hv a ∧ 0 ≤ hv b ∧ 0 ≤ hv c ∧ 0 ≤ hv d
    · rw [if_pos q] at h; omega
    · omega
  · rw [if_neg k] at he; omega
end Go.Proofs.Qxb6618304a
