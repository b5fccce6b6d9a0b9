/-
  The callees of the two laws on hex4: each computes a plain function of bytes and leaves the world as it was.
-/
import Derived.Test.Qxb6618304aRows
import Derived.Test.Qxb6618304aPlain
import Derived.WalkKit
import Derived.WalkSpells
import Derived.WalkLawsBesides
import Derived.RowKit3
namespace Go.Proofs.Qxb6618304a
open Go.RowKit
theorem ret_int {k : IntKind} {a b : Int} (h : a = b) : Ending.returned (.int k a) = .returned (.int k b) := by rw [h]

/-- hexDigitByLookup. -/
theorem look_any (c : Int) (w : World) :
    Calls Try.prog 9 #[.int .u8 c] w fun e w' => e = .returned (.int .i32 (hv c)) ∧ w' = w := by
  go_enter Try.func9, Try.ntmps9
  go_wp2
  go_loop [3] (fun i => ∃ k : Nat, k ≤ 22 ∧ i = .int .i64 k ∧ ∀ j, j < k → dg.getD j 0 ≠ c) (fun i => 22 - (intOf i).toNat)
  case atStart => exact ⟨0, by omega, rfl, fun j hj => absurd hj (by omega)⟩
  case round =>
    obtain ⟨k, hk, rfl, hno⟩ := hrel
    have HN : Hid (∀ j, j < k → dg.getD j 0 ≠ c) := hno
    clear hno
    go_wp2
    · go_ret
      exact ⟨ret_int (hit_lo k c _ (by assumption) (by assumption)), rfl⟩
    · go_ret
      exact ⟨ret_int (hit_hi k c _ (by assumption) (by assumption)), rfl⟩
    · go_round
      case rel => exact ⟨k + 1, by omega, by go_num, miss k c _ (by assumption) HN.out⟩
      case measure => simp [intOf]; omega
    · go_ret
      exact ⟨ret_int (hv_none k c (by assumption) HN.out), rfl⟩

/-- hex4, fewer than four bytes. -/
theorem hex4_short (a : Option Addr) (n cap : Nat) (w : World) (hn : n < 4) :
    Calls Try.prog 10 #[.slice a n cap] w fun e w' => e = .returned (.int .i32 (-1)) ∧ w' = w := by
  go_enter Try.func10, Try.ntmps10
  go_wp2
  go_ret
  exact ⟨rfl, rfl⟩

/-- hex4, four bytes or more. -/
theorem hex4_any (b off n cap : Nat) (z : Nat → Int) (w : World) (hn : 4 ≤ n) (hc : n ≤ cap) (hm : cap ≤ maxLen) (hz : ∀ i, i < 4 → 0 ≤ z i ∧ z i ≤ 255)
    (hcell : ∀ i, i < 4 → w.cell? ⟨b, off + i, none⟩ = some (.int .u8 (z i))) :
    Calls Try.prog 10 #[.slice (some ⟨b, off, none⟩) n cap] w fun e w' => e = .returned (.int .i32 (H4 (z 0) (z 1) (z 2) (z 3))) ∧ w' = w := by
  unfold maxLen at hm
  go_enter Try.func10, Try.ntmps10
  go_wp2
  go_loop [3, 12] (fun r i => ∃ k : Nat, k ≤ 4 ∧ i = .int .i64 k ∧ r = .int .i32 (val z k) ∧ ∀ j, j < k → 0 ≤ hv (z j)) (fun _ i => 4 - (intOf i).toNat)
  case atStart => exact ⟨0, by omega, rfl, rfl, fun j hj => absurd hj (by omega)⟩
  case round =>
    obtain ⟨k, hk, rfl, rfl, hno⟩ := hrel
    obtain ⟨b0, b1, b2⟩ := val_bd z k hk hno
    have HN : Hid (∀ j, j < k → 0 ≤ hv (z j)) := hno
    clear hno
    by_cases hlt : k < 4
    · have hck := hcell k hlt
      obtain ⟨z0, z1⟩ := hz k hlt
      have b3 := b1 hlt
      clear hcell hz b1
      by_cases d1 : 48 ≤ z k ∧ z k ≤ 57
      · obtain ⟨d1, d2⟩ := d1
        have E : Hid (hv (z k) = z k - 48) := hv_dec _ d1 d2
        go_wp2
        go_round
        case rel => exact ⟨k + 1, by omega, by go_num, congrArg (Value.int .i32) (step_val z k _ b0 b2 (by omega) (by omega) E.out), step_all z k HN.out (by rw [E.out]; omega)⟩
        case measure => simp [intOf]; omega
      by_cases e1 : 97 ≤ z k ∧ z k ≤ 102
      · obtain ⟨e1, e2⟩ := e1
        have E : Hid (hv (z k) = z k - 87) := hv_low _ e1 e2
        clear d1
        go_wp2
        go_round
        case rel => exact ⟨k + 1, by omega, by go_num, congrArg (Value.int .i32) (step_val z k _ b0 b2 (by omega) (by omega) E.out), step_all z k HN.out (by rw [E.out]; omega)⟩
        case measure => simp [intOf]; omega
      by_cases f1 : 65 ≤ z k ∧ z k ≤ 70
      · obtain ⟨f1, f2⟩ := f1
        have E : Hid (hv (z k) = z k - 55) := hv_upp _ f1 f2
        clear d1 e1
        go_wp2
        go_round
        case rel => exact ⟨k + 1, by omega, by go_num, congrArg (Value.int .i32) (step_val z k _ b0 b2 (by omega) (by omega) E.out), step_all z k HN.out (by rw [E.out]; omega)⟩
        case measure => simp [intOf]; omega
      · have E : Hid (hv (z k) = -1) := hv_no _ d1 e1 f1
        have D1 : Hid (¬ (48 ≤ z k ∧ z k ≤ 57)) := d1
        have E1 : Hid (¬ (97 ≤ z k ∧ z k ≤ 102)) := e1
        have F1 : Hid (¬ (65 ≤ z k ∧ z k ≤ 70)) := f1
        clear d1 e1 f1
        go_wp2
        all_goals first
          | (exfalso; have x1 := D1.out; have x2 := E1.out; have x3 := F1.out; omega)
          | (go_ret; exact ⟨ret_int (H4_no z k hlt E.out), rfl⟩)
    · go_wp2
      go_ret
      exact ⟨ret_int (val_all z k hk (by omega) HN.out), rfl⟩

/-- ZZhex4 hands on. -/
theorem zz_short (a : Option Addr) (n cap : Nat) (w : World) (hn : n < 4) :
    Calls Try.prog 6 #[.slice a n cap] w fun e w' => e = .returned (.int .i32 (-1)) ∧ w' = w := by
  go_enter Try.func6, Try.ntmps6
  go_wp2_with (go_at_call 10; refine (hex4_short _ _ _ _ hn).mono ?_; rintro e w' ⟨rfl, rfl⟩)
  go_ret
  exact ⟨rfl, rfl⟩
theorem zz_any (b off n cap : Nat) (z : Nat → Int) (w : World) (hn : 4 ≤ n) (hc : n ≤ cap) (hm : cap ≤ maxLen) (hz : ∀ i, i < 4 → 0 ≤ z i ∧ z i ≤ 255)
    (hcell : ∀ i, i < 4 → w.cell? ⟨b, off + i, none⟩ = some (.int .u8 (z i))) :
    Calls Try.prog 6 #[.slice (some ⟨b, off, none⟩) n cap] w fun e w' => e = .returned (.int .i32 (H4 (z 0) (z 1) (z 2) (z 3))) ∧ w' = w := by
  have H := hex4_any b off n cap z w hn hc hm hz hcell
  have HH : Hid (Calls Try.prog 10 #[.slice (some ⟨b, off, none⟩) n cap] w fun e w' => e = .returned (.int .i32 (H4 (z 0) (z 1) (z 2) (z 3))) ∧ w' = w) := H
  clear H hz hcell
  go_enter Try.func6, Try.ntmps6
  go_wp2_with (go_at_call 10; refine HH.out.mono ?_; rintro e w' ⟨rfl, rfl⟩)
  go_ret
  exact ⟨rfl, rfl⟩

/-- hex4PositionalModel, fewer than four bytes. -/
theorem model_short (a : Option Addr) (n cap : Nat) (w : World) (hn : n < 4) :
    Calls Try.prog 7 #[.slice a n cap] w fun e w' => e = .returned (.int .i32 (-1)) ∧ w' = w := by
  go_enter Try.func7, Try.ntmps7
  go_wp2
  go_ret
  exact ⟨rfl, rfl⟩
/-- hex4PositionalModel, four bytes or more. -/
theorem model_any (b off n cap : Nat) (z : Nat → Int) (w : World) (hn : 4 ≤ n)
    (hcell : ∀ i, i < 4 → w.cell? ⟨b, off + i, none⟩ = some (.int .u8 (z i))) :
    Calls Try.prog 7 #[.slice (some ⟨b, off, none⟩) n cap] w fun e w' => e = .returned (.int .i32 (H4 (z 0) (z 1) (z 2) (z 3))) ∧ w' = w := by
  go_enter Try.func7, Try.ntmps7
  go_wp2
  go_loop [3, 4, 5] (fun t u i => ∃ k : Nat, k ≤ 4 ∧ i = .int .i64 k ∧ t = .int .i32 (tot z k) ∧ u = .int .i32 (wt k) ∧ ∀ j, j < k → 0 ≤ hv (z j)) (fun _ _ i => 4 - (intOf i).toNat)
  case atStart => exact ⟨0, by omega, rfl, rfl, rfl, fun j hj => absurd hj (by omega)⟩
  case round =>
    obtain ⟨k, hk, rfl, rfl, rfl, hno⟩ := hrel
    obtain ⟨b0, b1⟩ := tot_bd z k hk hno
    have HN : Hid (∀ j, j < k → 0 ≤ hv (z j)) := hno
    clear hno
    by_cases hlt : k < 4
    · have hck := hcell k hlt
      obtain ⟨r0, r1⟩ := hv_rng (z k)
      clear hcell
      by_cases hneg : hv (z k) < 0
      · have E : Hid (hv (z k) = -1) := by show _ = _; omega
        go_wp2_with (go_at_call 9; refine (look_any _ _).mono ?_; rintro e w' ⟨rfl, rfl⟩)
        go_ret
        exact ⟨ret_int (H4_no z k hlt E.out), rfl⟩
      · have hpos : 0 ≤ hv (z k) := by omega
        obtain ⟨m0, m1⟩ := mul_bd z k hlt hpos
        obtain ⟨q0, q1⟩ := wt_bd k
        clear hneg
        go_wp2_with (go_at_call 9; refine (look_any _ _).mono ?_; rintro e w' ⟨rfl, rfl⟩)
        go_round
        case rel => exact ⟨k + 1, by omega, by go_num, rfl, congrArg (Value.int .i32) (wt_next k hlt), step_all z k HN.out hpos⟩
        case measure => simp [intOf]; omega
    · go_wp2
      go_ret
      exact ⟨ret_int (tot_all z k hk (by omega) HN.out), rfl⟩
end Go.Proofs.Qxb6618304a
