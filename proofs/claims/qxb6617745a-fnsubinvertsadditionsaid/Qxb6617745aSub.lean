/-
  The callees of the two laws over uint128.sub: each computes a plain function of integers.
-/
import Derived.Test.Qxb6617745aRows
import Derived.Test.Qxb6617745aPlain
import Derived.WalkKit
import Derived.WalkSpells
import Derived.StillTactics
import Derived.Laws.Pointers
import Derived.RowKit3
import Derived.Deep.QuietTactic
import Derived.BigQuiet
namespace Go.Proofs.Qxb6617745a
open Go.RowKit

theorem grown_trans {a b c : World} (h : Grown a b) (k : Grown b c) : Grown a c :=
  ⟨World.keptBut_trans h.1 (World.keptBut_mono (fun _ f => f) k.1), fun x => (k.2.1 x).trans (h.2.1 x), Nat.le_trans h.2.2 k.2.2⟩

theorem sub_any (xh xl yh yl : Int) (w : World) :
    Calls Try.prog 8 #[.agg #[.int .u64 xh, .int .u64 xl], .agg #[.int .u64 yh, .int .u64 yl]] w fun e w' =>
      e = .returned (.agg #[.int .u64 (sHi xh xl yh yl), .int .u64 (sLo xl yl)]) ∧ ∃ c1 c2 c3 : Array Value, w' = ((w.alloc (.cells c1 30)).alloc (.cells c2 30)).alloc (.cells c3 30) := by
  unfold sHi sLo
  by_cases h : xl < yl
  · rw [if_pos h]
    go_enter Try.func8, Try.ntmps8
    go_wp2
    simp [bodyPost, results, Try.results8, go_sem]
    exact ⟨_, _, _, rfl⟩
  · rw [if_neg h]
    go_enter Try.func8, Try.ntmps8
    go_wp2
    simp [bodyPost, results, Try.results8, go_sem]
    exact ⟨_, _, _, rfl⟩

theorem add_any (ah al bh bl : Int) (w : World) :
    Calls Try.prog 6 #[.int .u64 ah, .int .u64 al, .int .u64 bh, .int .u64 bl] w fun e w' =>
      e = .returned (.tuple #[.int .u64 (aHi ah al bh bl), .int .u64 (aLo al bl), .bool (aC ah al bh bl)]) ∧ w' = w := by
  unfold aC aHi aLo
  by_cases h : IntKind.u64.wrap (al + bl) < al
  · rw [if_pos h]
    by_cases h2 : IntKind.u64.wrap (ah + bh) < ah
    · go_enter Try.func6, Try.ntmps6
      go_wp2
      go_ret3
      exact ⟨by simp [h2], rfl⟩
    · go_enter Try.func6, Try.ntmps6
      go_wp2
      go_ret3
      exact ⟨by simp; intro h3; omega, rfl⟩
  · rw [if_neg h]
    by_cases h2 : IntKind.u64.wrap (ah + bh) < ah
    · go_enter Try.func6, Try.ntmps6
      go_wp2
      go_ret3
      exact ⟨by simp, rfl⟩
    · go_enter Try.func6, Try.ntmps6
      go_wp2
      go_ret3
      exact ⟨by simp; intro h3; omega, rfl⟩

theorem less_any (ah al bh bl : Int) (w : World) :
    Calls Try.prog 7 #[.int .u64 ah, .int .u64 al, .int .u64 bh, .int .u64 bl] w fun e w' =>
      e = .returned (.bool (ltB ah al bh bl)) ∧ w' = w := by
  unfold ltB
  by_cases h : ah = bh
  · subst h
    go_enter Try.func7, Try.ntmps7
    go_wp2
    go_ret
    exact ⟨by simp, rfl⟩
  · rw [if_neg h]
    go_enter Try.func7, Try.ntmps7
    go_wp2
    go_ret
    exact ⟨rfl, rfl⟩

theorem zzsub_any (xh xl yh yl : Int) (w : World) :
    Calls Try.prog 5 #[.int .u64 xh, .int .u64 xl, .int .u64 yh, .int .u64 yl] w fun e w' =>
      e = .returned (.tuple #[.int .u64 (sHi xh xl yh yl), .int .u64 (sLo xl yl)]) ∧ Grown w w' := by
  go_enter Try.func5, Try.ntmps5
  go_wp2_with (go_at_call 8; refine (sub_any _ _ _ _ _).mono ?_; rintro e w' ⟨rfl, c1, c2, c3, rfl⟩)
  go_quiet (fail)
  go_wp2
  go_ret2
  exact ⟨rfl, by repeat (first | exact Grown.refl _ | apply Grown.drew | apply Grown.alloc)⟩
end Go.Proofs.Qxb6617745a
