/-
  The front of the two laws: the bound on the length, and the copy that is made of the argument.
-/
import Derived.Test.Qxb6618304aHex
import Derived.Laws.CopyOwn
import Derived.Deep.OwnRows
import Derived.Lib.SliceRun
namespace Go.Proofs.Qxb6618304a
open Go.RowKit

theorem info5 : (Try.prog.info? 5).map (fun i => (i.zero, i.size, i.bytes)) = some (some (.int .u8 0), 1, 1) := by kernel_rfl
theorem size5 : (Try.prog.info? 5).map (·.size) = some 1 := by kernel_rfl

theorem cell_of_row {w : World} {g : Nat} {cs : Array Value} {t : TypeId} {fr : Nat × Nat} (h : w.heap[g]? = some (.cells cs t fr)) (i : Nat) : w.cell? ⟨g, i, none⟩ = cs[i]? := by
  simp [World.cell?, h]

/-- copy(make([]byte, len), s): the new row holds the elements of s; nothing old has turned. -/
theorem copy_made (x : Addr) (len cap : Nat) (zs : List Int) (w : World) (hl : len ≤ zs.length) (hcell : ∀ i, i < zs.length → w.cell? (x.add i) = some (.int .u8 (zs.getD i 0))) :
    ∃ w2, (∀ ty, (Builtin.copy_ #[22, 22] ty #[.slice (some ⟨w.heap.size, 0, none⟩) len len, .slice (some x) len cap]).run Try.prog (w.alloc (.cells (madeCells #[.int .u8 0] len) 5)) = .ok (goInt len) w2) ∧
      (∀ i, i < len → w2.cell? ⟨w.heap.size, i, none⟩ = some (.int .u8 (zs.getD i 0))) ∧ Below w.heap.size w w2 := by
  have hlen : ((zs.take len).map (Value.int .u8)).length = len := by simp; omega
  have hg : (w.alloc (.cells (madeCells #[.int .u8 0] len) 5)).heap[w.heap.size]? = some (.cells (madeCells #[.int .u8 0] len) 5 (0, 0)) := (MapKept.heap_alloc w _).1
  have hsrc : ∀ j v, ((zs.take len).map (Value.int .u8))[j]? = some v → (w.alloc (.cells (madeCells #[.int .u8 0] len) 5)).cell? (x.add j) = some v := by
    intro j v hj
    have hjl : j < len := by
      have := (List.getElem?_eq_some_iff.1 hj).1
      omega
    have e := hcell j (by omega)
    refine Lib.cell?_alloc_some _ (e.trans ?_)
    simp [hjl] at hj
    obtain ⟨a, ha, rfl⟩ := hj
    simp [List.getD, ha]
  have hrun := fun ty => run_copy_row Try.prog (w.alloc (.cells (madeCells #[.int .u8 0] len) 5)) 22 22 ty 5 w.heap.size 0 len len x len cap _ 5 ((zs.take len).map (Value.int .u8)) Try.underlying22 size5 hg
    (by rw [hlen]; exact (Nat.min_self len).symm) hsrc (by rw [hlen, size_madeCells]; omega) (ints_oneCell _ _)
  rw [hlen] at hrun
  refine ⟨_, hrun, ?_, below_setRow ((Below.refl _ w).alloc (Nat.le_refl _) _) (Nat.le_refl _) _⟩
  intro i hi
  refine (cell_of_row (setRow_heap (w.alloc (.cells (madeCells #[.int .u8 0] len) 5)) w.heap.size _ _ 5 (0, 0) hg) i).trans ?_
  have hiz : i < zs.length := by omega
  simp [List.getElem?_append, hi, hiz]
  intro hmin
  omega

theorem byte_bd {zs : List Int} (hwf : ∀ n ∈ zs, (Lit.int .u8 n).wf = true) (i : Nat) : 0 ≤ zs.getD i 0 ∧ zs.getD i 0 ≤ 255 := by
  by_cases h : i < zs.length
  · have e : zs.getD i 0 = zs[i] := by simp [List.getD, h]
    have k := hwf zs[i] (List.getElem_mem h)
    rw [e]
    simp [Lit.wf, IntKind.min, IntKind.max, IntKind.signed, IntKind.bits] at k
    omega
  · have e : zs.getD i 0 = 0 := by simp [List.getD, List.getElem?_eq_none (Nat.le_of_not_lt h)]
    rw [e]; omega

theorem bytes5_yes (a : Option Addr) (n cap : Nat) (w : World) (hn : n ≤ 1048576) : Calls Try.prog 5 #[.slice a n cap] w fun e w' => e = .returned (.bool true) ∧ w' = w := by
  go_enter Try.func5, Try.ntmps5
  go_wp2
  go_ret
  exact ⟨rfl, rfl⟩
theorem bytes5_no (a : Option Addr) (n cap : Nat) (w : World) (hn : ¬ n ≤ 1048576) : Calls Try.prog 5 #[.slice a n cap] w fun e w' => e = .returned (.bool false) ∧ w' = w := by
  go_enter Try.func5, Try.ntmps5
  go_wp2
  go_ret
  exact ⟨rfl, rfl⟩
theorem bytes8_yes (a : Option Addr) (n cap : Nat) (w : World) (hn : n ≤ 1048576) : Calls Try.prog 8 #[.slice a n cap] w fun e w' => e = .returned (.bool true) ∧ w' = w := by
  go_enter Try.func8, Try.ntmps8
  go_wp2
  go_ret
  exact ⟨rfl, rfl⟩
theorem bytes8_no (a : Option Addr) (n cap : Nat) (w : World) (hn : ¬ n ≤ 1048576) : Calls Try.prog 8 #[.slice a n cap] w fun e w' => e = .returned (.bool false) ∧ w' = w := by
  go_enter Try.func8, Try.ntmps8
  go_wp2
  go_ret
  exact ⟨rfl, rfl⟩
end Go.Proofs.Qxb6618304a
