/-
  zzCopyBytes: a fresh copy of b[:n]; nil stays nil.
-/
import Derived.Test.Qxb6616744aShape
import Derived.Deep.OwnRows
import Derived.Lib.SliceRun
import Derived.Laws.MakeOwn
namespace Go.Proofs.Qxb6616744a
open Go.RowKit

theorem info5 : (Try.prog.info? 5).map (fun i => (i.zero, i.size, i.bytes)) = some (some (.int .u8 0), 1, 1) := by kernel_rfl

theorem copy_nil (m : Int) (w : World) : Calls Try.prog 5 #[.slice none 0 0, .int .i64 m] w fun e w' => e = .returned (.slice none 0 0) ∧ w' = w := by
  have hnil := Lib.run_eql_slice_nil (P := Try.prog) w 22 5 none 0 0 0 0 Try.underlying22
  go_enter Try.func5, Try.ntmps5
  go_wp2
  go_ret
  exact ⟨rfl, rfl⟩

/-- One round: cell k of the new row is filled. -/
theorem fill_step {wr : World} {g m k : Nat} {cs : Array Value} {z : Nat → Int} (hrow : wr.heap[g]? = some (.cells cs 5 (0, 0))) (hcs : cs.size = m) (hk : k < m) (hfill : ∀ i, i < k → cs[i]? = some (.int .u8 (z i))) :
    ∃ cs' : Array Value, cs'.size = m ∧ (wr.setCell ⟨g, k, none⟩ (.int .u8 (z k))).heap[g]? = some (.cells cs' 5 (0, 0)) ∧ ∀ i, i < k + 1 → cs'[i]? = some (.int .u8 (z i)) := by
  refine ⟨cs.setIfInBounds k (.int .u8 (z k)), by simp [hcs], ?_, ?_⟩
  · rw [setCell_eq_setRow wr g k cs 5 (0, 0) _ hrow]
    exact setRow_heap wr g cs _ 5 (0, 0) hrow
  · intro i hi
    by_cases e : i = k
    · subst e
      simp [hcs, hk]
    · have e' : k ≠ i := fun h => e h.symm
      rw [Array.getElem?_setIfInBounds_ne e']
      exact hfill i (by omega)

theorem plain_add (b off k : Nat) : (⟨b, off, none⟩ : Addr).add k = ⟨b, off + k, none⟩ := by
  unfold Addr.add; split <;> simp_all
theorem lt_of_cell {w : World} {p : Addr} {v : Value} (h : w.cell? p = some v) : p.block < w.heap.size := by
  refine Nat.lt_of_not_le fun hle => ?_
  have e : w.heap[p.block]? = none := by simp [hle]
  simp [World.cell?, e] at h

theorem copy_some (x : Addr) (len cap m : Nat) (z : Nat → Int) (w : World) (hm : m ≤ len) (hl : len ≤ 1048576) (hcell : ∀ i, i < m → w.cell? (x.add i) = some (.int .u8 (z i))) :
    Calls Try.prog 5 #[.slice (some x) len cap, .int .i64 m] w fun e w' =>
      e = .returned (.slice (some ⟨w.heap.size, 0, none⟩) m m) ∧ (∃ cs : Array Value, w'.heap[w.heap.size]? = some (.cells cs 5 (0, 0)) ∧ ∀ i, i < m → cs[i]? = some (.int .u8 (z i))) ∧ Below w.heap.size w w' := by
  have hnil := Lib.run_eql_slice_nil (P := Try.prog) w 22 5 (some x) len cap 0 0 Try.underlying22
  have hmk := run_make_row' (P := Try.prog) 22 5 (.int .u8 0) 1 Try.underlying22 info5 rfl .i64 .i64 m (by omega) (by omega)
  have HC : Hid (∀ i, i < m → w.cell? (x.add i) = some (.int .u8 (z i))) := hcell
  clear hcell
  go_enter Try.func5, Try.ntmps5
  go_wp2
  go_loopw [6] (fun j wr => ∃ k : Nat, k ≤ m ∧ j = .int .i64 k ∧ (∃ cs : Array Value, cs.size = m ∧ wr.heap[w.heap.size]? = some (.cells cs 5 (0, 0)) ∧ ∀ i, i < k → cs[i]? = some (.int .u8 (z i))) ∧ Below w.heap.size w wr) (fun j _ => m - (intOf j).toNat)
  case atStart => exact ⟨0, by omega, rfl, ⟨madeCells #[.int .u8 0] m, size_madeCells _ _, (MapKept.heap_alloc w _).1, fun i hi => absurd hi (by omega)⟩, (Below.refl _ w).alloc (Nat.le_refl _) _⟩
  case round =>
    obtain ⟨k, hk, rfl, ⟨cs, hcs, hrow, hfill⟩, hbel⟩ := hrel
    have HR : Hid (wr.heap[w.heap.size]? = some (.cells cs 5 (0, 0))) := hrow
    have HF : Hid (∀ i, i < k → cs[i]? = some (.int .u8 (z i))) := hfill
    have HS : Hid (cs.size = m) := hcs
    by_cases hlt : k < m
    · obtain ⟨b, off, spot⟩ := x
      have h1 := HC.out k hlt
      have hspot : spot = none := by simpa [Addr.add] using World.cell?_spot (HC.out 0 (by omega))
      subst hspot
      have e1 : (⟨b, off, none⟩ : Addr).add k = ⟨b, off + k, none⟩ := plain_add b off k
      rw [e1] at h1
      have hsrc : wr.cell? ⟨b, off + k, none⟩ = some (.int .u8 (z k)) := (hbel.cell (p := ⟨b, off + k, none⟩) (lt_of_cell h1)).trans h1
      have hkc : k < cs.size := by omega
      obtain ⟨v0, hv0⟩ : ∃ v, wr.cell? ⟨w.heap.size, k, none⟩ = some v := ⟨cs[k], by rw [cell_of_row hrow]; simp [hkc]⟩
      have hfro := frozen_of_row hrow k
      clear hrow hfill hcs h1 e1 hkc
      go_wp2
      go_roundw
      case rel => exact ⟨k + 1, by omega, by go_num, fill_step HR.out HS.out hlt HF.out, hbel.setCell (Nat.le_refl _) _⟩
      case measure => simp [intOf]; omega
    · clear hrow hfill hcs
      go_wp2
      go_ret
      exact ⟨rfl, ⟨cs, HR.out, fun i hi => HF.out i (by omega)⟩, hbel⟩
end Go.Proofs.Qxb6616744a
