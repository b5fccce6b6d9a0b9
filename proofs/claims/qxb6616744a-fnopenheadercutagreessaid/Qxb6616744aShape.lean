/-
  The callees of the law on openHeader: the shape behind a pointer (one block of eleven cells), made, opened and read; the header's step; the bound on the length.
-/
import Derived.Test.Qxb6616744aRows
import Derived.WalkKit
import Derived.WalkSpells
import Derived.WalkLawsBesides
import Derived.RowKit3
import Derived.StillTactics
import Derived.Laws.Pointers
import Derived.Laws.Tables
import Derived.Deep.QuietTactic
import Derived.BigQuiet
namespace Go.Proofs.Qxb6616744a
open Go.RowKit

/-- The cells of a shape: text, i, line, open, section (two), cur (two), key, header, start. -/
def shp (a : Option Addr) (n c : Nat) (i line cd cl : Int) (key : Bool) (hd : Int) (st : Bool) : Array Value :=
  #[.slice a n c, .int .i64 i, .int .i64 line, .slice none 0 0, .int .i64 0, .int .i64 0, .int .i64 cd, .int .i64 cl, .bool key, .int .i64 hd, .bool st]

theorem cell_of_row {w : World} {g : Nat} {cs : Array Value} {t : TypeId} {fr : Nat × Nat} (h : w.heap[g]? = some (.cells cs t fr)) (i : Nat) : w.cell? ⟨g, i, none⟩ = cs[i]? := by
  simp [World.cell?, h]
theorem frozen_of_row {w : World} {g : Nat} {cs : Array Value} {t : TypeId} (h : w.heap[g]? = some (.cells cs t (0, 0))) (i : Nat) : w.frozen? ⟨g, i, none⟩ = false := by
  simp [World.frozen?, h]

/-- w' is w but for block g, which is now the row cs. -/
structure After (g : Nat) (w w' : World) (cs : Array Value) : Prop where
  row : w'.heap[g]? = some (.cells cs 35 (0, 0))
  rest : ∀ k, k ≠ g → w'.heap[k]? = w.heap[k]?
  size : w'.heap.size = w.heap.size
  os : w'.os = w.os
  tape : w'.tape = w.tape
  output : w'.output = w.output

theorem After.start {g : Nat} {w : World} {cs : Array Value} (h : w.heap[g]? = some (.cells cs 35 (0, 0))) : After g w w cs := ⟨h, fun _ _ => rfl, rfl, rfl, rfl, rfl⟩
theorem After.put {g : Nat} {w w' : World} {cs : Array Value} (h : After g w w' cs) (o : Nat) (v : Value) (cs' : Array Value) (e : cs.setIfInBounds o v = cs') : After g w (w'.setCell ⟨g, o, none⟩ v) cs' := by
  rw [setCell_eq_setRow w' g o cs 35 (0, 0) v h.row, e]
  exact ⟨setRow_heap w' g cs cs' 35 (0, 0) h.row, fun k hk => (setRow_other w' g k cs' hk).trans (h.rest k hk), by rw [← h.size]; simp [World.setRow], h.os, h.tape, h.output⟩
theorem After.drewN {g : Nat} {w w' : World} {cs : Array Value} (h : After g w w' cs) (n : Nat) : After g w (w'.drewN n) cs := ⟨h.row, h.rest, h.size, h.os, h.tape, h.output⟩
theorem After.below {g B : Nat} {w0 w w' : World} {cs : Array Value} (h : After g w w' cs) (hb : Below B w0 w) (hB : B ≤ g) : Below B w0 w' :=
  hb.trans ⟨h.os, h.tape, h.output, Nat.le_of_eq h.size.symm, fun k hk => h.rest k (by omega)⟩

/-- openHeader reads a second bracket. -/
theorem open_go (g b off n c i : Nat) (line cd cl : Int) (key : Bool) (hd : Int) (st : Bool) (z : Int) (w : World) (hg : w.heap[g]? = some (.cells (shp (some ⟨b, off, none⟩) n c i line cd cl key hd st) 35 (0, 0)))
    (hi : i < n) (hn : n ≤ 1048576) (hne : b ≠ g) (hcell : w.cell? ⟨b, off + i, none⟩ = some (.int .u8 z)) (hz : (z == 91) = true) :
    Calls Try.prog 10 #[.pointer (some ⟨g, 0, none⟩)] w fun e w' => e = .returned (.tuple #[]) ∧ After g w w' (shp (some ⟨b, off, none⟩) n c ((i : Int) + 1) line 0 0 true 2 st) := by
  have hf := frozen_of_row hg
  have c0 : w.cell? ⟨g, 0, none⟩ = some (.slice (some ⟨b, off, none⟩) n c) := cell_of_row hg 0
  have c1 : w.cell? ⟨g, 1, none⟩ = some (.int .i64 i) := cell_of_row hg 1
  have c6 : w.cell? ⟨g, 6, none⟩ = some (.int .i64 cd) := cell_of_row hg 6
  have c7 : w.cell? ⟨g, 7, none⟩ = some (.int .i64 cl) := cell_of_row hg 7
  have c8 : w.cell? ⟨g, 8, none⟩ = some (.bool key) := cell_of_row hg 8
  have c9 : w.cell? ⟨g, 9, none⟩ = some (.int .i64 hd) := cell_of_row hg 9
  have hii : (i : Int) < (n : Int) := by omega
  have H : Hid (w.heap[g]? = some (.cells (shp (some ⟨b, off, none⟩) n c i line cd cl key hd st) 35 (0, 0))) := hg
  clear hg
  go_enter Try.func10, Try.ntmps10
  go_wp2
  go_quiet (fail)
  go_wp2
  go_end0
  exact ⟨rfl, ((((((After.start H.out).put 9 (.int .i64 1) _ rfl).drewN _).put 1 (.int .i64 ((i : Int) + 1)) _ rfl).put 9 (.int .i64 2) _ rfl).put 6 (.int .i64 0) _ rfl).put 7 (.int .i64 0) _ rfl |>.put 8 (.bool true) _ rfl⟩

/-- openHeader stays: there is a byte, and it is no bracket. -/
theorem open_no (g b off n c i : Nat) (line cd cl : Int) (key : Bool) (hd : Int) (st : Bool) (z : Int) (w : World) (hg : w.heap[g]? = some (.cells (shp (some ⟨b, off, none⟩) n c i line cd cl key hd st) 35 (0, 0)))
    (hi : i < n) (hne : b ≠ g) (hcell : w.cell? ⟨b, off + i, none⟩ = some (.int .u8 z)) (hz : (z == 91) = false) :
    Calls Try.prog 10 #[.pointer (some ⟨g, 0, none⟩)] w fun e w' => e = .returned (.tuple #[]) ∧ After g w w' (shp (some ⟨b, off, none⟩) n c i line 0 0 true 1 st) := by
  have hf := frozen_of_row hg
  have c0 : w.cell? ⟨g, 0, none⟩ = some (.slice (some ⟨b, off, none⟩) n c) := cell_of_row hg 0
  have c1 : w.cell? ⟨g, 1, none⟩ = some (.int .i64 i) := cell_of_row hg 1
  have c6 : w.cell? ⟨g, 6, none⟩ = some (.int .i64 cd) := cell_of_row hg 6
  have c7 : w.cell? ⟨g, 7, none⟩ = some (.int .i64 cl) := cell_of_row hg 7
  have c8 : w.cell? ⟨g, 8, none⟩ = some (.bool key) := cell_of_row hg 8
  have c9 : w.cell? ⟨g, 9, none⟩ = some (.int .i64 hd) := cell_of_row hg 9
  have hii : (i : Int) < (n : Int) := by omega
  have H : Hid (w.heap[g]? = some (.cells (shp (some ⟨b, off, none⟩) n c i line cd cl key hd st) 35 (0, 0))) := hg
  clear hg
  go_enter Try.func10, Try.ntmps10
  go_wp2
  go_quiet (fail)
  go_wp2
  go_end0
  exact ⟨rfl, ((((After.start H.out).put 9 (.int .i64 1) _ rfl).drewN _).put 6 (.int .i64 0) _ rfl).put 7 (.int .i64 0) _ rfl |>.put 8 (.bool true) _ rfl⟩

/-- openHeader stays: the text ends here. -/
theorem open_out (g : Nat) (a : Option Addr) (n c i : Nat) (line cd cl : Int) (key : Bool) (hd : Int) (st : Bool) (w : World) (hg : w.heap[g]? = some (.cells (shp a n c i line cd cl key hd st) 35 (0, 0)))
    (hi : n ≤ i) :
    Calls Try.prog 10 #[.pointer (some ⟨g, 0, none⟩)] w fun e w' => e = .returned (.tuple #[]) ∧ After g w w' (shp a n c i line 0 0 true 1 st) := by
  have hf := frozen_of_row hg
  have c0 : w.cell? ⟨g, 0, none⟩ = some (.slice a n c) := cell_of_row hg 0
  have c1 : w.cell? ⟨g, 1, none⟩ = some (.int .i64 i) := cell_of_row hg 1
  have c6 : w.cell? ⟨g, 6, none⟩ = some (.int .i64 cd) := cell_of_row hg 6
  have c7 : w.cell? ⟨g, 7, none⟩ = some (.int .i64 cl) := cell_of_row hg 7
  have c8 : w.cell? ⟨g, 8, none⟩ = some (.bool key) := cell_of_row hg 8
  have c9 : w.cell? ⟨g, 9, none⟩ = some (.int .i64 hd) := cell_of_row hg 9
  have hii : decide (i < n) = false := decide_eq_false (by omega)
  have H : Hid (w.heap[g]? = some (.cells (shp a n c i line cd cl key hd st) 35 (0, 0))) := hg
  clear hg
  go_enter Try.func10, Try.ntmps10
  go_wp2
  go_quiet (fail)
  go_wp2
  go_end0
  exact ⟨rfl, ((((After.start H.out).put 9 (.int .i64 1) _ rfl).drewN _).put 6 (.int .i64 0) _ rfl).put 7 (.int .i64 0) _ rfl |>.put 8 (.bool true) _ rfl⟩

/-- ZZopenHeader hands on. -/
theorem zz_open (g : Nat) (cs : Array Value) (w : World) (h : Calls Try.prog 10 #[.pointer (some ⟨g, 0, none⟩)] w fun e w' => e = .returned (.tuple #[]) ∧ After g w w' cs) :
    Calls Try.prog 7 #[.pointer (some ⟨g, 0, none⟩)] w fun e w' => e = .returned (.tuple #[]) ∧ After g w w' cs := by
  have H : Hid (Calls Try.prog 10 #[.pointer (some ⟨g, 0, none⟩)] w fun e w' => e = .returned (.tuple #[]) ∧ After g w w' cs) := h
  clear h
  go_enter Try.func7, Try.ntmps7
  go_wp2_with (go_at_call 10; refine H.out.mono ?_; rintro e w' ⟨rfl, ha⟩)
  go_end0
  exact ⟨rfl, ha⟩

/-- ZZshapeState reads. -/
theorem state_any (g : Nat) (a : Option Addr) (n c : Nat) (i : Int) (line cd cl : Int) (key : Bool) (hd : Int) (st : Bool) (w : World) (hg : w.heap[g]? = some (.cells (shp a n c i line cd cl key hd st) 35 (0, 0))) :
    Calls Try.prog 8 #[.pointer (some ⟨g, 0, none⟩)] w fun e w' => e = .returned (.tuple #[.int .i64 i, .int .i64 line, .int .i64 cd, .int .i64 cl, .bool key, .int .i64 hd, .bool st]) ∧ ∃ nq, w' = w.drewN nq := by
  have c1 : w.cell? ⟨g, 1, none⟩ = some (.int .i64 i) := cell_of_row hg 1
  have c2 : w.cell? ⟨g, 2, none⟩ = some (.int .i64 line) := cell_of_row hg 2
  have c6 : w.cell? ⟨g, 6, none⟩ = some (.int .i64 cd) := cell_of_row hg 6
  have c7 : w.cell? ⟨g, 7, none⟩ = some (.int .i64 cl) := cell_of_row hg 7
  have c8 : w.cell? ⟨g, 8, none⟩ = some (.bool key) := cell_of_row hg 8
  have c9 : w.cell? ⟨g, 9, none⟩ = some (.int .i64 hd) := cell_of_row hg 9
  have c10 : w.cell? ⟨g, 10, none⟩ = some (.bool st) := cell_of_row hg 10
  clear hg
  go_enter Try.func8, Try.ntmps8
  go_wp2
  go_quiet (fail)
  go_wp2
  refine bodyPost_ret (v := .tuple #[.int .i64 i, .int .i64 line, .int .i64 cd, .int .i64 cl, .bool key, .int .i64 hd, .bool st]) (by simp [results, Try.results8, go_sem]) rfl ⟨rfl, _, rfl⟩

/-- ZZnewShape lays one block. -/
theorem new_any (a : Option Addr) (n c : Nat) (i line cd cl : Int) (key : Bool) (hd : Int) (st : Bool) (w : World) :
    Calls Try.prog 6 #[.slice a n c, .int .i64 i, .int .i64 line, .int .i64 cd, .int .i64 cl, .bool key, .int .i64 hd, .bool st] w fun e w' =>
      e = .returned (.pointer (some ⟨w.heap.size, 0, none⟩)) ∧ w' = w.alloc (.cells (shp a n c i line cd cl key hd st) 35) := by
  go_enter Try.func6, Try.ntmps6
  go_wp2
  go_ret
  exact ⟨rfl, rfl⟩

/-- zzHeaderStep at its two good answers. -/
theorem step_stay (i : Int) (w : World) : Calls Try.prog 9 #[.int .i64 i, .int .i64 i, .int .i64 1] w fun e w' => e = .returned (.bool true) ∧ w' = w := by
  go_enter Try.func9, Try.ntmps9
  go_wp2
  go_ret
  exact ⟨rfl, rfl⟩
theorem step_go (i : Nat) (hi : i ≤ 1048576) (w : World) : Calls Try.prog 9 #[.int .i64 (i : Int), .int .i64 ((i : Int) + 1), .int .i64 2] w fun e w' => e = .returned (.bool true) ∧ w' = w := by
  go_enter Try.func9, Try.ntmps9
  go_wp2
  go_ret
  exact ⟨rfl, rfl⟩

/-- The bound on the length. -/
theorem bytes_yes (a : Option Addr) (n c : Nat) (x1 x2 x3 x4 x5 : Int) (x6 : Bool) (x7 : Int) (x8 : Bool) (w : World) (hn : n ≤ 1048576) :
    Calls Try.prog 4 #[.slice a n c, .int .i64 x1, .int .i64 x2, .int .i64 x3, .int .i64 x4, .int .i64 x5, .bool x6, .int .i64 x7, .bool x8] w fun e w' => e = .returned (.bool true) ∧ w' = w := by
  go_enter Try.func4, Try.ntmps4
  go_wp2
  go_ret
  exact ⟨rfl, rfl⟩
theorem bytes_no (a : Option Addr) (n c : Nat) (x1 x2 x3 x4 x5 : Int) (x6 : Bool) (x7 : Int) (x8 : Bool) (w : World) (hn : ¬ n ≤ 1048576) :
    Calls Try.prog 4 #[.slice a n c, .int .i64 x1, .int .i64 x2, .int .i64 x3, .int .i64 x4, .int .i64 x5, .bool x6, .int .i64 x7, .bool x8] w fun e w' => e = .returned (.bool false) ∧ w' = w := by
  go_enter Try.func4, Try.ntmps4
  go_wp2
  go_ret
  exact ⟨rfl, rfl⟩
end Go.Proofs.Qxb6616744a
