/-
  The law's own walk, over what its callees do: two copies, two shapes, two openings, two readings.
-/
import Derived.Test.Qxb6616744aCopyB
namespace Go.Proofs.Qxb6616744a
open Go.RowKit

/-- In every world that is w2 but for what lies from w2's end on, and in which a shape over this text lies there: openHeader takes i to i', the header to h'. -/
def Opens (s : Option Addr) (n c : Nat) (i i' h' : Int) (w2 : World) : Prop :=
  ∀ (g : Nat) (w4 : World) (line cd cl : Int) (key : Bool) (hd : Int) (st : Bool), w2.heap.size ≤ g → (∀ k, k < w2.heap.size → w4.heap[k]? = w2.heap[k]?) →
    w4.heap[g]? = some (.cells (shp s n c i line cd cl key hd st) 35 (0, 0)) →
    Calls Try.prog 10 #[.pointer (some ⟨g, 0, none⟩)] w4 fun e w' => e = .returned (.tuple #[]) ∧ After g w4 w' (shp s n c i' line 0 0 true h' st)

/-- What the two copies leave. -/
def Copies (T : Value) (len m : Nat) (i ia ha ib hb : Int) (w : World) : Prop :=
  Calls Try.prog 5 #[T, .int .i64 len] w fun e w1 => ∃ sa na ca, e = .returned (.slice sa na ca) ∧ Below w.heap.size w w1 ∧
    Calls Try.prog 5 #[T, .int .i64 m] w1 fun e w2 => ∃ sb nb cb, e = .returned (.slice sb nb cb) ∧ Below w.heap.size w w2 ∧ Opens sa na ca i ia ha w2 ∧ Opens sb nb cb i ib hb w2

theorem alloc_old (w : World) (o : Obj) (k : Nat) (h : k < w.heap.size) : (w.alloc o).heap[k]? = w.heap[k]? := Below.heap_alloc w o k h
theorem alloc_at (w : World) (o : Obj) : (w.alloc o).heap[w.heap.size]? = some o := (MapKept.heap_alloc w o).1
theorem alloc_size (w : World) (o : Obj) : (w.alloc o).heap.size = w.heap.size + 1 := by simp

/-- The two shapes, laid one behind the other. -/
theorem two_new {w2 w3 w4 : World} {A B : Array Value} (h3 : w3 = w2.alloc (.cells A 35)) (h4 : w4 = w3.alloc (.cells B 35)) :
    w3.heap.size = w2.heap.size + 1 ∧ w4.heap[w2.heap.size]? = some (.cells A 35 (0, 0)) ∧ w4.heap[w3.heap.size]? = some (.cells B 35 (0, 0)) ∧ (∀ k, k < w2.heap.size → w4.heap[k]? = w2.heap[k]?) ∧
      ∀ {B0 : Nat} {w0 : World}, Below B0 w0 w2 → B0 ≤ w2.heap.size → Below B0 w0 w4 := by
  subst h3; subst h4
  refine ⟨alloc_size _ _, ?_, alloc_at _ _, fun k hk => ?_, fun hb hB => (hb.alloc hB _).alloc (by rw [alloc_size]; omega) _⟩
  · rw [alloc_old _ _ _ (by rw [alloc_size]; omega)]; exact alloc_at _ _
  · rw [alloc_old _ _ _ (by rw [alloc_size]; omega), alloc_old _ _ _ hk]

set_option maxRecDepth 100000 in
theorem core_ne (a : Option Addr) (len cap i m : Nat) (ia ha line cd cl : Int) (key : Bool) (hd : Int) (st : Bool) (w : World) (hl : len ≤ 1048576) (him : i < m) (hml : m ≤ len)
    (K : Copies (.slice a len cap) len m i ia ha ia ha w) (s9 : ∀ w, Calls Try.prog 9 #[.int .i64 i, .int .i64 ia, .int .i64 ha] w fun e w' => e = .returned (.bool true) ∧ w' = w) :
    Calls Try.prog 3 #[.slice a len cap, .int .i64 i, .int .i64 m, .int .i64 line, .int .i64 cd, .int .i64 cl, .bool key, .int .i64 hd, .bool st] w fun e w' => e = .returned (.bool true) ∧ Below w.heap.size w w' := by
  have K' : Hid (Copies (.slice a len cap) len m i ia ha ia ha w) := K
  have S : Hid (∀ w, Calls Try.prog 9 #[.int .i64 i, .int .i64 ia, .int .i64 ha] w fun e w' => e = .returned (.bool true) ∧ w' = w) := s9
  clear K s9
  have q : ((m : Int) == (i : Int)) = false := beq_eq_false_iff_ne.2 (by omega)
  go_enter Try.func3, Try.ntmps3
  go_wp2_with (go_at_call 4; refine (bytes_yes _ _ _ _ _ _ _ _ _ _ _ _ hl).mono ?_; rintro e w' ⟨rfl, hw⟩; subst w')
  refine K'.out.mono ?_
  rintro e w1 ⟨sa, na, ca, rfl, b1, K2⟩
  have K2' : Hid (Calls Try.prog 5 #[.slice a len cap, .int .i64 m] w1 fun e w2 => ∃ sb nb cb, e = .returned (.slice sb nb cb) ∧ Below w.heap.size w w2 ∧ Opens sa na ca i ia ha w2 ∧ Opens sb nb cb i ia ha w2) := K2
  clear K2 K'
  go_wp2_with fail
  refine K2'.out.mono ?_
  rintro e w2 ⟨sb, nb, cb, rfl, b2, oa, ob⟩
  clear K2'
  go_wp2_with fail
  refine (new_any _ _ _ _ _ _ _ _ _ _ _).mono ?_
  rintro e w3 ⟨rfl, hw⟩
  have A3 : Hid (w3 = w2.alloc (.cells (shp sa na ca i line cd cl key hd st) 35)) := hw
  clear hw
  go_wp2_with fail
  refine (new_any _ _ _ _ _ _ _ _ _ _ _).mono ?_
  rintro e w4 ⟨rfl, hw⟩
  have A4 : Hid (w4 = w3.alloc (.cells (shp sb nb cb i line cd cl key hd st) 35)) := hw
  clear hw
  go_wp2_with fail
  obtain ⟨z3, r4a, r4b, o4, be4⟩ := two_new A3.out A4.out
  have Z3 : Hid (w3.heap.size = w2.heap.size + 1) := z3
  have R4b : Hid (w4.heap[w3.heap.size]? = some (.cells (shp sb nb cb i line cd cl key hd st) 35 (0, 0))) := r4b
  have O4 : Hid (∀ k, k < w2.heap.size → w4.heap[k]? = w2.heap[k]?) := o4
  have B4 : Below w.heap.size w w4 := be4 b2 b2.size
  have hB : w.heap.size ≤ w2.heap.size := b2.size
  have C5 := zz_open w2.heap.size _ w4 (oa w2.heap.size w4 line cd cl key hd st (Nat.le_refl _) o4 r4a)
  clear z3 r4a r4b o4 be4 A3 A4 b1 b2 oa
  refine C5.mono ?_
  clear C5
  rintro e w5 ⟨rfl, a5⟩
  go_wp2_with fail
  have C6 := zz_open w3.heap.size _ w5 (ob w3.heap.size w5 line cd cl key hd st (by have := Z3.out; omega) (fun k hk => (a5.rest k (by omega)).trans (O4.out k hk)) ((a5.rest _ (by have := Z3.out; omega)).trans R4b.out))
  refine C6.mono ?_
  clear C6 ob R4b O4
  rintro e w6 ⟨rfl, a6⟩
  go_wp2_with fail
  have C7 := state_any w2.heap.size sa na ca ia line 0 0 true ha st w6 ((a6.rest _ (by have := Z3.out; omega)).trans a5.row)
  refine C7.mono ?_
  clear C7
  rintro e w7 ⟨rfl, n1, hw⟩
  have A7 : Hid (w7 = w6.drewN n1) := hw
  clear hw
  go_wp2_with fail
  have C8 := state_any w3.heap.size sb nb cb ia line 0 0 true ha st w7 (by rw [A7.out]; exact a6.row)
  refine C8.mono ?_
  clear C8
  rintro e w8 ⟨rfl, n2, hw⟩
  have A8 : Hid (w8 = w7.drewN n2) := hw
  clear hw
  have B8 : Below w.heap.size w w8 := by
    rw [A8.out, A7.out]
    exact below_drewN (below_drewN (a6.below (a5.below B4 hB) (by have := Z3.out; omega)) n1) n2
  clear A8 A7 a5 a6 B4 Z3
  go_wp2_with (go_at_call 9; refine (S.out _).mono ?_; rintro e w' ⟨rfl, hw⟩; subst w')
  go_ret
  exact ⟨rfl, B8⟩
set_option maxRecDepth 100000 in
theorem core_eq (a : Option Addr) (len cap i : Nat) (ia ha line cd cl : Int) (key : Bool) (hd : Int) (st : Bool) (w : World) (hl : len ≤ 1048576) (hil : i ≤ len)
    (K : Copies (.slice a len cap) len i i ia ha i 1 w) (s9 : ∀ w, Calls Try.prog 9 #[.int .i64 i, .int .i64 ia, .int .i64 ha] w fun e w' => e = .returned (.bool true) ∧ w' = w) :
    Calls Try.prog 3 #[.slice a len cap, .int .i64 i, .int .i64 i, .int .i64 line, .int .i64 cd, .int .i64 cl, .bool key, .int .i64 hd, .bool st] w fun e w' => e = .returned (.bool true) ∧ Below w.heap.size w w' := by
  have K' : Hid (Copies (.slice a len cap) len i i ia ha i 1 w) := K
  have S : Hid (∀ w, Calls Try.prog 9 #[.int .i64 i, .int .i64 ia, .int .i64 ha] w fun e w' => e = .returned (.bool true) ∧ w' = w) := s9
  clear K s9
  go_enter Try.func3, Try.ntmps3
  go_wp2_with (go_at_call 4; refine (bytes_yes _ _ _ _ _ _ _ _ _ _ _ _ hl).mono ?_; rintro e w' ⟨rfl, hw⟩; subst w')
  refine K'.out.mono ?_
  rintro e w1 ⟨sa, na, ca, rfl, b1, K2⟩
  have K2' : Hid (Calls Try.prog 5 #[.slice a len cap, .int .i64 i] w1 fun e w2 => ∃ sb nb cb, e = .returned (.slice sb nb cb) ∧ Below w.heap.size w w2 ∧ Opens sa na ca i ia ha w2 ∧ Opens sb nb cb i i 1 w2) := K2
  clear K2 K'
  go_wp2_with fail
  refine K2'.out.mono ?_
  rintro e w2 ⟨sb, nb, cb, rfl, b2, oa, ob⟩
  clear K2'
  go_wp2_with fail
  refine (new_any _ _ _ _ _ _ _ _ _ _ _).mono ?_
  rintro e w3 ⟨rfl, hw⟩
  have A3 : Hid (w3 = w2.alloc (.cells (shp sa na ca i line cd cl key hd st) 35)) := hw
  clear hw
  go_wp2_with fail
  refine (new_any _ _ _ _ _ _ _ _ _ _ _).mono ?_
  rintro e w4 ⟨rfl, hw⟩
  have A4 : Hid (w4 = w3.alloc (.cells (shp sb nb cb i line cd cl key hd st) 35)) := hw
  clear hw
  go_wp2_with fail
  obtain ⟨z3, r4a, r4b, o4, be4⟩ := two_new A3.out A4.out
  have Z3 : Hid (w3.heap.size = w2.heap.size + 1) := z3
  have R4b : Hid (w4.heap[w3.heap.size]? = some (.cells (shp sb nb cb i line cd cl key hd st) 35 (0, 0))) := r4b
  have O4 : Hid (∀ k, k < w2.heap.size → w4.heap[k]? = w2.heap[k]?) := o4
  have B4 : Below w.heap.size w w4 := be4 b2 b2.size
  have hB : w.heap.size ≤ w2.heap.size := b2.size
  have C5 := zz_open w2.heap.size _ w4 (oa w2.heap.size w4 line cd cl key hd st (Nat.le_refl _) o4 r4a)
  clear z3 r4a r4b o4 be4 A3 A4 b1 b2 oa
  refine C5.mono ?_
  clear C5
  rintro e w5 ⟨rfl, a5⟩
  go_wp2_with fail
  have C6 := zz_open w3.heap.size _ w5 (ob w3.heap.size w5 line cd cl key hd st (by have := Z3.out; omega) (fun k hk => (a5.rest k (by omega)).trans (O4.out k hk)) ((a5.rest _ (by have := Z3.out; omega)).trans R4b.out))
  refine C6.mono ?_
  clear C6 ob R4b O4
  rintro e w6 ⟨rfl, a6⟩
  go_wp2_with fail
  have C7 := state_any w2.heap.size sa na ca ia line 0 0 true ha st w6 ((a6.rest _ (by have := Z3.out; omega)).trans a5.row)
  refine C7.mono ?_
  clear C7
  rintro e w7 ⟨rfl, n1, hw⟩
  have A7 : Hid (w7 = w6.drewN n1) := hw
  clear hw
  go_wp2_with fail
  have C8 := state_any w3.heap.size sb nb cb i line 0 0 true 1 st w7 (by rw [A7.out]; exact a6.row)
  refine C8.mono ?_
  clear C8
  rintro e w8 ⟨rfl, n2, hw⟩
  have A8 : Hid (w8 = w7.drewN n2) := hw
  clear hw
  have B8 : Below w.heap.size w w8 := by
    rw [A8.out, A7.out]
    exact below_drewN (below_drewN (a6.below (a5.below B4 hB) (by have := Z3.out; omega)) n1) n2
  clear A8 A7 a5 a6 B4 Z3
  go_wp2_with fail
  refine (S.out _).mono ?_
  rintro e w' ⟨rfl, hw⟩; subst w'
  go_wp2_with (go_at_call 9; refine (step_stay _ _).mono ?_; rintro e w' ⟨rfl, hw⟩; subst w')
  go_ret
  exact ⟨rfl, B8⟩

end Go.Proofs.Qxb6616744a
