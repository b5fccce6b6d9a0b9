/-
  'Rows.FnOpenHeaderCutAgreesSaid' proved: the shell of the seat, its hole filled.
-/
import Derived.Test.Qxb6616744aRows
import Derived.Test.Qxb6616744aCore
import Derived.WalkKit
import Derived.ProofKit
import Derived.OpenShut
import Derived.ShutString
import Derived.ChangeOld
import Derived.Below
namespace Go.Proofs.Qxb6616744a.fnOpenHeaderCutAgrees
open Go.ChangeShapes Go.WideShapes Go.ChangeAt Go.RowKit
open Go.ChangeMaps (open_string shut_string)
set_option linter.unusedVariables false

theorem own : ownKnob Try.prog.godebug = none := by kernel_rfl
theorem laidOut : laidOutB Try.prog = true := by kernel_rfl

/-! ### What openHeader does, over a text that was copied -/
theorem opens_out (s : Option Addr) (n c i : Nat) (h : n ≤ i) (w2 : World) : Opens s n c i i 1 w2 :=
  fun g w4 line cd cl key hd st _ _ hrow => open_out g s n c i line cd cl key hd st w4 hrow h

theorem cell_in {b k : Nat} {w2 w4 : World} {cs : Array Value} {z : Int} (hr : w2.heap[b]? = some (.cells cs 5 (0, 0))) (hk : cs[k]? = some (.int .u8 z)) (ho : ∀ k, k < w2.heap.size → w4.heap[k]? = w2.heap[k]?) :
    b < w2.heap.size ∧ w4.cell? ⟨b, 0 + k, none⟩ = some (.int .u8 z) := by
  have hb : b < w2.heap.size := (Array.getElem?_eq_some_iff.1 hr).1
  refine ⟨hb, ?_⟩
  rw [Nat.zero_add, cell_of_row ((ho b hb).trans hr)]
  exact hk

theorem opens_go (b n i : Nat) (z : Int) (cs : Array Value) (w2 : World) (hr : w2.heap[b]? = some (.cells cs 5 (0, 0))) (hk : cs[i]? = some (.int .u8 z)) (hi : i < n) (hn : n ≤ 1048576) (hz : (z == 91) = true) :
    Opens (some ⟨b, 0, none⟩) n n i ((i : Int) + 1) 2 w2 := by
  intro g w4 line cd cl key hd st hg ho hrow
  obtain ⟨hb, hc⟩ := cell_in hr hk ho
  exact open_go g b 0 n n i line cd cl key hd st z w4 hrow hi hn (by omega) hc hz
theorem opens_no (b n i : Nat) (z : Int) (cs : Array Value) (w2 : World) (hr : w2.heap[b]? = some (.cells cs 5 (0, 0))) (hk : cs[i]? = some (.int .u8 z)) (hi : i < n) (hz : (z == 91) = false) :
    Opens (some ⟨b, 0, none⟩) n n i i 1 w2 := by
  intro g w4 line cd cl key hd st hg ho hrow
  obtain ⟨hb, hc⟩ := cell_in hr hk ho
  exact open_no g b 0 n n i line cd cl key hd st z w4 hrow hi (by omega) hc hz

/-- The row at block b of w2 begins with the first n numbers of z. -/
def Filled (w2 : World) (b n : Nat) (z : Nat → Int) : Prop := ∃ cs : Array Value, w2.heap[b]? = some (.cells cs 5 (0, 0)) ∧ ∀ j, j < n → cs[j]? = some (.int .u8 (z j))

theorem copies_some (x : Addr) (len cap m : Nat) (i ia ha ib hb : Int) (z : Nat → Int) (w : World) (hm : m ≤ len) (hl : len ≤ 1048576) (hcell : ∀ j, j < len → w.cell? (x.add j) = some (.int .u8 (z j)))
    (OA : ∀ b w2, Filled w2 b len z → Opens (some ⟨b, 0, none⟩) len len i ia ha w2) (OB : ∀ b w2, Filled w2 b m z → Opens (some ⟨b, 0, none⟩) m m i ib hb w2) :
    Copies (.slice (some x) len cap) len m i ia ha ib hb w := by
  refine (copy_some x len cap len z w (Nat.le_refl _) hl hcell).mono ?_
  rintro e w1 ⟨rfl, ⟨cs1, r1, f1⟩, b1⟩
  refine ⟨_, _, _, rfl, b1, ?_⟩
  refine (copy_some x len cap m z w1 hm hl (fun j hj => (b1.cell (lt_of_cell (hcell j (by omega)))).trans (hcell j (by omega)))).mono ?_
  rintro e w2 ⟨rfl, r2, b2⟩
  refine ⟨_, _, _, rfl, b1.trans (b2.mono b1.size), OA w.heap.size w2 ⟨cs1, ?_, f1⟩, OB w1.heap.size w2 r2⟩
  exact (b2.block _ (Array.getElem?_eq_some_iff.1 r1).1).trans r1

theorem copies_nil (w : World) : Copies (.slice none 0 0) 0 0 ((0 : Nat) : Int) ((0 : Nat) : Int) 1 ((0 : Nat) : Int) 1 w := by
  refine (copy_nil _ w).mono ?_
  rintro e w1 ⟨rfl, hw⟩
  subst w1
  refine ⟨_, _, _, rfl, Below.refl _ _, ?_⟩
  refine (copy_nil _ w).mono ?_
  rintro e w2 ⟨rfl, hw⟩
  subst w2
  exact ⟨_, _, _, rfl, Below.refl _ _, opens_out _ _ _ 0 (Nat.le_refl _) _, opens_out _ _ _ 0 (Nat.le_refl _) _⟩

/-! ### The law's early ways out -/
set_option maxRecDepth 100000 in
theorem too_long (a : Option Addr) (n c : Nat) (x1 x2 x3 x4 x5 : Int) (x6 : Bool) (x7 : Int) (x8 : Bool) (w : World) (hn : ¬ n ≤ 1048576) :
    Calls Try.prog 3 #[.slice a n c, .int .i64 x1, .int .i64 x2, .int .i64 x3, .int .i64 x4, .int .i64 x5, .bool x6, .int .i64 x7, .bool x8] w fun e w' => e = .returned (.bool true) ∧ Below w.heap.size w w' := by
  go_enter Try.func3, Try.ntmps3
  go_wp2_with (go_at_call 4; refine (bytes_no _ _ _ _ _ _ _ _ _ _ _ _ hn).mono ?_; rintro e w' ⟨rfl, hw⟩; subst w')
  go_ret
  exact ⟨rfl, Below.refl _ _⟩
set_option maxRecDepth 100000 in
theorem i_neg (a : Option Addr) (n c : Nat) (x1 x2 x3 x4 x5 : Int) (x6 : Bool) (x7 : Int) (x8 : Bool) (w : World) (hn : n ≤ 1048576) (h : x1 < 0) :
    Calls Try.prog 3 #[.slice a n c, .int .i64 x1, .int .i64 x2, .int .i64 x3, .int .i64 x4, .int .i64 x5, .bool x6, .int .i64 x7, .bool x8] w fun e w' => e = .returned (.bool true) ∧ Below w.heap.size w w' := by
  go_enter Try.func3, Try.ntmps3
  go_wp2_with (go_at_call 4; refine (bytes_yes _ _ _ _ _ _ _ _ _ _ _ _ hn).mono ?_; rintro e w' ⟨rfl, hw⟩; subst w')
  go_ret
  exact ⟨rfl, Below.refl _ _⟩
set_option maxRecDepth 100000 in
theorem i_far (a : Option Addr) (n c i : Nat) (x2 x3 x4 x5 : Int) (x6 : Bool) (x7 : Int) (x8 : Bool) (w : World) (hn : n ≤ 1048576) (h : n < i) :
    Calls Try.prog 3 #[.slice a n c, .int .i64 i, .int .i64 x2, .int .i64 x3, .int .i64 x4, .int .i64 x5, .bool x6, .int .i64 x7, .bool x8] w fun e w' => e = .returned (.bool true) ∧ Below w.heap.size w w' := by
  go_enter Try.func3, Try.ntmps3
  go_wp2_with (go_at_call 4; refine (bytes_yes _ _ _ _ _ _ _ _ _ _ _ _ hn).mono ?_; rintro e w' ⟨rfl, hw⟩; subst w')
  go_ret
  exact ⟨rfl, Below.refl _ _⟩
set_option maxRecDepth 100000 in
theorem cut_low (a : Option Addr) (n c i : Nat) (x2 x3 x4 x5 : Int) (x6 : Bool) (x7 : Int) (x8 : Bool) (w : World) (hn : n ≤ 1048576) (h : i ≤ n) (h2 : x2 < (i : Int)) :
    Calls Try.prog 3 #[.slice a n c, .int .i64 i, .int .i64 x2, .int .i64 x3, .int .i64 x4, .int .i64 x5, .bool x6, .int .i64 x7, .bool x8] w fun e w' => e = .returned (.bool true) ∧ Below w.heap.size w w' := by
  go_enter Try.func3, Try.ntmps3
  go_wp2_with (go_at_call 4; refine (bytes_yes _ _ _ _ _ _ _ _ _ _ _ _ hn).mono ?_; rintro e w' ⟨rfl, hw⟩; subst w')
  go_ret
  exact ⟨rfl, Below.refl _ _⟩
set_option maxRecDepth 100000 in
theorem cut_far (a : Option Addr) (n c i m : Nat) (x3 x4 x5 : Int) (x6 : Bool) (x7 : Int) (x8 : Bool) (w : World) (hn : n ≤ 1048576) (h : i ≤ n) (h2 : i ≤ m) (h3 : n < m) :
    Calls Try.prog 3 #[.slice a n c, .int .i64 i, .int .i64 m, .int .i64 x3, .int .i64 x4, .int .i64 x5, .bool x6, .int .i64 x7, .bool x8] w fun e w' => e = .returned (.bool true) ∧ Below w.heap.size w w' := by
  go_enter Try.func3, Try.ntmps3
  go_wp2_with (go_at_call 4; refine (bytes_yes _ _ _ _ _ _ _ _ _ _ _ _ hn).mono ?_; rintro e w' ⟨rfl, hw⟩; subst w')
  go_ret
  exact ⟨rfl, Below.refl _ _⟩


/-- WHAT THE WALK IS TOLD OF A SLICE OF INTEGERS THAT CAME IN: it is nil; or it leads to a row of 'cap' cells, the numbers 'zs' (the first 'len' are its elements, the rest its spare room), each fitting its kind. -/
def IsRow (k : IntKind) (w : World) (a : Option Addr) (len cap : Nat) (zs : List Int) : Prop :=
  (a = none ∧ len = 0 ∧ cap = 0 ∧ zs = []) ∨
  ∃ x, a = some x ∧ len ≤ cap ∧ cap ≤ maxLen ∧ zs.length = cap ∧ (∀ i, i < zs.length → w.cell? (x.add i) = some (.int k (zs.getD i 0))) ∧ ∀ n ∈ zs, (Lit.int k n).wf = true

/-! ### STEP 1: THE WALK: the Go text returns true, AND WRITES NOTHING THAT WAS THERE: 'Below w.heap.size w w'' (Derived/Below.lean: '.refl', '.alloc', '.drew', '.setCell' at a new block, '.trans'). Open each 'IsRow' by 'rcases' AHEAD of 'go_enter'; part every test ahead of the walk. -/
theorem walk (a0 : Option Addr) (len0 cap0 : Nat) (z0 : List Int) (a1 : Int) (a2 : Int) (a3 : Int) (a4 : Int) (a5 : Int) (a6 : Bool) (a7 : Int) (a8 : Bool) (w : World) (w0 : IsRow .u8 w a0 len0 cap0 z0) (w1 : (Lit.int .i64 a1).wf = true) (w2 : (Lit.int .i64 a2).wf = true) (w3 : (Lit.int .i64 a3).wf = true) (w4 : (Lit.int .i64 a4).wf = true) (w5 : (Lit.int .i64 a5).wf = true) (w7 : (Lit.int .i64 a7).wf = true) :
    Calls Try.prog 3 #[.slice a0 len0 cap0, .int .i64 a1, .int .i64 a2, .int .i64 a3, .int .i64 a4, .int .i64 a5, .bool a6, .int .i64 a7, .bool a8] w fun e w' => e = .returned (.bool true) ∧ Below w.heap.size w w' := by
  by_cases hle : len0 ≤ 1048576
  · by_cases hneg : a1 < 0
    · exact i_neg _ _ _ _ _ _ _ _ _ _ _ w hle hneg
    obtain ⟨i, rfl⟩ := Int.eq_ofNat_of_zero_le (Int.not_lt.1 hneg)
    by_cases hil : i ≤ len0
    · by_cases hlow : a2 < (i : Int)
      · exact cut_low _ _ _ _ _ _ _ _ _ _ _ w hle hil hlow
      obtain ⟨m, rfl⟩ := Int.eq_ofNat_of_zero_le (show 0 ≤ a2 by omega)
      have him : i ≤ m := by omega
      by_cases hml : m ≤ len0
      · rcases w0 with ⟨rfl, rfl, rfl, rfl⟩ | ⟨x, rfl, hl, hm, hz, hcell, hwf⟩
        · obtain rfl : m = 0 := by omega
          obtain rfl : i = 0 := by omega
          exact core_eq none 0 0 0 _ 1 a3 a4 a5 a6 a7 a8 w (by omega) (Nat.le_refl _) (copies_nil w) (fun w => step_stay _ w)
        · have hc : ∀ j, j < len0 → w.cell? (x.add j) = some (.int .u8 (z0.getD j 0)) := fun j hj => hcell j (by omega)
          by_cases heq : i = m
          · subst heq
            by_cases hil' : i < len0
            · by_cases h91 : (z0.getD i 0 == 91) = true
              · exact core_eq (some x) len0 cap0 i ((i : Int) + 1) 2 a3 a4 a5 a6 a7 a8 w hle hil
                  (copies_some x len0 cap0 i i _ _ _ _ (fun j => z0.getD j 0) w hil hle hc
                    (fun b w2 ⟨cs, hr, hf⟩ => opens_go b len0 i _ cs w2 hr (hf i hil') hil' hle h91) (fun b w2 _ => opens_out _ i i i (Nat.le_refl _) w2))
                  (fun w => step_go i (by omega) w)
              · exact core_eq (some x) len0 cap0 i i 1 a3 a4 a5 a6 a7 a8 w hle hil
                  (copies_some x len0 cap0 i i _ _ _ _ (fun j => z0.getD j 0) w hil hle hc
                    (fun b w2 ⟨cs, hr, hf⟩ => opens_no b len0 i _ cs w2 hr (hf i hil') hil' (by simpa using h91)) (fun b w2 _ => opens_out _ i i i (Nat.le_refl _) w2))
                  (fun w => step_stay _ w)
            · exact core_eq (some x) len0 cap0 i i 1 a3 a4 a5 a6 a7 a8 w hle hil
                (copies_some x len0 cap0 i i _ _ _ _ (fun j => z0.getD j 0) w hil hle hc
                  (fun b w2 _ => opens_out _ len0 len0 i (by omega) w2) (fun b w2 _ => opens_out _ i i i (Nat.le_refl _) w2))
                (fun w => step_stay _ w)
          · have hlt : i < m := by omega
            by_cases h91 : (z0.getD i 0 == 91) = true
            · exact core_ne (some x) len0 cap0 i m ((i : Int) + 1) 2 a3 a4 a5 a6 a7 a8 w hle hlt hml
                (copies_some x len0 cap0 m i _ _ _ _ (fun j => z0.getD j 0) w hml hle hc
                  (fun b w2 ⟨cs, hr, hf⟩ => opens_go b len0 i _ cs w2 hr (hf i (by omega)) (by omega) hle h91)
                  (fun b w2 ⟨cs, hr, hf⟩ => opens_go b m i _ cs w2 hr (hf i hlt) hlt (by omega) h91))
                (fun w => step_go i (by omega) w)
            · exact core_ne (some x) len0 cap0 i m i 1 a3 a4 a5 a6 a7 a8 w hle hlt hml
                (copies_some x len0 cap0 m i _ _ _ _ (fun j => z0.getD j 0) w hml hle hc
                  (fun b w2 ⟨cs, hr, hf⟩ => opens_no b len0 i _ cs w2 hr (hf i (by omega)) (by omega) (by simpa using h91))
                  (fun b w2 ⟨cs, hr, hf⟩ => opens_no b m i _ cs w2 hr (hf i hlt) hlt (by simpa using h91)))
                (fun w => step_stay _ w)
      · exact cut_far _ _ _ _ _ _ _ _ _ _ _ w hle hil him (by omega)
    · exact i_far _ _ _ _ _ _ _ _ _ _ _ w hle (by omega)
  · exact too_long _ _ _ _ _ _ _ _ _ _ _ w hle

/-! ### THE ROW's STEP: WRITTEN OUT: LEAVE IT -/
set_option maxRecDepth 100000 in
theorem lifted (os : Os) (started : os.Started) (H : Type) (enc : TypeId × Value → H) :
    ReturnsInHanded {} Try.checked os 3 .any (Rows.fnOpenHeaderCutAgreesSpec.pre6 enc Try.prog Try.f3 Rows.fnOpenHeaderCutAgreesRow.domain false) (Rows.fnOpenHeaderCutAgreesSpec.post enc Try.prog Try.f3 false true false false) := by
  refine returnsInHanded_of_change (C := Try.checked) own started (by kernel_rfl) Try.func3
    (ChangeSpec.witness6 (enc := enc) (C := Try.checked) false ⟨#[], #[.slice none 0 0, .int .i64 0, .int .i64 0, .int .i64 0, .int .i64 0, .int .i64 0, .bool false, .int .i64 0, .bool false], []⟩ 8 (by kernel_rfl) (by kernel_rfl) (by kernel_rfl) (by kernel_rfl)) ?_
  intro W base args ds gs before hval0 hW hcnd _
  have hval : ∀ (j : Nat) t v, Try.f3.params[j]? = some t → args[j]? = some v → Value.okWide Try.prog W .any base t v := hval0
  have hW' := hW
  obtain ⟨p, q, hA0, hV, rfl, hfz, hnd⟩ := hW
  have hA : DataW.TrodAll enc Try.prog W 0 (fun _ => true) true Try.f3.params.toList args.toList ds p := hA0
  rw [Try.params3] at hA hval
  obtain ⟨v0, vs0, d0, ds0, p0, q0, hargs, rfl, rfl, h0, r0⟩ := trodAll_cons hA
  obtain ⟨v1, vs1, d1, ds1, p1, q1, rfl, rfl, rfl, h1, r1⟩ := trodAll_cons r0
  obtain ⟨v2, vs2, d2, ds2, p2, q2, rfl, rfl, rfl, h2, r2⟩ := trodAll_cons r1
  obtain ⟨v3, vs3, d3, ds3, p3, q3, rfl, rfl, rfl, h3, r3⟩ := trodAll_cons r2
  obtain ⟨v4, vs4, d4, ds4, p4, q4, rfl, rfl, rfl, h4, r4⟩ := trodAll_cons r3
  obtain ⟨v5, vs5, d5, ds5, p5, q5, rfl, rfl, rfl, h5, r5⟩ := trodAll_cons r4
  obtain ⟨v6, vs6, d6, ds6, p6, q6, rfl, rfl, rfl, h6, r6⟩ := trodAll_cons r5
  obtain ⟨v7, vs7, d7, ds7, p7, q7, rfl, rfl, rfl, h7, r7⟩ := trodAll_cons r6
  obtain ⟨v8, vs8, d8, ds8, p8, q8, rfl, rfl, rfl, h8, r8⟩ := trodAll_cons r7
  obtain ⟨rfl, rfl, rfl⟩ := trodAll_nil r8
  obtain rfl : args = #[v0, v1, v2, v3, v4, v5, v6, v7, v8] := by cases args; simp_all
  obtain ⟨rfl, rfl⟩ := trodVars_none hV
  obtain ⟨a0, len0, cap0, rfl⟩ := okWide_slice Try.underlying22 (hval 0 22 v0 rfl rfl)
  have k0 := h0
  have lt0 : ∀ x ∈ p0, x.block < W.heap.size := by obtain ⟨m, hm⟩ := k0; exact DataW.trod_lt m _ _ _ hm
  obtain ⟨z0, w0⟩ : ∃ zs, IsRow .u8 W a0 len0 cap0 zs := by
    obtain ⟨fuel, hf⟩ := h0
    rcases open_ints Try.underlying22 Try.underlying5 (by kernel_rfl) hf with ⟨hcs, _⟩ | ⟨x, l, c, zs, hcs, _, hl, hm, hz, _, hcell, hwz⟩
    · simp [Value.cells] at hcs
      obtain ⟨rfl, rfl, rfl⟩ := hcs
      exact ⟨[], .inl ⟨rfl, rfl, rfl, rfl⟩⟩
    · simp [Value.cells] at hcs
      obtain ⟨rfl, rfl, rfl⟩ := hcs
      exact ⟨zs, .inr ⟨_, rfl, hl, hm, by simpa using hz, hcell, hwz⟩⟩
  obtain ⟨a1, rfl, rfl, rfl, w1⟩ := open_int Try.underlying3 (hval 1 3 v1 rfl rfl) h1
  obtain ⟨a2, rfl, rfl, rfl, w2⟩ := open_int Try.underlying3 (hval 2 3 v2 rfl rfl) h2
  obtain ⟨a3, rfl, rfl, rfl, w3⟩ := open_int Try.underlying3 (hval 3 3 v3 rfl rfl) h3
  obtain ⟨a4, rfl, rfl, rfl, w4⟩ := open_int Try.underlying3 (hval 4 3 v4 rfl rfl) h4
  obtain ⟨a5, rfl, rfl, rfl, w5⟩ := open_int Try.underlying3 (hval 5 3 v5 rfl rfl) h5
  obtain ⟨a6, rfl, rfl, rfl⟩ := open_bool Try.underlying4 (hval 6 4 v6 rfl rfl) h6
  obtain ⟨a7, rfl, rfl, rfl, w7⟩ := open_int Try.underlying3 (hval 7 3 v7 rfl rfl) h7
  obtain ⟨a8, rfl, rfl, rfl⟩ := open_bool Try.underlying4 (hval 8 4 v8 rfl rfl) h8
  clear hA0 hval0
  refine (walk a0 len0 cap0 z0 a1 a2 a3 a4 a5 a6 a7 a8 W w0 w1 w2 w3 w4 w5 w7).mono fun e W' ⟨he, bel⟩ => ?_
  subst he
  exact ⟨_, rfl, _, _, _, [], _, [], hW', trodAll_mk1 (shut_bool Try.underlying4 _), (trodAll_cons_mk (Below.trod laidOut (by kernel_rfl) (of_decide_eq_true (by kernel_rfl)) k0 bel lt0) (trodAll_cons_mk (shut_int Try.underlying3 w1) (trodAll_cons_mk (shut_int Try.underlying3 w2) (trodAll_cons_mk (shut_int Try.underlying3 w3) (trodAll_cons_mk (shut_int Try.underlying3 w4) (trodAll_cons_mk (shut_int Try.underlying3 w5) (trodAll_cons_mk (shut_bool Try.underlying4 _) (trodAll_cons_mk (shut_int Try.underlying3 w7) (trodAll_cons_mk (shut_bool Try.underlying4 _) trodAll_mk0))))))))), rfl, bel.frame _, fun h => by cases h⟩

theorem over : Rows.fnOpenHeaderCutAgreesRow.holds Try.pinned (OpenSpec.ofChange Rows.fnOpenHeaderCutAgreesSpec) :=
  OpenClaim.holds_of_wide 3 Try.f3 rfl rfl rfl rfl rfl rfl rfl ⟨rfl, rfl, rfl, rfl, rfl⟩ rfl rfl rfl rfl rfl (by kernel_rfl) Try.func3 (by kernel_rfl)
    (of_decide_eq_true (by kernel_rfl)) (by unfold Func.isWrapper; first | (rw [if_pos (by decide +kernel)]; kernel_rfl) | (rw [if_neg (by decide +kernel)]; exact ⟨rfl, rfl⟩))
    (fun os started H enc _ => lifted os started H enc)

/-- ████ THE STATEMENT ████ -/
theorem proved : Rows.FnOpenHeaderCutAgreesSaid := over
#print axioms proved
end Go.Proofs.Qxb6616744a.fnOpenHeaderCutAgrees
