/-
  'Rows.FnHex4SlidingWindowSaid' proved: the shell of the seat, its hole filled.
-/
import Derived.Test.Qxb6618304aRows
import Derived.Test.Qxb6618304aCopy
import Derived.WalkKit
import Derived.ProofKit
import Derived.OpenShut
import Derived.ShutString
import Derived.ChangeOld
import Derived.Below
namespace Go.Proofs.Qxb6618304a.fnHex4SlidingWindow
open Go.ChangeShapes Go.WideShapes Go.ChangeAt Go.RowKit
open Go.ChangeMaps (open_string shut_string)
set_option linter.unusedVariables false

theorem own : ownKnob Try.prog.godebug = none := by kernel_rfl
theorem laidOut : laidOutB Try.prog = true := by kernel_rfl

theorem too_long (a : Option Addr) (len cap : Nat) (w : World) (h : ¬ len ≤ 1048576) :
    Calls Try.prog 4 #[.slice a len cap] w fun e w' => e = .returned (.bool true) ∧ Below w.heap.size w w' := by
  go_enter Try.func4, Try.ntmps4
  go_wp2_with (go_at_call 8; refine (bytes8_no _ _ _ _ h).mono ?_; rintro e w' ⟨rfl, hw⟩; subst w')
  go_ret
  exact ⟨rfl, Below.refl _ _⟩

theorem of_nil (w : World) :
    Calls Try.prog 4 #[.slice none 0 0] w fun e w' => e = .returned (.bool true) ∧ Below w.heap.size w w' := by
  have hnil := run_neq_slice_nil_any (P := Try.prog) w 22 5 none 0 0 0 0 Try.underlying22
  go_enter Try.func4, Try.ntmps4
  go_wp2_with (first
    | (go_at_call 8; refine (bytes8_yes _ _ _ _ (by omega)).mono ?_; rintro e w' ⟨rfl, hw⟩; subst w')
    | (go_at_call 6; refine (zz_short _ _ _ _ (by omega)).mono ?_; rintro e w' ⟨rfl, hw⟩; subst w'))
  go_ret
  exact ⟨rfl, Below.refl _ _⟩

theorem short0 (x : Addr) (cap : Nat) (zs : List Int) (w : World) (hcell : ∀ i, i < zs.length → w.cell? (x.add i) = some (.int .u8 (zs.getD i 0))) :
    Calls Try.prog 4 #[.slice (some x) 0 cap] w fun e w' => e = .returned (.bool true) ∧ Below w.heap.size w w' := by
  obtain ⟨w2, hcp, hc2, hb⟩ := copy_made x 0 cap zs w (by omega) hcell
  have hmk : ∀ w : World, (Instr.makeSlice 22 (.int .i64 0) (.int .i64 0)).run Try.prog w = .ok (.slice (some ⟨w.heap.size, 0, none⟩) 0 0) (w.alloc (.cells (madeCells #[.int .u8 0] 0) 5)) :=
    run_make_row' (P := Try.prog) 22 5 (.int .u8 0) 1 Try.underlying22 info5 rfl .i64 .i64 0 (by omega) (by omega)
  have hnil := run_neq_slice_nil_any (P := Try.prog) w 22 5 (some x) 0 cap 0 0 Try.underlying22
  clear hcell hc2
  go_enter Try.func4, Try.ntmps4
  go_wp2_with (first
    | (go_at_call 8; refine (bytes8_yes _ _ _ _ (by omega)).mono ?_; rintro e w' ⟨rfl, hw⟩; subst w')
    | (go_at_call 6; refine (zz_short _ _ _ _ (by omega)).mono ?_; rintro e w' ⟨rfl, hw⟩; subst w'))
  go_ret
  exact ⟨rfl, hb⟩

theorem short13 (x : Addr) (len cap : Nat) (zs : List Int) (w : World) (hl : len ≤ cap) (hz : zs.length = cap) (hcell : ∀ i, i < zs.length → w.cell? (x.add i) = some (.int .u8 (zs.getD i 0)))
    (h1 : 1 ≤ len) (h3 : len ≤ 3) :
    Calls Try.prog 4 #[.slice (some x) len cap] w fun e w' => e = .returned (.bool true) ∧ Below w.heap.size w w' := by
  obtain ⟨w2, hcp, hc2, hb⟩ := copy_made x len cap zs w (by omega) hcell
  have hmk := run_make_row' (P := Try.prog) 22 5 (.int .u8 0) 1 Try.underlying22 info5 rfl .i64 .i64 len (by omega) (by omega)
  have hnil := run_neq_slice_nil_any (P := Try.prog) w 22 5 (some x) len cap 0 0 Try.underlying22
  clear hcell hc2 hz hl
  go_enter Try.func4, Try.ntmps4
  go_wp2_with (first
    | (go_at_call 8; refine (bytes8_yes _ _ _ _ (by omega)).mono ?_; rintro e w' ⟨rfl, hw⟩; subst w')
    | (go_at_call 6; refine (zz_short _ _ _ _ (by omega)).mono ?_; rintro e w' ⟨rfl, hw⟩; subst w'))
  all_goals (go_ret; exact ⟨rfl, hb⟩)

theorem just4 (x : Addr) (cap : Nat) (zs : List Int) (w : World) (hl : 4 ≤ cap) (hz : zs.length = cap) (hcell : ∀ i, i < zs.length → w.cell? (x.add i) = some (.int .u8 (zs.getD i 0)))
    (hwf : ∀ n ∈ zs, (Lit.int .u8 n).wf = true) :
    Calls Try.prog 4 #[.slice (some x) 4 cap] w fun e w' => e = .returned (.bool true) ∧ Below w.heap.size w w' := by
  obtain ⟨w2, hcp, hc2, hb⟩ := copy_made x 4 cap zs w (by omega) hcell
  have hmk : ∀ w : World, (Instr.makeSlice 22 (.int .i64 4) (.int .i64 4)).run Try.prog w = .ok (.slice (some ⟨w.heap.size, 0, none⟩) 4 4) (w.alloc (.cells (madeCells #[.int .u8 0] 4) 5)) :=
    run_make_row' (P := Try.prog) 22 5 (.int .u8 0) 1 Try.underlying22 info5 rfl .i64 .i64 4 (by omega) (by omega)
  have hnil := run_neq_slice_nil_any (P := Try.prog) w 22 5 (some x) 4 cap 0 0 Try.underlying22
  have A : Hid (Calls Try.prog 6 #[.slice (some ⟨w.heap.size, 0, none⟩) 4 4] w2 fun e w' => e = .returned (.int .i32 (H4 (zs.getD 0 0) (zs.getD 1 0) (zs.getD 2 0) (zs.getD 3 0))) ∧ w' = w2) :=
    zz_any w.heap.size 0 4 4 (fun i => zs.getD i 0) w2 (by omega) (Nat.le_refl _) (by unfold maxLen; omega) (fun i _ => byte_bd hwf i) (fun i hi => by rw [Nat.zero_add]; exact hc2 i (by omega))
  obtain ⟨r1, r2⟩ := H4_rng (zs.getD 0 0) (zs.getD 1 0) (zs.getD 2 0) (zs.getD 3 0)
  generalize H4 (zs.getD 0 0) (zs.getD 1 0) (zs.getD 2 0) (zs.getD 3 0) = v at *
  clear hcell hc2 hz hl hwf
  go_enter Try.func4, Try.ntmps4
  go_wp2_with (go_at_call 8; refine (bytes8_yes _ _ _ _ (by omega)).mono ?_; rintro e w' ⟨rfl, hw⟩; subst w')
  refine A.out.mono ?_
  rintro e w' ⟨rfl, hw⟩; subst w'
  go_wp2_with (go_at_call 6; refine (zz_short _ _ _ _ (by omega)).mono ?_; rintro e w' ⟨rfl, hw⟩; subst w')
  go_ret
  exact ⟨rfl, hb⟩

theorem slide (x : Addr) (len cap : Nat) (zs : List Int) (w : World) (hl : len ≤ cap) (hz : zs.length = cap) (hcell : ∀ i, i < zs.length → w.cell? (x.add i) = some (.int .u8 (zs.getD i 0)))
   (hwf : ∀ n ∈ zs, (Lit.int .u8 n).wf = true) (hle : len ≤ 1048576) (h5 : 5 ≤ len) : 
    Calls Try.prog 4 #[.slice (some x) len cap] w fun e w' => e = .returned (.bool true) ∧ Below w.heap.size w w' := by
  obtain ⟨w2, hcp, hc2, hb⟩ := copy_made x len cap zs w (by omega) hcell
  have hmk := run_make_row' (P := Try.prog) 22 5 (.int .u8 0) 1 Try.underlying22 info5 rfl .i64 .i64 len (by omega) (by omega)
  have hnil := run_neq_slice_nil_any (P := Try.prog) w 22 5 (some x) len cap 0 0 Try.underlying22
  have hbd := fun i => byte_bd hwf i
  generalize hzz : (fun i => zs.getD i 0) = z at *
  have hz' : ∀ i, zs.getD i 0 = z i := fun i => by rw [← hzz]
  simp only [hz'] at hc2 hbd
  have g0 : w2.cell? ⟨w.heap.size, 0, none⟩ = some (.int .u8 (z 0)) := hc2 0 (by omega)
  have g4 : w2.cell? ⟨w.heap.size, 4, none⟩ = some (.int .u8 (z 4)) := hc2 4 (by omega)
  have hlm : len ≤ maxLen := by unfold maxLen; omega
  have A : Hid (Calls Try.prog 6 #[.slice (some ⟨w.heap.size, 0, none⟩) len len] w2 fun e w' => e = .returned (.int .i32 (H4 (z 0) (z 1) (z 2) (z 3))) ∧ w' = w2) :=
    zz_any w.heap.size 0 len len z w2 (by omega) (Nat.le_refl _) hlm (fun i _ => hbd i) (fun i hi => by rw [Nat.zero_add]; exact hc2 i (by omega))
  have B : Hid (Calls Try.prog 6 #[.slice (some ⟨w.heap.size, 1, none⟩) (len - 1) (len - 1)] w2 fun e w' => e = .returned (.int .i32 (H4 (z 1) (z 2) (z 3) (z 4))) ∧ w' = w2) :=
    zz_any w.heap.size 1 (len - 1) (len - 1) (fun i => z (1 + i)) w2 (by omega) (Nat.le_refl _) (by omega) (fun i _ => hbd _) (fun i hi => hc2 _ (by omega))
  have r1 := H4_rng (z 0) (z 1) (z 2) (z 3)
  have r2 := H4_rng (z 1) (z 2) (z 3) (z 4)
  clear hcell hc2 hz' hzz hz hwf hbd hl hlm
  obtain ⟨r1, r1'⟩ := r1
  obtain ⟨r2, r2'⟩ := r2
  go_enter Try.func4, Try.ntmps4
  go_wp2_with (go_at_call 8; refine (bytes8_yes _ _ _ _ hle).mono ?_; rintro e w' ⟨rfl, hw⟩; subst w')
  refine A.out.mono ?_
  rintro e w' ⟨rfl, hw⟩; subst w'
  go_wp2_with fail
  refine B.out.mono ?_
  rintro e w' ⟨rfl, hw⟩; subst w'
  clear A B hcp hmk hnil
  by_cases ha : 0 ≤ H4 (z 0) (z 1) (z 2) (z 3)
  · have km := i32_and12 _ ha r1'
    obtain ⟨v0, v1⟩ := hv_rng (z 4)
    by_cases hd : hv (z 4) < 0
    · have E := slide_no (z 1) (z 2) (z 3) (z 4) hd
      rw [E]
      clear E r2 r2'
      go_wp2_with (go_at_call 9; refine (look_any _ _).mono ?_; rintro e w' ⟨rfl, hw⟩; subst w')
      go_ret
      exact ⟨rfl, hb⟩
    · have E := slide_yes (z 0) (z 1) (z 2) (z 3) (z 4) ha (by omega)
      rw [E]
      rw [E] at r2 r2'
      clear E
      go_wp2_with (go_at_call 9; refine (look_any _ _).mono ?_; rintro e w' ⟨rfl, hw⟩; subst w')
      go_ret
      exact ⟨rfl, hb⟩
  · by_cases hb2 : 0 ≤ H4 (z 1) (z 2) (z 3) (z 4)
    · have E := slide_first (z 0) (z 1) (z 2) (z 3) (z 4) (by omega) hb2
      go_wp2_with (go_at_call 9; refine (look_any _ _).mono ?_; rintro e w' ⟨rfl, hw⟩; subst w')
      go_ret
      exact ⟨rfl, hb⟩
    · go_wp2_with (go_at_call 9; refine (look_any _ _).mono ?_; rintro e w' ⟨rfl, hw⟩; subst w')
      go_ret
      exact ⟨rfl, hb⟩

/-- WHAT THE WALK IS TOLD OF A SLICE OF INTEGERS THAT CAME IN: it is nil; or it leads to a row of 'cap' cells, the numbers 'zs' (the first 'len' are its elements, the rest its spare room), each fitting its kind. -/
def IsRow (k : IntKind) (w : World) (a : Option Addr) (len cap : Nat) (zs : List Int) : Prop :=
  (a = none ∧ len = 0 ∧ cap = 0 ∧ zs = []) ∨
  ∃ x, a = some x ∧ len ≤ cap ∧ cap ≤ maxLen ∧ zs.length = cap ∧ (∀ i, i < zs.length → w.cell? (x.add i) = some (.int k (zs.getD i 0))) ∧ ∀ n ∈ zs, (Lit.int k n).wf = true

/-! ### STEP 1: THE WALK: the Go text returns true, AND WRITES NOTHING THAT WAS THERE: 'Below w.heap.size w w'' (Derived/Below.lean: '.refl', '.alloc', '.drew', '.setCell' at a new block, '.trans'). Open each 'IsRow' by 'rcases' AHEAD of 'go_enter'; part every test ahead of the walk. -/
theorem walk (a0 : Option Addr) (len0 cap0 : Nat) (z0 : List Int) (w : World) (w0 : IsRow .u8 w a0 len0 cap0 z0) :
    Calls Try.prog 4 #[.slice a0 len0 cap0] w fun e w' => e = .returned (.bool true) ∧ Below w.heap.size w w' := by
  rcases w0 with ⟨rfl, rfl, rfl, rfl⟩ | ⟨x, rfl, hl, hm, hz, hcell, hwf⟩
  · exact of_nil w
  · by_cases hle : len0 ≤ 1048576
    · by_cases h5 : 5 ≤ len0
      · exact slide x len0 cap0 z0 w hl hz hcell hwf hle h5
      · by_cases h4 : len0 = 4
        · subst h4; exact just4 x cap0 z0 w hl hz hcell hwf
        · by_cases h0 : len0 = 0
          · subst h0; exact short0 x cap0 z0 w hcell
          · exact short13 x len0 cap0 z0 w hl hz hcell (by omega) (by omega)
    · exact too_long _ _ _ w hle

/-! ### THE ROW's STEP: WRITTEN OUT: LEAVE IT -/
set_option maxRecDepth 100000 in
theorem lifted (os : Os) (started : os.Started) (H : Type) (enc : TypeId × Value → H) :
    ReturnsInHanded {} Try.checked os 4 .any (Rows.fnHex4SlidingWindowSpec.pre6 enc Try.prog Try.f4 Rows.fnHex4SlidingWindowRow.domain false) (Rows.fnHex4SlidingWindowSpec.post enc Try.prog Try.f4 false true false false) := by
  refine returnsInHanded_of_change (C := Try.checked) own started (by kernel_rfl) Try.func4
    (ChangeSpec.witness6 (enc := enc) (C := Try.checked) false ⟨#[], #[.slice none 0 0], []⟩ 8 (by kernel_rfl) (by kernel_rfl) (by kernel_rfl) (by kernel_rfl)) ?_
  intro W base args ds gs before hval0 hW hcnd _
  have hval : ∀ (j : Nat) t v, Try.f4.params[j]? = some t → args[j]? = some v → Value.okWide Try.prog W .any base t v := hval0
  have hW' := hW
  obtain ⟨p, q, hA0, hV, rfl, hfz, hnd⟩ := hW
  have hA : DataW.TrodAll enc Try.prog W 0 (fun _ => true) true Try.f4.params.toList args.toList ds p := hA0
  rw [Try.params4] at hA hval
  obtain ⟨v0, vs0, d0, ds0, p0, q0, hargs, rfl, rfl, h0, r0⟩ := trodAll_cons hA
  obtain ⟨rfl, rfl, rfl⟩ := trodAll_nil r0
  obtain rfl : args = #[v0] := by cases args; simp_all
  obtain ⟨rfl, rfl⟩ := trodVars_none hV
  obtain ⟨a0, len0, cap0, rfl⟩ := okWide_slice Try.underlying22 (hval 0 22 v0 rfl rfl)
  have k0 := h0
  have lt0 : ∀ x ∈ p0, x.block < W.heap.size := by obtain ⟨m, hm⟩ := k0; exact DataW.trod_lt m _ _ _ hm
  obtain ⟨z0, w0⟩ : ∃ zs, IsRow .u8 W a0 len0 cap0 zs := by
    obtain ⟨fuel, hf⟩ := h0
    rcases open_ints Try.underlying22 Try.underlying5 (by kernel_rfl) hf with ⟨hcs, _⟩ | ⟨x, l, c, zs, hcs, _, hl, hm, hz, _, hcell, hwz⟩
    · simp [Value.cells] at hcs
      obtain ⟨rfl, rfl, rfl⟩ := hcs
      exact ⟨[], .inl ⟨rfl, rfl, rfl, rfl⟩⟩
    · simp [Value.cells] at hcs
      obtain ⟨rfl, rfl, rfl⟩ := hcs
      exact ⟨zs, .inr ⟨_, rfl, hl, hm, by simpa using hz, hcell, hwz⟩⟩
  clear hA0 hval0
  refine (walk a0 len0 cap0 z0 W w0).mono fun e W' ⟨he, bel⟩ => ?_
  subst he
  exact ⟨_, rfl, _, _, _, [], _, [], hW', trodAll_mk1 (shut_bool Try.underlying4 _), (trodAll_cons_mk (Below.trod laidOut (by kernel_rfl) (of_decide_eq_true (by kernel_rfl)) k0 bel lt0) trodAll_mk0), rfl, bel.frame _, fun h => by cases h⟩

theorem over : Rows.fnHex4SlidingWindowRow.holds Try.pinned (OpenSpec.ofChange Rows.fnHex4SlidingWindowSpec) :=
  OpenClaim.holds_of_wide 4 Try.f4 rfl rfl rfl rfl rfl rfl rfl ⟨rfl, rfl, rfl, rfl, rfl⟩ rfl rfl rfl rfl rfl (by kernel_rfl) Try.func4 (by kernel_rfl)
    (of_decide_eq_true (by kernel_rfl)) (by unfold Func.isWrapper; first | (rw [if_pos (by decide +kernel)]; kernel_rfl) | (rw [if_neg (by decide +kernel)]; exact ⟨rfl, rfl⟩))
    (fun os started H enc _ => lifted os started H enc)

/-- ████ THE STATEMENT ████ -/
theorem proved : Rows.FnHex4SlidingWindowSaid := over
#print axioms proved
end Go.Proofs.Qxb6618304a.fnHex4SlidingWindow
