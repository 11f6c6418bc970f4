/-
  FnHoldsThenLaterIsAtGreater where a slice is nil (so both are without elements).
-/
import Derived.Test.Qxb6615885aModsCut
namespace Go.Proofs.Qxb6615885aMods.Win
open Go.ChangeShapes Go.WideShapes Go.ChangeAt Go.RowKit
open Tm

set_option maxRecDepth 100000 in
set_option maxHeartbeats 2000000 in
theorem late_zero_nn_up (s t : Int) (w : World) (s0 : -9223372036854775808 ≤ s) (s1 : s ≤ 9223372036854775807) (t0 : -9223372036854775808 ≤ t) (t1 : t ≤ 9223372036854775807) (hcase : s < t) :
    Calls Trym.prog 4 #[.slice none 0 0, .slice none 0 0, .int .i64 s, .int .i64 t] w fun e w' => e = .returned (.bool true) ∧ Below w.heap.size w w' := by
  have hB : decide (0 + 0 ≤ 1048576) = true := rfl
  have hnil := fun (w : World) (x : Addr) (k : Nat) => run_neq_slice_nil_any (P := Trym.prog) w 22 2 (some x) 0 k 0 0 Trym.underlying22
  have hnil' := fun (w : World) => run_neq_slice_nil_any (P := Trym.prog) w 22 2 none 0 0 0 0 Trym.underlying22
  have hmk : ∀ w, (Instr.makeSlice 22 (.int .i64 0) (.int .i64 0)).run Trym.prog w = .ok (.slice (some ⟨w.heap.size, 0, none⟩) 0 0) (w.alloc (.cells #[] 2)) := fun _ => by kernel_rfl
  go_enter Trym.func4, Trym.ntmps4
  go_wp2_with fail
  refine (bytes_any' _ _ _ _ _ _ _ _ _ (by omega) (by omega)).mono ?_
  rintro e w' ⟨rfl, hw'⟩
  subst hw'
  rw [hB]
  clear hB
  go_wp2_with fail
  refine (window_zero _ _ _ _ [] [] w').mono ?_
  rintro e w3 ⟨rfl, bl3⟩
  have hd3 := bl3.held
  have be3 := bl3.below
  have hbl3 : Below w'.heap.size w' w3 := be3
  have lt3 : w'.heap.size < w3.heap.size := by obtain ⟨_, _, _, _, X⟩ := hd3; exact X.hB
  clear bl3 be3
  go_wp2_with fail
  refine (zzholds_any w'.heap.size w3.heap.size w'.heap.size 0 0 [] [] s w3 hd3 (by omega) s0 s1).mono ?_
  rintro e w4 ⟨rfl, hd4, ap4⟩
  have hbl4 : Below w'.heap.size w' w4 := hbl3.trans (ap4.toBelow (by omega) (by omega))
  have sz4 := ap4.size
  clear hbl3 hd3 ap4
  go_wp2_with fail
  refine (len_any _ _ _ _ _ _ _ _ hd4).mono ?_
  rintro e w5 ⟨rfl, rfl⟩
  go_wp2_with fail
  refine (zzholds_any w'.heap.size w3.heap.size w'.heap.size _ _ [] [] t _ hd4 (by omega) t0 t1).mono ?_
  rintro e w6 ⟨rfl, hd6, ap6⟩
  have hbl6 : Below w'.heap.size w' w6 := hbl4.trans (ap6.toBelow (by omega) (by omega))
  have sz6 := ap6.size
  clear hbl4 hd4 ap6
  go_wp2_with fail
  refine (len_any _ _ _ _ _ _ _ _ hd6).mono ?_
  rintro e w7 ⟨rfl, rfl⟩
  clear hd6
  go_wp2_with fail
  refine (window_zero _ _ _ _ [] [] _).mono ?_
  rintro e w8 ⟨rfl, bl8⟩
  have hf8 := bl8.held
  have be8 := bl8.below
  have hbl8 : Below w'.heap.size w' w8 := hbl6.trans (be8.mono (by omega))
  have lt8 : w7.heap.size < w8.heap.size := by obtain ⟨_, _, _, _, X⟩ := hf8; exact X.hB
  clear bl8 hbl6 be8
  go_wp2_with fail
  refine (zzholds_any w7.heap.size w8.heap.size w7.heap.size 0 0 [] [] t w8 hf8 (by omega) t0 t1).mono ?_
  rintro e w9 ⟨rfl, hf9, ap9⟩
  have hbl9 : Below w'.heap.size w' w9 := hbl8.trans (ap9.toBelow (by omega) (by omega))
  clear hbl8 hf8 ap9
  go_wp2_with fail
  refine (len_any _ _ _ _ _ _ _ _ hf9).mono ?_
  rintro e w10 ⟨rfl, rfl⟩
  clear hf9
  go_wp2_with fail
  refine (first_zero _ _ _ _ s _).mono ?_
  rintro e w11 ⟨rfl, rfl⟩
  go_wp2_with fail
  refine (first_zero _ _ _ _ t _).mono ?_
  rintro e w12 ⟨rfl, rfl⟩
  go_wp2_with fail
  refine wp_loop_rounds 1 ?_
  rw [rounds_succ]
  go_wp2
  go_ret
  exact ⟨rfl, hbl9⟩

set_option maxRecDepth 100000 in
set_option maxHeartbeats 2000000 in
theorem late_zero_nn_dn (s t : Int) (w : World) (s0 : -9223372036854775808 ≤ s) (s1 : s ≤ 9223372036854775807) (t0 : -9223372036854775808 ≤ t) (t1 : t ≤ 9223372036854775807) (hcase : ¬ s < t) :
    Calls Trym.prog 4 #[.slice none 0 0, .slice none 0 0, .int .i64 s, .int .i64 t] w fun e w' => e = .returned (.bool true) ∧ Below w.heap.size w w' := by
  have hB : decide (0 + 0 ≤ 1048576) = true := rfl
  have hnil := fun (w : World) (x : Addr) (k : Nat) => run_neq_slice_nil_any (P := Trym.prog) w 22 2 (some x) 0 k 0 0 Trym.underlying22
  have hnil' := fun (w : World) => run_neq_slice_nil_any (P := Trym.prog) w 22 2 none 0 0 0 0 Trym.underlying22
  have hmk : ∀ w, (Instr.makeSlice 22 (.int .i64 0) (.int .i64 0)).run Trym.prog w = .ok (.slice (some ⟨w.heap.size, 0, none⟩) 0 0) (w.alloc (.cells #[] 2)) := fun _ => by kernel_rfl
  go_enter Trym.func4, Trym.ntmps4
  go_wp2_with fail
  refine (bytes_any' _ _ _ _ _ _ _ _ _ (by omega) (by omega)).mono ?_
  rintro e w' ⟨rfl, hw'⟩
  subst hw'
  rw [hB]
  clear hB
  go_wp2_with fail
  refine (window_zero _ _ _ _ [] [] w').mono ?_
  rintro e w3 ⟨rfl, bl3⟩
  have hd3 := bl3.held
  have be3 := bl3.below
  have hbl3 : Below w'.heap.size w' w3 := be3
  have lt3 : w'.heap.size < w3.heap.size := by obtain ⟨_, _, _, _, X⟩ := hd3; exact X.hB
  clear bl3 be3
  go_wp2_with fail
  refine (zzholds_any w'.heap.size w3.heap.size w'.heap.size 0 0 [] [] s w3 hd3 (by omega) s0 s1).mono ?_
  rintro e w4 ⟨rfl, hd4, ap4⟩
  have hbl4 : Below w'.heap.size w' w4 := hbl3.trans (ap4.toBelow (by omega) (by omega))
  have sz4 := ap4.size
  clear hbl3 hd3 ap4
  go_wp2_with fail
  refine (len_any _ _ _ _ _ _ _ _ hd4).mono ?_
  rintro e w5 ⟨rfl, rfl⟩
  go_wp2_with fail
  refine (zzholds_any w'.heap.size w3.heap.size w'.heap.size _ _ [] [] t _ hd4 (by omega) t0 t1).mono ?_
  rintro e w6 ⟨rfl, hd6, ap6⟩
  have hbl6 : Below w'.heap.size w' w6 := hbl4.trans (ap6.toBelow (by omega) (by omega))
  have sz6 := ap6.size
  clear hbl4 hd4 ap6
  go_wp2_with fail
  refine (len_any _ _ _ _ _ _ _ _ hd6).mono ?_
  rintro e w7 ⟨rfl, rfl⟩
  clear hd6
  go_wp2_with fail
  refine (window_zero _ _ _ _ [] [] _).mono ?_
  rintro e w8 ⟨rfl, bl8⟩
  have hf8 := bl8.held
  have be8 := bl8.below
  have hbl8 : Below w'.heap.size w' w8 := hbl6.trans (be8.mono (by omega))
  have lt8 : w7.heap.size < w8.heap.size := by obtain ⟨_, _, _, _, X⟩ := hf8; exact X.hB
  clear bl8 hbl6 be8
  go_wp2_with fail
  refine (zzholds_any w7.heap.size w8.heap.size w7.heap.size 0 0 [] [] s w8 hf8 (by omega) s0 s1).mono ?_
  rintro e w9 ⟨rfl, hf9, ap9⟩
  have hbl9 : Below w'.heap.size w' w9 := hbl8.trans (ap9.toBelow (by omega) (by omega))
  clear hbl8 hf8 ap9
  go_wp2_with fail
  refine (len_any _ _ _ _ _ _ _ _ hf9).mono ?_
  rintro e w10 ⟨rfl, rfl⟩
  clear hf9
  go_wp2_with fail
  refine (first_zero _ _ _ _ s _).mono ?_
  rintro e w11 ⟨rfl, rfl⟩
  go_wp2_with fail
  refine (first_zero _ _ _ _ s _).mono ?_
  rintro e w12 ⟨rfl, rfl⟩
  go_wp2_with fail
  refine wp_loop_rounds 1 ?_
  rw [rounds_succ]
  go_wp2
  go_ret
  exact ⟨rfl, hbl9⟩

set_option maxRecDepth 100000 in
set_option maxHeartbeats 2000000 in
theorem late_zero_sn_up (x0 : Addr) (cap0 : Nat) (s t : Int) (w : World) (s0 : -9223372036854775808 ≤ s) (s1 : s ≤ 9223372036854775807) (t0 : -9223372036854775808 ≤ t) (t1 : t ≤ 9223372036854775807) (hcase : s < t) :
    Calls Trym.prog 4 #[.slice (some x0) 0 cap0, .slice none 0 0, .int .i64 s, .int .i64 t] w fun e w' => e = .returned (.bool true) ∧ Below w.heap.size w w' := by
  have hB : decide (0 + 0 ≤ 1048576) = true := rfl
  have hnil := fun (w : World) (x : Addr) (k : Nat) => run_neq_slice_nil_any (P := Trym.prog) w 22 2 (some x) 0 k 0 0 Trym.underlying22
  have hnil' := fun (w : World) => run_neq_slice_nil_any (P := Trym.prog) w 22 2 none 0 0 0 0 Trym.underlying22
  have hmk : ∀ w, (Instr.makeSlice 22 (.int .i64 0) (.int .i64 0)).run Trym.prog w = .ok (.slice (some ⟨w.heap.size, 0, none⟩) 0 0) (w.alloc (.cells #[] 2)) := fun _ => by kernel_rfl
  go_enter Trym.func4, Trym.ntmps4
  go_wp2_with fail
  refine (bytes_any' _ _ _ _ _ _ _ _ _ (by omega) (by omega)).mono ?_
  rintro e w' ⟨rfl, hw'⟩
  subst hw'
  rw [hB]
  clear hB
  go_upto_region 11 with fail
  go_upto_region 12 with (refine wpList_copy_nothing rfl (.tmp 46) (.tmp 47) 22 22 rfl 2 Trym.underlying22 size2 _ _ _ _ _ _ rfl rfl rfl ?_)
  go_wp2_with fail
  have b2 : Below w'.heap.size w' (w'.alloc (.cells #[] 2)) := (Below.refl _ _).alloc (Nat.le_refl _) _
  generalize w'.alloc (.cells #[] 2) = w2 at *
  have b2s := b2.size
  refine (window_zero _ _ _ _ [] [] w2).mono ?_
  rintro e w3 ⟨rfl, bl3⟩
  have hd3 := bl3.held
  have be3 := bl3.below
  have hbl3 : Below w'.heap.size w' w3 := b2.trans (be3.mono b2s)
  have lt3 : w2.heap.size < w3.heap.size := by obtain ⟨_, _, _, _, X⟩ := hd3; exact X.hB
  clear bl3 be3
  go_wp2_with fail
  refine (zzholds_any w2.heap.size w3.heap.size w2.heap.size 0 0 [] [] s w3 hd3 (by omega) s0 s1).mono ?_
  rintro e w4 ⟨rfl, hd4, ap4⟩
  have hbl4 : Below w'.heap.size w' w4 := hbl3.trans (ap4.toBelow (by omega) (by omega))
  have sz4 := ap4.size
  clear hbl3 hd3 ap4
  go_wp2_with fail
  refine (len_any _ _ _ _ _ _ _ _ hd4).mono ?_
  rintro e w5 ⟨rfl, rfl⟩
  go_wp2_with fail
  refine (zzholds_any w2.heap.size w3.heap.size w2.heap.size _ _ [] [] t _ hd4 (by omega) t0 t1).mono ?_
  rintro e w6 ⟨rfl, hd6, ap6⟩
  have hbl6 : Below w'.heap.size w' w6 := hbl4.trans (ap6.toBelow (by omega) (by omega))
  have sz6 := ap6.size
  clear hbl4 hd4 ap6
  go_wp2_with fail
  refine (len_any _ _ _ _ _ _ _ _ hd6).mono ?_
  rintro e w7 ⟨rfl, rfl⟩
  clear hd6
  go_wp2_with fail
  refine (window_zero _ _ _ _ [] [] _).mono ?_
  rintro e w8 ⟨rfl, bl8⟩
  have hf8 := bl8.held
  have be8 := bl8.below
  have hbl8 : Below w'.heap.size w' w8 := hbl6.trans (be8.mono (by omega))
  have lt8 : w7.heap.size < w8.heap.size := by obtain ⟨_, _, _, _, X⟩ := hf8; exact X.hB
  clear bl8 hbl6 be8
  go_wp2_with fail
  refine (zzholds_any w7.heap.size w8.heap.size w7.heap.size 0 0 [] [] t w8 hf8 (by omega) t0 t1).mono ?_
  rintro e w9 ⟨rfl, hf9, ap9⟩
  have hbl9 : Below w'.heap.size w' w9 := hbl8.trans (ap9.toBelow (by omega) (by omega))
  clear hbl8 hf8 ap9
  go_wp2_with fail
  refine (len_any _ _ _ _ _ _ _ _ hf9).mono ?_
  rintro e w10 ⟨rfl, rfl⟩
  clear hf9
  go_wp2_with fail
  refine (first_zero _ _ _ _ s _).mono ?_
  rintro e w11 ⟨rfl, rfl⟩
  go_wp2_with fail
  refine (first_zero _ _ _ _ t _).mono ?_
  rintro e w12 ⟨rfl, rfl⟩
  go_wp2_with fail
  refine wp_loop_rounds 1 ?_
  rw [rounds_succ]
  go_wp2
  go_ret
  exact ⟨rfl, hbl9⟩

set_option maxRecDepth 100000 in
set_option maxHeartbeats 2000000 in
theorem late_zero_sn_dn (x0 : Addr) (cap0 : Nat) (s t : Int) (w : World) (s0 : -9223372036854775808 ≤ s) (s1 : s ≤ 9223372036854775807) (t0 : -9223372036854775808 ≤ t) (t1 : t ≤ 9223372036854775807) (hcase : ¬ s < t) :
    Calls Trym.prog 4 #[.slice (some x0) 0 cap0, .slice none 0 0, .int .i64 s, .int .i64 t] w fun e w' => e = .returned (.bool true) ∧ Below w.heap.size w w' := by
  have hB : decide (0 + 0 ≤ 1048576) = true := rfl
  have hnil := fun (w : World) (x : Addr) (k : Nat) => run_neq_slice_nil_any (P := Trym.prog) w 22 2 (some x) 0 k 0 0 Trym.underlying22
  have hnil' := fun (w : World) => run_neq_slice_nil_any (P := Trym.prog) w 22 2 none 0 0 0 0 Trym.underlying22
  have hmk : ∀ w, (Instr.makeSlice 22 (.int .i64 0) (.int .i64 0)).run Trym.prog w = .ok (.slice (some ⟨w.heap.size, 0, none⟩) 0 0) (w.alloc (.cells #[] 2)) := fun _ => by kernel_rfl
  go_enter Trym.func4, Trym.ntmps4
  go_wp2_with fail
  refine (bytes_any' _ _ _ _ _ _ _ _ _ (by omega) (by omega)).mono ?_
  rintro e w' ⟨rfl, hw'⟩
  subst hw'
  rw [hB]
  clear hB
  go_upto_region 11 with fail
  go_upto_region 12 with (refine wpList_copy_nothing rfl (.tmp 46) (.tmp 47) 22 22 rfl 2 Trym.underlying22 size2 _ _ _ _ _ _ rfl rfl rfl ?_)
  go_wp2_with fail
  have b2 : Below w'.heap.size w' (w'.alloc (.cells #[] 2)) := (Below.refl _ _).alloc (Nat.le_refl _) _
  generalize w'.alloc (.cells #[] 2) = w2 at *
  have b2s := b2.size
  refine (window_zero _ _ _ _ [] [] w2).mono ?_
  rintro e w3 ⟨rfl, bl3⟩
  have hd3 := bl3.held
  have be3 := bl3.below
  have hbl3 : Below w'.heap.size w' w3 := b2.trans (be3.mono b2s)
  have lt3 : w2.heap.size < w3.heap.size := by obtain ⟨_, _, _, _, X⟩ := hd3; exact X.hB
  clear bl3 be3
  go_wp2_with fail
  refine (zzholds_any w2.heap.size w3.heap.size w2.heap.size 0 0 [] [] s w3 hd3 (by omega) s0 s1).mono ?_
  rintro e w4 ⟨rfl, hd4, ap4⟩
  have hbl4 : Below w'.heap.size w' w4 := hbl3.trans (ap4.toBelow (by omega) (by omega))
  have sz4 := ap4.size
  clear hbl3 hd3 ap4
  go_wp2_with fail
  refine (len_any _ _ _ _ _ _ _ _ hd4).mono ?_
  rintro e w5 ⟨rfl, rfl⟩
  go_wp2_with fail
  refine (zzholds_any w2.heap.size w3.heap.size w2.heap.size _ _ [] [] t _ hd4 (by omega) t0 t1).mono ?_
  rintro e w6 ⟨rfl, hd6, ap6⟩
  have hbl6 : Below w'.heap.size w' w6 := hbl4.trans (ap6.toBelow (by omega) (by omega))
  have sz6 := ap6.size
  clear hbl4 hd4 ap6
  go_wp2_with fail
  refine (len_any _ _ _ _ _ _ _ _ hd6).mono ?_
  rintro e w7 ⟨rfl, rfl⟩
  clear hd6
  go_wp2_with fail
  refine (window_zero _ _ _ _ [] [] _).mono ?_
  rintro e w8 ⟨rfl, bl8⟩
  have hf8 := bl8.held
  have be8 := bl8.below
  have hbl8 : Below w'.heap.size w' w8 := hbl6.trans (be8.mono (by omega))
  have lt8 : w7.heap.size < w8.heap.size := by obtain ⟨_, _, _, _, X⟩ := hf8; exact X.hB
  clear bl8 hbl6 be8
  go_wp2_with fail
  refine (zzholds_any w7.heap.size w8.heap.size w7.heap.size 0 0 [] [] s w8 hf8 (by omega) s0 s1).mono ?_
  rintro e w9 ⟨rfl, hf9, ap9⟩
  have hbl9 : Below w'.heap.size w' w9 := hbl8.trans (ap9.toBelow (by omega) (by omega))
  clear hbl8 hf8 ap9
  go_wp2_with fail
  refine (len_any _ _ _ _ _ _ _ _ hf9).mono ?_
  rintro e w10 ⟨rfl, rfl⟩
  clear hf9
  go_wp2_with fail
  refine (first_zero _ _ _ _ s _).mono ?_
  rintro e w11 ⟨rfl, rfl⟩
  go_wp2_with fail
  refine (first_zero _ _ _ _ s _).mono ?_
  rintro e w12 ⟨rfl, rfl⟩
  go_wp2_with fail
  refine wp_loop_rounds 1 ?_
  rw [rounds_succ]
  go_wp2
  go_ret
  exact ⟨rfl, hbl9⟩

set_option maxRecDepth 100000 in
set_option maxHeartbeats 2000000 in
theorem late_zero_ns_up (x1 : Addr) (cap1 : Nat) (s t : Int) (w : World) (s0 : -9223372036854775808 ≤ s) (s1 : s ≤ 9223372036854775807) (t0 : -9223372036854775808 ≤ t) (t1 : t ≤ 9223372036854775807) (hcase : s < t) :
    Calls Trym.prog 4 #[.slice none 0 0, .slice (some x1) 0 cap1, .int .i64 s, .int .i64 t] w fun e w' => e = .returned (.bool true) ∧ Below w.heap.size w w' := by
  have hB : decide (0 + 0 ≤ 1048576) = true := rfl
  have hnil := fun (w : World) (x : Addr) (k : Nat) => run_neq_slice_nil_any (P := Trym.prog) w 22 2 (some x) 0 k 0 0 Trym.underlying22
  have hnil' := fun (w : World) => run_neq_slice_nil_any (P := Trym.prog) w 22 2 none 0 0 0 0 Trym.underlying22
  have hmk : ∀ w, (Instr.makeSlice 22 (.int .i64 0) (.int .i64 0)).run Trym.prog w = .ok (.slice (some ⟨w.heap.size, 0, none⟩) 0 0) (w.alloc (.cells #[] 2)) := fun _ => by kernel_rfl
  go_enter Trym.func4, Trym.ntmps4
  go_wp2_with fail
  refine (bytes_any' _ _ _ _ _ _ _ _ _ (by omega) (by omega)).mono ?_
  rintro e w' ⟨rfl, hw'⟩
  subst hw'
  rw [hB]
  clear hB
  go_upto_region 15 with fail
  go_upto_region 16 with (refine wpList_copy_nothing rfl (.tmp 55) (.tmp 56) 22 22 rfl 2 Trym.underlying22 size2 _ _ _ _ _ _ rfl rfl rfl ?_)
  go_wp2_with fail
  have b2 : Below w'.heap.size w' (w'.alloc (.cells #[] 2)) := (Below.refl _ _).alloc (Nat.le_refl _) _
  generalize w'.alloc (.cells #[] 2) = w2 at *
  have b2s := b2.size
  refine (window_zero _ _ _ _ [] [] w2).mono ?_
  rintro e w3 ⟨rfl, bl3⟩
  have hd3 := bl3.held
  have be3 := bl3.below
  have hbl3 : Below w'.heap.size w' w3 := b2.trans (be3.mono b2s)
  have lt3 : w2.heap.size < w3.heap.size := by obtain ⟨_, _, _, _, X⟩ := hd3; exact X.hB
  clear bl3 be3
  go_wp2_with fail
  refine (zzholds_any w2.heap.size w3.heap.size w2.heap.size 0 0 [] [] s w3 hd3 (by omega) s0 s1).mono ?_
  rintro e w4 ⟨rfl, hd4, ap4⟩
  have hbl4 : Below w'.heap.size w' w4 := hbl3.trans (ap4.toBelow (by omega) (by omega))
  have sz4 := ap4.size
  clear hbl3 hd3 ap4
  go_wp2_with fail
  refine (len_any _ _ _ _ _ _ _ _ hd4).mono ?_
  rintro e w5 ⟨rfl, rfl⟩
  go_wp2_with fail
  refine (zzholds_any w2.heap.size w3.heap.size w2.heap.size _ _ [] [] t _ hd4 (by omega) t0 t1).mono ?_
  rintro e w6 ⟨rfl, hd6, ap6⟩
  have hbl6 : Below w'.heap.size w' w6 := hbl4.trans (ap6.toBelow (by omega) (by omega))
  have sz6 := ap6.size
  clear hbl4 hd4 ap6
  go_wp2_with fail
  refine (len_any _ _ _ _ _ _ _ _ hd6).mono ?_
  rintro e w7 ⟨rfl, rfl⟩
  clear hd6
  go_wp2_with fail
  refine (window_zero _ _ _ _ [] [] _).mono ?_
  rintro e w8 ⟨rfl, bl8⟩
  have hf8 := bl8.held
  have be8 := bl8.below
  have hbl8 : Below w'.heap.size w' w8 := hbl6.trans (be8.mono (by omega))
  have lt8 : w7.heap.size < w8.heap.size := by obtain ⟨_, _, _, _, X⟩ := hf8; exact X.hB
  clear bl8 hbl6 be8
  go_wp2_with fail
  refine (zzholds_any w7.heap.size w8.heap.size w7.heap.size 0 0 [] [] t w8 hf8 (by omega) t0 t1).mono ?_
  rintro e w9 ⟨rfl, hf9, ap9⟩
  have hbl9 : Below w'.heap.size w' w9 := hbl8.trans (ap9.toBelow (by omega) (by omega))
  clear hbl8 hf8 ap9
  go_wp2_with fail
  refine (len_any _ _ _ _ _ _ _ _ hf9).mono ?_
  rintro e w10 ⟨rfl, rfl⟩
  clear hf9
  go_wp2_with fail
  refine (first_zero _ _ _ _ s _).mono ?_
  rintro e w11 ⟨rfl, rfl⟩
  go_wp2_with fail
  refine (first_zero _ _ _ _ t _).mono ?_
  rintro e w12 ⟨rfl, rfl⟩
  go_wp2_with fail
  refine wp_loop_rounds 1 ?_
  rw [rounds_succ]
  go_wp2
  go_ret
  exact ⟨rfl, hbl9⟩

set_option maxRecDepth 100000 in
set_option maxHeartbeats 2000000 in
theorem late_zero_ns_dn (x1 : Addr) (cap1 : Nat) (s t : Int) (w : World) (s0 : -9223372036854775808 ≤ s) (s1 : s ≤ 9223372036854775807) (t0 : -9223372036854775808 ≤ t) (t1 : t ≤ 9223372036854775807) (hcase : ¬ s < t) :
    Calls Trym.prog 4 #[.slice none 0 0, .slice (some x1) 0 cap1, .int .i64 s, .int .i64 t] w fun e w' => e = .returned (.bool true) ∧ Below w.heap.size w w' := by
  have hB : decide (0 + 0 ≤ 1048576) = true := rfl
  have hnil := fun (w : World) (x : Addr) (k : Nat) => run_neq_slice_nil_any (P := Trym.prog) w 22 2 (some x) 0 k 0 0 Trym.underlying22
  have hnil' := fun (w : World) => run_neq_slice_nil_any (P := Trym.prog) w 22 2 none 0 0 0 0 Trym.underlying22
  have hmk : ∀ w, (Instr.makeSlice 22 (.int .i64 0) (.int .i64 0)).run Trym.prog w = .ok (.slice (some ⟨w.heap.size, 0, none⟩) 0 0) (w.alloc (.cells #[] 2)) := fun _ => by kernel_rfl
  go_enter Trym.func4, Trym.ntmps4
  go_wp2_with fail
  refine (bytes_any' _ _ _ _ _ _ _ _ _ (by omega) (by omega)).mono ?_
  rintro e w' ⟨rfl, hw'⟩
  subst hw'
  rw [hB]
  clear hB
  go_upto_region 15 with fail
  go_upto_region 16 with (refine wpList_copy_nothing rfl (.tmp 55) (.tmp 56) 22 22 rfl 2 Trym.underlying22 size2 _ _ _ _ _ _ rfl rfl rfl ?_)
  go_wp2_with fail
  have b2 : Below w'.heap.size w' (w'.alloc (.cells #[] 2)) := (Below.refl _ _).alloc (Nat.le_refl _) _
  generalize w'.alloc (.cells #[] 2) = w2 at *
  have b2s := b2.size
  refine (window_zero _ _ _ _ [] [] w2).mono ?_
  rintro e w3 ⟨rfl, bl3⟩
  have hd3 := bl3.held
  have be3 := bl3.below
  have hbl3 : Below w'.heap.size w' w3 := b2.trans (be3.mono b2s)
  have lt3 : w2.heap.size < w3.heap.size := by obtain ⟨_, _, _, _, X⟩ := hd3; exact X.hB
  clear bl3 be3
  go_wp2_with fail
  refine (zzholds_any w2.heap.size w3.heap.size w2.heap.size 0 0 [] [] s w3 hd3 (by omega) s0 s1).mono ?_
  rintro e w4 ⟨rfl, hd4, ap4⟩
  have hbl4 : Below w'.heap.size w' w4 := hbl3.trans (ap4.toBelow (by omega) (by omega))
  have sz4 := ap4.size
  clear hbl3 hd3 ap4
  go_wp2_with fail
  refine (len_any _ _ _ _ _ _ _ _ hd4).mono ?_
  rintro e w5 ⟨rfl, rfl⟩
  go_wp2_with fail
  refine (zzholds_any w2.heap.size w3.heap.size w2.heap.size _ _ [] [] t _ hd4 (by omega) t0 t1).mono ?_
  rintro e w6 ⟨rfl, hd6, ap6⟩
  have hbl6 : Below w'.heap.size w' w6 := hbl4.trans (ap6.toBelow (by omega) (by omega))
  have sz6 := ap6.size
  clear hbl4 hd4 ap6
  go_wp2_with fail
  refine (len_any _ _ _ _ _ _ _ _ hd6).mono ?_
  rintro e w7 ⟨rfl, rfl⟩
  clear hd6
  go_wp2_with fail
  refine (window_zero _ _ _ _ [] [] _).mono ?_
  rintro e w8 ⟨rfl, bl8⟩
  have hf8 := bl8.held
  have be8 := bl8.below
  have hbl8 : Below w'.heap.size w' w8 := hbl6.trans (be8.mono (by omega))
  have lt8 : w7.heap.size < w8.heap.size := by obtain ⟨_, _, _, _, X⟩ := hf8; exact X.hB
  clear bl8 hbl6 be8
  go_wp2_with fail
  refine (zzholds_any w7.heap.size w8.heap.size w7.heap.size 0 0 [] [] s w8 hf8 (by omega) s0 s1).mono ?_
  rintro e w9 ⟨rfl, hf9, ap9⟩
  have hbl9 : Below w'.heap.size w' w9 := hbl8.trans (ap9.toBelow (by omega) (by omega))
  clear hbl8 hf8 ap9
  go_wp2_with fail
  refine (len_any _ _ _ _ _ _ _ _ hf9).mono ?_
  rintro e w10 ⟨rfl, rfl⟩
  clear hf9
  go_wp2_with fail
  refine (first_zero _ _ _ _ s _).mono ?_
  rintro e w11 ⟨rfl, rfl⟩
  go_wp2_with fail
  refine (first_zero _ _ _ _ s _).mono ?_
  rintro e w12 ⟨rfl, rfl⟩
  go_wp2_with fail
  refine wp_loop_rounds 1 ?_
  rw [rounds_succ]
  go_wp2
  go_ret
  exact ⟨rfl, hbl9⟩

end Go.Proofs.Qxb6615885aMods.Win
