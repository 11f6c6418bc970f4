/-
  FnHoldsAtAnyCut where a slice is nil (so both are without elements).
-/
import Derived.Test.Qxb6615885aModsCut
namespace Go.Proofs.Qxb6615885aMods.Win
open Go.ChangeShapes Go.WideShapes Go.ChangeAt Go.RowKit
open Tm

set_option maxRecDepth 100000 in
set_option maxHeartbeats 2000000 in
theorem cut_zero_nn (t : Int) (w : World) (t0 : -9223372036854775808 ≤ t) (t1 : t ≤ 9223372036854775807) :
    Calls Trym.prog 3 #[.slice none 0 0, .slice none 0 0, .int .i64 0, .int .i64 t] w fun e w' => e = .returned (.bool true) ∧ Below w.heap.size w w' := by
  have hB : decide (0 + 0 ≤ 1048576) = true := rfl
  have hnil := fun (w : World) (x : Addr) (k : Nat) => run_neq_slice_nil_any (P := Trym.prog) w 22 2 (some x) 0 k 0 0 Trym.underlying22
  have hnil' := fun (w : World) => run_neq_slice_nil_any (P := Trym.prog) w 22 2 none 0 0 0 0 Trym.underlying22
  have hmk : ∀ w, (Instr.makeSlice 22 (.int .i64 0) (.int .i64 0)).run Trym.prog w = .ok (.slice (some ⟨w.heap.size, 0, none⟩) 0 0) (w.alloc (.cells #[] 2)) := fun _ => by kernel_rfl
  go_enter Trym.func3, Trym.ntmps3
  go_wp2_with fail
  refine (bytes_any _ _ _ _ _ _ _ _ _ (by omega) (by omega)).mono ?_
  rintro e w' ⟨rfl, hw'⟩
  subst hw'
  rw [hB]
  clear hB
  go_wp2_with fail
  obtain ⟨w2, b2, hw2⟩ : ∃ x, Below w'.heap.size w' x ∧ w' = x := ⟨w', Below.refl _ _, rfl⟩
  have HW2 := hide hw2
  clear hw2
  refine (window_zero _ _ _ _ [] [] w').mono ?_
  rintro e w3 ⟨rfl, bl3⟩
  have hd3 := bl3.held
  have be3 := bl3.below
  have hbl3 : Below w'.heap.size w' w3 := be3
  have lt3 : w'.heap.size < w3.heap.size := by obtain ⟨_, _, _, _, X⟩ := hd3; exact X.hB
  clear bl3 be3
  go_wp2_with fail
  go_region_with (first | (go_at_call 8; refine (window_zero _ _ _ _ [] [] w3.drew).mono ?_; rintro e w4 ⟨rfl, bl4⟩))
  rw [World.size_drew] at bl4
  have hd4 := bl4.held
  have be4 : Below w3.heap.size w3 w4 := (Below.refl _ _).drew.trans bl4.below
  have hd3' := hd3.below be4
  have hbl4 : Below w'.heap.size w' w4 := hbl3.trans (be4.mono (by omega))
  have lt4 : w3.heap.size < w4.heap.size := by obtain ⟨_, _, _, _, X⟩ := hd4; exact X.hB
  clear bl4 hbl3 hd3 be4
  go_wp2_with fail
  go_region_with (first | (go_at_call 8; refine (window_zero _ _ _ _ [] [] w4.drew).mono ?_; rintro e w5 ⟨rfl, bl5⟩))
  rw [World.size_drew] at bl5
  have hd5 := bl5.held
  have be5 : Below w4.heap.size w4 w5 := (Below.refl _ _).drew.trans bl5.below
  have hw5 := hd3'.below be5
  have hf5 := hd4.below be5
  have hbl5 : Below w'.heap.size w' w5 := hbl4.trans (be5.mono (by omega))
  have lt5 : w4.heap.size < w5.heap.size := by obtain ⟨_, _, _, _, X⟩ := hd5; exact X.hB
  clear bl5 hbl4 hd3' hd4 be5
  go_wp2_with fail
  refine (zzholds_any w'.heap.size w3.heap.size w'.heap.size 0 0 [] [] t w5 hw5 (by omega) t0 t1).mono ?_
  rintro e w6 ⟨rfl, hw6, ap6⟩
  have hf6 := hf5.apart ap6 (Or.inr (Nat.le_refl _))
  have hb6 := hd5.apart ap6 (Or.inr (by omega))
  have hbl6 : Below w'.heap.size w' w6 := hbl5.trans (ap6.toBelow (by omega) (by omega))
  have sz6 := ap6.size
  clear hw5 ap6 hf5 hd5 hbl5
  go_wp2_with fail
  refine (zzholds_any w3.heap.size w4.heap.size w3.heap.size 0 0 [] [] t w6 hf6 (by omega) t0 t1).mono ?_
  rintro e w7 ⟨rfl, hf7, ap7⟩
  have hw7 := hw6.apart ap7 (Or.inl (Nat.le_refl _))
  have hb7 := hb6.apart ap7 (Or.inr (Nat.le_refl _))
  have hbl7 : Below w'.heap.size w' w7 := hbl6.trans (ap7.toBelow (by omega) (by omega))
  have sz7 := ap7.size
  clear hf6 ap7 hw6 hb6 hbl6
  go_wp2_with fail
  refine (zzholds_any w4.heap.size w5.heap.size w4.heap.size 0 0 [] [] t w7 hb7 (by omega) t0 t1).mono ?_
  rintro e w8 ⟨rfl, hb8, ap8⟩
  have hw8 := hw7.apart ap8 (Or.inl (by omega))
  have hf8 := hf7.apart ap8 (Or.inl (Nat.le_refl _))
  have hbl8 : Below w'.heap.size w' w8 := hbl7.trans (ap8.toBelow (by omega) (by omega))
  clear hb7 ap8 hw7 hf7 hbl7
  go_wp2_with fail
  refine (len_any _ _ _ _ _ _ _ _ hw8).mono ?_
  rintro e w9 ⟨rfl, rfl⟩
  go_wp2_with fail
  refine (len_any _ _ _ _ _ _ _ _ hf8).mono ?_
  rintro e w10 ⟨rfl, rfl⟩
  go_wp2_with fail
  refine (len_any _ _ _ _ _ _ _ _ hb8).mono ?_
  rintro e w11 ⟨rfl, rfl⟩
  clear hf8 hb8 hw8
  go_wp2_with fail
  refine (first_zero _ _ _ _ t _).mono ?_
  rintro e w12 ⟨rfl, rfl⟩
  go_wp2_with fail
  refine wp_loop_rounds 1 ?_
  rw [rounds_succ]
  go_wp2
  go_ret
  exact ⟨rfl, hbl8⟩

set_option maxRecDepth 100000 in
set_option maxHeartbeats 2000000 in
theorem cut_zero_sn (x0 : Addr) (cap0 : Nat) (t : Int) (w : World) (t0 : -9223372036854775808 ≤ t) (t1 : t ≤ 9223372036854775807) :
    Calls Trym.prog 3 #[.slice (some x0) 0 cap0, .slice none 0 0, .int .i64 0, .int .i64 t] w fun e w' => e = .returned (.bool true) ∧ Below w.heap.size w w' := by
  have hB : decide (0 + 0 ≤ 1048576) = true := rfl
  have hnil := fun (w : World) (x : Addr) (k : Nat) => run_neq_slice_nil_any (P := Trym.prog) w 22 2 (some x) 0 k 0 0 Trym.underlying22
  have hnil' := fun (w : World) => run_neq_slice_nil_any (P := Trym.prog) w 22 2 none 0 0 0 0 Trym.underlying22
  have hmk : ∀ w, (Instr.makeSlice 22 (.int .i64 0) (.int .i64 0)).run Trym.prog w = .ok (.slice (some ⟨w.heap.size, 0, none⟩) 0 0) (w.alloc (.cells #[] 2)) := fun _ => by kernel_rfl
  go_enter Trym.func3, Trym.ntmps3
  go_wp2_with fail
  refine (bytes_any _ _ _ _ _ _ _ _ _ (by omega) (by omega)).mono ?_
  rintro e w' ⟨rfl, hw'⟩
  subst hw'
  rw [hB]
  clear hB
  go_upto_region 13 with fail
  go_upto_region 14 with (refine wpList_copy_nothing rfl (.tmp 53) (.tmp 54) 22 22 rfl 2 Trym.underlying22 size2 _ _ _ _ _ _ rfl rfl rfl ?_)
  go_wp2_with fail
  have b2 : Below w'.heap.size w' (w'.alloc (.cells #[] 2)) := (Below.refl _ _).alloc (Nat.le_refl _) _
  generalize w'.alloc (.cells #[] 2) = w2 at *
  have b2s := b2.size
  refine (window_zero _ _ _ _ [] [] w2).mono ?_
  rintro e w3 ⟨rfl, bl3⟩
  have hd3 := bl3.held
  have be3 := bl3.below
  have hbl3 : Below w'.heap.size w' w3 := b2.trans (be3.mono b2s)
  have lt3 : w2.heap.size < w3.heap.size := by obtain ⟨_, _, _, _, X⟩ := hd3; exact X.hB
  clear bl3 be3
  go_wp2_with fail
  go_region_with (first | (go_at_call 8; refine (window_zero _ _ _ _ [] [] w3.drew).mono ?_; rintro e w4 ⟨rfl, bl4⟩))
  rw [World.size_drew] at bl4
  have hd4 := bl4.held
  have be4 : Below w3.heap.size w3 w4 := (Below.refl _ _).drew.trans bl4.below
  have hd3' := hd3.below be4
  have hbl4 : Below w'.heap.size w' w4 := hbl3.trans (be4.mono (by omega))
  have lt4 : w3.heap.size < w4.heap.size := by obtain ⟨_, _, _, _, X⟩ := hd4; exact X.hB
  clear bl4 hbl3 hd3 be4
  go_wp2_with fail
  go_region_with (first | (go_at_call 8; refine (window_zero _ _ _ _ [] [] w4.drew).mono ?_; rintro e w5 ⟨rfl, bl5⟩))
  rw [World.size_drew] at bl5
  have hd5 := bl5.held
  have be5 : Below w4.heap.size w4 w5 := (Below.refl _ _).drew.trans bl5.below
  have hw5 := hd3'.below be5
  have hf5 := hd4.below be5
  have hbl5 : Below w'.heap.size w' w5 := hbl4.trans (be5.mono (by omega))
  have lt5 : w4.heap.size < w5.heap.size := by obtain ⟨_, _, _, _, X⟩ := hd5; exact X.hB
  clear bl5 hbl4 hd3' hd4 be5
  go_wp2_with fail
  refine (zzholds_any w2.heap.size w3.heap.size w2.heap.size 0 0 [] [] t w5 hw5 (by omega) t0 t1).mono ?_
  rintro e w6 ⟨rfl, hw6, ap6⟩
  have hf6 := hf5.apart ap6 (Or.inr (Nat.le_refl _))
  have hb6 := hd5.apart ap6 (Or.inr (by omega))
  have hbl6 : Below w'.heap.size w' w6 := hbl5.trans (ap6.toBelow (by omega) (by omega))
  have sz6 := ap6.size
  clear hw5 ap6 hf5 hd5 hbl5
  go_wp2_with fail
  refine (zzholds_any w3.heap.size w4.heap.size w3.heap.size 0 0 [] [] t w6 hf6 (by omega) t0 t1).mono ?_
  rintro e w7 ⟨rfl, hf7, ap7⟩
  have hw7 := hw6.apart ap7 (Or.inl (Nat.le_refl _))
  have hb7 := hb6.apart ap7 (Or.inr (Nat.le_refl _))
  have hbl7 : Below w'.heap.size w' w7 := hbl6.trans (ap7.toBelow (by omega) (by omega))
  have sz7 := ap7.size
  clear hf6 ap7 hw6 hb6 hbl6
  go_wp2_with fail
  refine (zzholds_any w4.heap.size w5.heap.size w4.heap.size 0 0 [] [] t w7 hb7 (by omega) t0 t1).mono ?_
  rintro e w8 ⟨rfl, hb8, ap8⟩
  have hw8 := hw7.apart ap8 (Or.inl (by omega))
  have hf8 := hf7.apart ap8 (Or.inl (Nat.le_refl _))
  have hbl8 : Below w'.heap.size w' w8 := hbl7.trans (ap8.toBelow (by omega) (by omega))
  clear hb7 ap8 hw7 hf7 hbl7
  go_wp2_with fail
  refine (len_any _ _ _ _ _ _ _ _ hw8).mono ?_
  rintro e w9 ⟨rfl, rfl⟩
  go_wp2_with fail
  refine (len_any _ _ _ _ _ _ _ _ hf8).mono ?_
  rintro e w10 ⟨rfl, rfl⟩
  go_wp2_with fail
  refine (len_any _ _ _ _ _ _ _ _ hb8).mono ?_
  rintro e w11 ⟨rfl, rfl⟩
  clear hf8 hb8 hw8
  go_wp2_with fail
  refine (first_zero _ _ _ _ t _).mono ?_
  rintro e w12 ⟨rfl, rfl⟩
  go_wp2_with fail
  refine wp_loop_rounds 1 ?_
  rw [rounds_succ]
  go_wp2
  go_ret
  exact ⟨rfl, hbl8⟩

set_option maxRecDepth 100000 in
set_option maxHeartbeats 2000000 in
theorem cut_zero_ns (x1 : Addr) (cap1 : Nat) (t : Int) (w : World) (t0 : -9223372036854775808 ≤ t) (t1 : t ≤ 9223372036854775807) :
    Calls Trym.prog 3 #[.slice none 0 0, .slice (some x1) 0 cap1, .int .i64 0, .int .i64 t] w fun e w' => e = .returned (.bool true) ∧ Below w.heap.size w w' := by
  have hB : decide (0 + 0 ≤ 1048576) = true := rfl
  have hnil := fun (w : World) (x : Addr) (k : Nat) => run_neq_slice_nil_any (P := Trym.prog) w 22 2 (some x) 0 k 0 0 Trym.underlying22
  have hnil' := fun (w : World) => run_neq_slice_nil_any (P := Trym.prog) w 22 2 none 0 0 0 0 Trym.underlying22
  have hmk : ∀ w, (Instr.makeSlice 22 (.int .i64 0) (.int .i64 0)).run Trym.prog w = .ok (.slice (some ⟨w.heap.size, 0, none⟩) 0 0) (w.alloc (.cells #[] 2)) := fun _ => by kernel_rfl
  go_enter Trym.func3, Trym.ntmps3
  go_wp2_with fail
  refine (bytes_any _ _ _ _ _ _ _ _ _ (by omega) (by omega)).mono ?_
  rintro e w' ⟨rfl, hw'⟩
  subst hw'
  rw [hB]
  clear hB
  go_upto_region 17 with fail
  go_upto_region 18 with (refine wpList_copy_nothing rfl (.tmp 62) (.tmp 63) 22 22 rfl 2 Trym.underlying22 size2 _ _ _ _ _ _ rfl rfl rfl ?_)
  go_wp2_with fail
  have b2 : Below w'.heap.size w' (w'.alloc (.cells #[] 2)) := (Below.refl _ _).alloc (Nat.le_refl _) _
  generalize w'.alloc (.cells #[] 2) = w2 at *
  have b2s := b2.size
  refine (window_zero _ _ _ _ [] [] w2).mono ?_
  rintro e w3 ⟨rfl, bl3⟩
  have hd3 := bl3.held
  have be3 := bl3.below
  have hbl3 : Below w'.heap.size w' w3 := b2.trans (be3.mono b2s)
  have lt3 : w2.heap.size < w3.heap.size := by obtain ⟨_, _, _, _, X⟩ := hd3; exact X.hB
  clear bl3 be3
  go_wp2_with fail
  go_region_with (first | (go_at_call 8; refine (window_zero _ _ _ _ [] [] w3.drew).mono ?_; rintro e w4 ⟨rfl, bl4⟩))
  rw [World.size_drew] at bl4
  have hd4 := bl4.held
  have be4 : Below w3.heap.size w3 w4 := (Below.refl _ _).drew.trans bl4.below
  have hd3' := hd3.below be4
  have hbl4 : Below w'.heap.size w' w4 := hbl3.trans (be4.mono (by omega))
  have lt4 : w3.heap.size < w4.heap.size := by obtain ⟨_, _, _, _, X⟩ := hd4; exact X.hB
  clear bl4 hbl3 hd3 be4
  go_wp2_with fail
  go_region_with (first | (go_at_call 8; refine (window_zero _ _ _ _ [] [] w4.drew).mono ?_; rintro e w5 ⟨rfl, bl5⟩))
  rw [World.size_drew] at bl5
  have hd5 := bl5.held
  have be5 : Below w4.heap.size w4 w5 := (Below.refl _ _).drew.trans bl5.below
  have hw5 := hd3'.below be5
  have hf5 := hd4.below be5
  have hbl5 : Below w'.heap.size w' w5 := hbl4.trans (be5.mono (by omega))
  have lt5 : w4.heap.size < w5.heap.size := by obtain ⟨_, _, _, _, X⟩ := hd5; exact X.hB
  clear bl5 hbl4 hd3' hd4 be5
  go_wp2_with fail
  refine (zzholds_any w2.heap.size w3.heap.size w2.heap.size 0 0 [] [] t w5 hw5 (by omega) t0 t1).mono ?_
  rintro e w6 ⟨rfl, hw6, ap6⟩
  have hf6 := hf5.apart ap6 (Or.inr (Nat.le_refl _))
  have hb6 := hd5.apart ap6 (Or.inr (by omega))
  have hbl6 : Below w'.heap.size w' w6 := hbl5.trans (ap6.toBelow (by omega) (by omega))
  have sz6 := ap6.size
  clear hw5 ap6 hf5 hd5 hbl5
  go_wp2_with fail
  refine (zzholds_any w3.heap.size w4.heap.size w3.heap.size 0 0 [] [] t w6 hf6 (by omega) t0 t1).mono ?_
  rintro e w7 ⟨rfl, hf7, ap7⟩
  have hw7 := hw6.apart ap7 (Or.inl (Nat.le_refl _))
  have hb7 := hb6.apart ap7 (Or.inr (Nat.le_refl _))
  have hbl7 : Below w'.heap.size w' w7 := hbl6.trans (ap7.toBelow (by omega) (by omega))
  have sz7 := ap7.size
  clear hf6 ap7 hw6 hb6 hbl6
  go_wp2_with fail
  refine (zzholds_any w4.heap.size w5.heap.size w4.heap.size 0 0 [] [] t w7 hb7 (by omega) t0 t1).mono ?_
  rintro e w8 ⟨rfl, hb8, ap8⟩
  have hw8 := hw7.apart ap8 (Or.inl (by omega))
  have hf8 := hf7.apart ap8 (Or.inl (Nat.le_refl _))
  have hbl8 : Below w'.heap.size w' w8 := hbl7.trans (ap8.toBelow (by omega) (by omega))
  clear hb7 ap8 hw7 hf7 hbl7
  go_wp2_with fail
  refine (len_any _ _ _ _ _ _ _ _ hw8).mono ?_
  rintro e w9 ⟨rfl, rfl⟩
  go_wp2_with fail
  refine (len_any _ _ _ _ _ _ _ _ hf8).mono ?_
  rintro e w10 ⟨rfl, rfl⟩
  go_wp2_with fail
  refine (len_any _ _ _ _ _ _ _ _ hb8).mono ?_
  rintro e w11 ⟨rfl, rfl⟩
  clear hf8 hb8 hw8
  go_wp2_with fail
  refine (first_zero _ _ _ _ t _).mono ?_
  rintro e w12 ⟨rfl, rfl⟩
  go_wp2_with fail
  refine wp_loop_rounds 1 ?_
  rw [rounds_succ]
  go_wp2
  go_ret
  exact ⟨rfl, hbl8⟩

end Go.Proofs.Qxb6615885aMods.Win
