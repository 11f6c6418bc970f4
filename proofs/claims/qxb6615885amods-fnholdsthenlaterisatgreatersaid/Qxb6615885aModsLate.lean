/-
  The walks of FnHoldsThenLaterIsAtGreater (4), both slices not nil, behind its early returns.
-/
import Derived.Test.Qxb6615885aModsCut
namespace Go.Proofs.Qxb6615885aMods.Win
open Go.ChangeShapes Go.WideShapes Go.ChangeAt Go.RowKit
open Tm

set_option maxRecDepth 100000 in
set_option maxHeartbeats 2000000 in
theorem late_up (x0 x1 : Addr) (n cap0 cap1 : Nat) (z0 z1 : List Int) (s t : Int) (w : World) (hn : n ≤ 65536) (l0 : n ≤ z0.length) (l1 : n ≤ z1.length)
    (h0 : ∀ i, i < n → w.cell? (x0.add i) = some (.int .i64 (z0.getD i 0))) (h1 : ∀ i, i < n → w.cell? (x1.add i) = some (.int .i64 (z1.getD i 0)))
    (f0 : Fits z0) (f1 : Fits z1) (s0 : -9223372036854775808 ≤ s) (s1 : s ≤ 9223372036854775807) (t0 : -9223372036854775808 ≤ t) (t1 : t ≤ 9223372036854775807) (hcase : s < t) :
    Calls Trym.prog 4 #[.slice (some x0) n cap0, .slice (some x1) n cap1, .int .i64 s, .int .i64 t] w fun e w' => e = .returned (.bool true) ∧ Below w.heap.size w w' := by
  have hB : decide (n + n ≤ 1048576) = true := decide_eq_true (by omega)
  have hnil := fun (w : World) (x : Addr) (k : Nat) => run_neq_slice_nil_any (P := Trym.prog) w 22 2 (some x) n k 0 0 Trym.underlying22
  have hmk := fun (w : World) => run_make_row' (P := Trym.prog) 22 2 (.int .i64 0) 8 Trym.underlying22 info2 rfl .i64 .i64 n (by omega) (by omega) w
  have H0 := hide h0
  have H1 := hide h1
  clear h0 h1
  go_enter Trym.func4, Trym.ntmps4
  go_wp2_with fail
  refine (bytes_any' _ _ _ _ _ _ _ _ _ (by omega) (by omega)).mono ?_
  rintro e w' ⟨rfl, hw'⟩
  subst hw'
  rw [hB]
  clear hB
  go_upto_region 11 with fail
  go_upto_region 12 with (refine copy_all rfl (.tmp 46) (.tmp 47) rfl x0 n cap0 rfl rfl z0 l0 (unhide H0) ?_; intro w1 cu hz1 b1)
  go_upto_region 15 with fail
  go_upto_region 16 with (refine copy_all rfl (.tmp 55) (.tmp 56) rfl x1 n cap1 rfl rfl z1 l1 (fun i hi => (b1.cell (World.block_lt_of_cell? _ _ (unhide H1 i hi))).trans (unhide H1 i hi)) ?_; intro w2 ch hz2 b2)
  go_wp2_with fail
  have S2 : Src n w'.heap.size w1.heap.size z0 z1 w2 := ⟨fun i hi => (b2.cell (p := ⟨w'.heap.size, i, none⟩) hz1).trans (cu i hi), ch, by omega, hz2⟩
  have hbl2 : Below w'.heap.size w' w2 := b1.trans (b2.mono (by omega))
  have hsz2 : w'.heap.size < w2.heap.size := by omega
  have lu := S2.lu
  have lh := S2.lh
  generalize w1.heap.size = bH at *
  clear cu ch hz1 hz2 b1 b2 H0 H1 hmk hnil
  refine (window_any w'.heap.size 0 bH 0 n n n z0 z1 _ hn S2.lu S2.lh (S2.cu0) (S2.ch0) f0 f1).mono ?_
  rintro e w3 ⟨rfl, bl3⟩
  have hd3 := bl3.held
  have be3 := bl3.below
  have S3 := S2.below be3
  have hbl3 : Below w'.heap.size w' w3 := hbl2.trans (be3.mono (by omega))
  clear bl3 S2 hbl2
  have lt3 : w2.heap.size < w3.heap.size := by obtain ⟨_, _, _, _, X⟩ := hd3; exact X.hB
  have hk := skip_le z0 z1 s n 0
  have hk2 := skip_le z0 z1 t (n - skip z0 z1 s 0 n) (0 + skip z0 z1 s 0 n)
  go_wp2_with fail
  refine (zzholds_any w2.heap.size w3.heap.size w2.heap.size 0 n z0 z1 s w3 hd3 hn s0 s1).mono ?_
  rintro e w4 ⟨rfl, hd4, ap4⟩
  have S4 := S3.apart ap4 lu lh
  have hbl4 : Below w'.heap.size w' w4 := hbl3.trans (ap4.toBelow (by omega) (by omega))
  have sz4 := ap4.size
  clear S3 hbl3 hd3 ap4 be3
  go_wp2_with fail
  refine (len_any _ _ _ _ _ _ _ _ hd4).mono ?_
  rintro e w5 ⟨rfl, rfl⟩
  go_wp2_with fail
  refine (zzholds_any w2.heap.size w3.heap.size w2.heap.size _ _ z0 z1 t _ hd4 (by omega) t0 t1).mono ?_
  rintro e w6 ⟨rfl, hd6, ap6⟩
  have S6 := S4.apart ap6 lu lh
  have hbl6 : Below w'.heap.size w' w6 := hbl4.trans (ap6.toBelow (by omega) (by omega))
  have sz6 := ap6.size
  clear S4 hbl4 hd4 ap6
  go_wp2_with fail
  refine (len_any _ _ _ _ _ _ _ _ hd6).mono ?_
  rintro e w7 ⟨rfl, rfl⟩
  go_wp2_with fail
  refine (window_any w'.heap.size 0 bH 0 n n n z0 z1 _ hn S6.lu S6.lh (S6.cu0) (S6.ch0) f0 f1).mono ?_
  rintro e w8 ⟨rfl, bl8⟩
  have hf8 := bl8.held
  have be8 := bl8.below
  have S8 := S6.below be8
  have hd8 := hd6.below be8
  have hbl8 : Below w'.heap.size w' w8 := hbl6.trans (be8.mono (by omega))
  have lt8 : w7.heap.size < w8.heap.size := by obtain ⟨_, _, _, _, X⟩ := hf8; exact X.hB
  clear bl8 S6 hbl6 hd6 be8
  go_wp2_with fail
  refine (zzholds_any w7.heap.size w8.heap.size w7.heap.size 0 n z0 z1 t w8 hf8 hn t0 t1).mono ?_
  rintro e w9 ⟨rfl, hf9, ap9⟩
  have S9 := S8.apart ap9 (by omega) (by omega)
  have hd9 := hd8.apart ap9 (Or.inl (by omega))
  have hbl9 : Below w'.heap.size w' w9 := hbl8.trans (ap9.toBelow (by omega) (by omega))
  have sz9 := ap9.size
  clear S8 hbl8 hd8 hf8 ap9
  go_wp2_with fail
  refine (len_any _ _ _ _ _ _ _ _ hf9).mono ?_
  rintro e w10 ⟨rfl, rfl⟩
  clear hf9
  go_wp2_with fail
  refine (first_any w'.heap.size bH n n n z0 z1 s _ hn S9.cu S9.ch).mono ?_
  rintro e w11 ⟨rfl, nd, rfl⟩
  have S11 := S9.drewN nd
  have hd11 := hd9.below (below_drewN (Below.refl _ _) nd)
  have hbl11 : Below w'.heap.size w' (w10.drewN nd) := below_drewN hbl9 nd
  clear S9 hd9 hbl9
  go_wp2_with fail
  refine (first_any w'.heap.size bH n n n z0 z1 t _ hn S11.cu S11.ch).mono ?_
  rintro e w12 ⟨rfl, ne, rfl⟩
  have S12 := S11.drewN ne
  have hd12 := hd11.below (below_drewN (Below.refl _ _) ne)
  have hbl12 : Below w'.heap.size w' ((w10.drewN nd).drewN ne) := below_drewN hbl11 ne
  clear S11 hd11 hbl11
  have hlaw := later_up z0 z1 s t (by omega) n 0
  rw [Nat.zero_add] at hlaw hd12 hk2
  rw [hlaw]
  clear hlaw
  generalize skip z0 z1 s 0 n = k at *
  generalize skip z0 z1 t k (n - k) = j at *
  have hne0 : (((n - k : Nat) : Int) != (n : Int) - (k : Int)) = false := by
    rw [show ((n - k : Nat) : Int) = (n : Int) - (k : Int) by omega]; simp
  have hne1 : (((n - (k + j) : Nat) : Int) != (n : Int) - ((k : Int) + (j : Int))) = false := by
    rw [show ((n - (k + j) : Nat) : Int) = (n : Int) - ((k : Int) + (j : Int)) by omega]; simp
  rw [Nat.sub_sub] at hd12 ⊢
  by_cases hx : k + j < n
  · have hx1 : j < n - k := by omega
    have hx2 : (k : Int) + (j : Int) < (n : Int) := by omega
    have hx3 : k < n := by omega
    go_wp2_with fail
    go_loopw [23] (fun i wr => ∃ q : Nat, q ≤ n - (k + j) ∧ i = .int .i64 q ∧ Held w2.heap.size w3.heap.size w2.heap.size z0 z1 (k + j) (n - (k + j)) wr ∧ Src n w'.heap.size bH z0 z1 wr ∧ Below w'.heap.size w' wr) (fun i _ => n - (k + j) - (intOf i).toNat)
    case atStart => exact ⟨0, Nat.zero_le _, rfl, by first | exact hd12 | (rw [← World.drewN_drewN]; exact hd12), by first | exact S12 | (rw [← World.drewN_drewN]; exact S12), by first | exact hbl12 | (rw [← World.drewN_drewN]; exact hbl12)⟩
    case round =>
      clear hd12 S12 hbl12
      obtain ⟨q, hq, rfl, hwr, SR, hbr⟩ := hrel
      by_cases hqn : q < n - (k + j)
      · have hcell : wr.cell? ⟨w'.heap.size, (((k : Int) + (j : Int)) + (q : Int)).toNat, none⟩ = some (.int .i64 (z0.getD (k + j + q) 0)) := by
          rw [show (((k : Int) + (j : Int)) + (q : Int)).toNat = k + j + q by omega]
          exact SR.cu (k + j + q) (by omega)
        have hlur := SR.lu
        have hq0 : (0 : Int) ≤ ((k : Int) + (j : Int)) + (q : Int) := by omega
        have hq1 : ((k : Int) + (j : Int)) + (q : Int) < (n : Int) := by omega
        have hun := fun x h => until_any w2.heap.size w3.heap.size w2.heap.size (k + j) (n - (k + j)) q z0 z1 x h hqn (by omega) f0
        have hwrap : IntKind.i64.wrap (((k : Int) + (j : Int)) + (q : Int)) = ((k : Int) + (j : Int)) + (q : Int) := by rw [IntKind.wrap_i64]; omega
        have HU := hide hun
        clear hun
        generalize z0.getD (k + j + q) 0 = u at *
        go_wp2_with fail
        go_region_held3 (fun x => x.cell? ⟨w'.heap.size, (((k : Int) + (j : Int)) + (q : Int)).toNat, none⟩ = some (.int .i64 u))
          (first
            | (go_keep; done)
            | (refine (b9.cell ?_).trans hcell; exact hlur))
          ((go_at_call 12; refine (unhide HU _ (hwr.below (Below.refl _ _).drew)).mono ?_; rintro e x9 ⟨rfl, b9⟩))
        have hwr9 : Held w2.heap.size w3.heap.size w2.heap.size z0 z1 (k + j) (n - (k + j)) x9 := (hwr.below (Below.refl _ _).drew).below b9
        have SR9 := SR.drew.below b9
        have hbr9 : Below w'.heap.size w' x9 := hbr.drew.trans (b9.mono (by show w'.heap.size ≤ wr.heap.size; omega))
        clear hwr SR hbr b9 HU
        go_wp2
        go_roundw
        case rel => first | exact ⟨q + 1, by omega, by go_num, hwr9, SR9, hbr9⟩ | ((repeat apply Exists.intro); exact ⟨⟨q + 1, by omega, by go_num, hwr9, SR9, hbr9⟩, rfl⟩)
        case measure => simp [intOf]; omega
      · go_wp2
        go_ret
        exact ⟨rfl, hbr⟩
  · have hx1 : ¬ j < n - k := by omega
    have hx2 : ¬ (k : Int) + (j : Int) < (n : Int) := by omega
    go_wp2_with fail
    go_loopw [23] (fun i wr => ∃ q : Nat, q ≤ n - (k + j) ∧ i = .int .i64 q ∧ Held w2.heap.size w3.heap.size w2.heap.size z0 z1 (k + j) (n - (k + j)) wr ∧ Src n w'.heap.size bH z0 z1 wr ∧ Below w'.heap.size w' wr) (fun i _ => n - (k + j) - (intOf i).toNat)
    case atStart => exact ⟨0, Nat.zero_le _, rfl, by first | exact hd12 | (rw [← World.drewN_drewN]; exact hd12), by first | exact S12 | (rw [← World.drewN_drewN]; exact S12), by first | exact hbl12 | (rw [← World.drewN_drewN]; exact hbl12)⟩
    case round =>
      clear hd12 S12 hbl12
      obtain ⟨q, hq, rfl, hwr, SR, hbr⟩ := hrel
      by_cases hqn : q < n - (k + j)
      · have hcell : wr.cell? ⟨w'.heap.size, (((k : Int) + (j : Int)) + (q : Int)).toNat, none⟩ = some (.int .i64 (z0.getD (k + j + q) 0)) := by
          rw [show (((k : Int) + (j : Int)) + (q : Int)).toNat = k + j + q by omega]
          exact SR.cu (k + j + q) (by omega)
        have hlur := SR.lu
        have hq0 : (0 : Int) ≤ ((k : Int) + (j : Int)) + (q : Int) := by omega
        have hq1 : ((k : Int) + (j : Int)) + (q : Int) < (n : Int) := by omega
        have hun := fun x h => until_any w2.heap.size w3.heap.size w2.heap.size (k + j) (n - (k + j)) q z0 z1 x h hqn (by omega) f0
        have hwrap : IntKind.i64.wrap (((k : Int) + (j : Int)) + (q : Int)) = ((k : Int) + (j : Int)) + (q : Int) := by rw [IntKind.wrap_i64]; omega
        have HU := hide hun
        clear hun
        generalize z0.getD (k + j + q) 0 = u at *
        go_wp2_with fail
        go_region_held3 (fun x => x.cell? ⟨w'.heap.size, (((k : Int) + (j : Int)) + (q : Int)).toNat, none⟩ = some (.int .i64 u))
          (first
            | (go_keep; done)
            | (refine (b9.cell ?_).trans hcell; exact hlur))
          ((go_at_call 12; refine (unhide HU _ (hwr.below (Below.refl _ _).drew)).mono ?_; rintro e x9 ⟨rfl, b9⟩))
        have hwr9 : Held w2.heap.size w3.heap.size w2.heap.size z0 z1 (k + j) (n - (k + j)) x9 := (hwr.below (Below.refl _ _).drew).below b9
        have SR9 := SR.drew.below b9
        have hbr9 : Below w'.heap.size w' x9 := hbr.drew.trans (b9.mono (by show w'.heap.size ≤ wr.heap.size; omega))
        clear hwr SR hbr b9 HU
        go_wp2
        go_roundw
        case rel => first | exact ⟨q + 1, by omega, by go_num, hwr9, SR9, hbr9⟩ | ((repeat apply Exists.intro); exact ⟨⟨q + 1, by omega, by go_num, hwr9, SR9, hbr9⟩, rfl⟩)
        case measure => simp [intOf]; omega
      · go_wp2
        go_ret
        exact ⟨rfl, hbr⟩

set_option maxRecDepth 100000 in
set_option maxHeartbeats 2000000 in
theorem late_dn (x0 x1 : Addr) (n cap0 cap1 : Nat) (z0 z1 : List Int) (s t : Int) (w : World) (hn : n ≤ 65536) (l0 : n ≤ z0.length) (l1 : n ≤ z1.length)
    (h0 : ∀ i, i < n → w.cell? (x0.add i) = some (.int .i64 (z0.getD i 0))) (h1 : ∀ i, i < n → w.cell? (x1.add i) = some (.int .i64 (z1.getD i 0)))
    (f0 : Fits z0) (f1 : Fits z1) (s0 : -9223372036854775808 ≤ s) (s1 : s ≤ 9223372036854775807) (t0 : -9223372036854775808 ≤ t) (t1 : t ≤ 9223372036854775807) (hcase : ¬ s < t) :
    Calls Trym.prog 4 #[.slice (some x0) n cap0, .slice (some x1) n cap1, .int .i64 s, .int .i64 t] w fun e w' => e = .returned (.bool true) ∧ Below w.heap.size w w' := by
  have hB : decide (n + n ≤ 1048576) = true := decide_eq_true (by omega)
  have hnil := fun (w : World) (x : Addr) (k : Nat) => run_neq_slice_nil_any (P := Trym.prog) w 22 2 (some x) n k 0 0 Trym.underlying22
  have hmk := fun (w : World) => run_make_row' (P := Trym.prog) 22 2 (.int .i64 0) 8 Trym.underlying22 info2 rfl .i64 .i64 n (by omega) (by omega) w
  have H0 := hide h0
  have H1 := hide h1
  clear h0 h1
  go_enter Trym.func4, Trym.ntmps4
  go_wp2_with fail
  refine (bytes_any' _ _ _ _ _ _ _ _ _ (by omega) (by omega)).mono ?_
  rintro e w' ⟨rfl, hw'⟩
  subst hw'
  rw [hB]
  clear hB
  go_upto_region 11 with fail
  go_upto_region 12 with (refine copy_all rfl (.tmp 46) (.tmp 47) rfl x0 n cap0 rfl rfl z0 l0 (unhide H0) ?_; intro w1 cu hz1 b1)
  go_upto_region 15 with fail
  go_upto_region 16 with (refine copy_all rfl (.tmp 55) (.tmp 56) rfl x1 n cap1 rfl rfl z1 l1 (fun i hi => (b1.cell (World.block_lt_of_cell? _ _ (unhide H1 i hi))).trans (unhide H1 i hi)) ?_; intro w2 ch hz2 b2)
  go_wp2_with fail
  have S2 : Src n w'.heap.size w1.heap.size z0 z1 w2 := ⟨fun i hi => (b2.cell (p := ⟨w'.heap.size, i, none⟩) hz1).trans (cu i hi), ch, by omega, hz2⟩
  have hbl2 : Below w'.heap.size w' w2 := b1.trans (b2.mono (by omega))
  have hsz2 : w'.heap.size < w2.heap.size := by omega
  have lu := S2.lu
  have lh := S2.lh
  generalize w1.heap.size = bH at *
  clear cu ch hz1 hz2 b1 b2 H0 H1 hmk hnil
  refine (window_any w'.heap.size 0 bH 0 n n n z0 z1 _ hn S2.lu S2.lh (S2.cu0) (S2.ch0) f0 f1).mono ?_
  rintro e w3 ⟨rfl, bl3⟩
  have hd3 := bl3.held
  have be3 := bl3.below
  have S3 := S2.below be3
  have hbl3 : Below w'.heap.size w' w3 := hbl2.trans (be3.mono (by omega))
  clear bl3 S2 hbl2
  have lt3 : w2.heap.size < w3.heap.size := by obtain ⟨_, _, _, _, X⟩ := hd3; exact X.hB
  have hk := skip_le z0 z1 s n 0
  have hk2 := skip_le z0 z1 t (n - skip z0 z1 s 0 n) (0 + skip z0 z1 s 0 n)
  go_wp2_with fail
  refine (zzholds_any w2.heap.size w3.heap.size w2.heap.size 0 n z0 z1 s w3 hd3 hn s0 s1).mono ?_
  rintro e w4 ⟨rfl, hd4, ap4⟩
  have S4 := S3.apart ap4 lu lh
  have hbl4 : Below w'.heap.size w' w4 := hbl3.trans (ap4.toBelow (by omega) (by omega))
  have sz4 := ap4.size
  clear S3 hbl3 hd3 ap4 be3
  go_wp2_with fail
  refine (len_any _ _ _ _ _ _ _ _ hd4).mono ?_
  rintro e w5 ⟨rfl, rfl⟩
  go_wp2_with fail
  refine (zzholds_any w2.heap.size w3.heap.size w2.heap.size _ _ z0 z1 t _ hd4 (by omega) t0 t1).mono ?_
  rintro e w6 ⟨rfl, hd6, ap6⟩
  have S6 := S4.apart ap6 lu lh
  have hbl6 : Below w'.heap.size w' w6 := hbl4.trans (ap6.toBelow (by omega) (by omega))
  have sz6 := ap6.size
  clear S4 hbl4 hd4 ap6
  go_wp2_with fail
  refine (len_any _ _ _ _ _ _ _ _ hd6).mono ?_
  rintro e w7 ⟨rfl, rfl⟩
  go_wp2_with fail
  refine (window_any w'.heap.size 0 bH 0 n n n z0 z1 _ hn S6.lu S6.lh (S6.cu0) (S6.ch0) f0 f1).mono ?_
  rintro e w8 ⟨rfl, bl8⟩
  have hf8 := bl8.held
  have be8 := bl8.below
  have S8 := S6.below be8
  have hd8 := hd6.below be8
  have hbl8 : Below w'.heap.size w' w8 := hbl6.trans (be8.mono (by omega))
  have lt8 : w7.heap.size < w8.heap.size := by obtain ⟨_, _, _, _, X⟩ := hf8; exact X.hB
  clear bl8 S6 hbl6 hd6 be8
  go_wp2_with fail
  refine (zzholds_any w7.heap.size w8.heap.size w7.heap.size 0 n z0 z1 s w8 hf8 hn s0 s1).mono ?_
  rintro e w9 ⟨rfl, hf9, ap9⟩
  have S9 := S8.apart ap9 (by omega) (by omega)
  have hd9 := hd8.apart ap9 (Or.inl (by omega))
  have hbl9 : Below w'.heap.size w' w9 := hbl8.trans (ap9.toBelow (by omega) (by omega))
  have sz9 := ap9.size
  clear S8 hbl8 hd8 hf8 ap9
  go_wp2_with fail
  refine (len_any _ _ _ _ _ _ _ _ hf9).mono ?_
  rintro e w10 ⟨rfl, rfl⟩
  clear hf9
  go_wp2_with fail
  refine (first_any w'.heap.size bH n n n z0 z1 s _ hn S9.cu S9.ch).mono ?_
  rintro e w11 ⟨rfl, nd, rfl⟩
  have S11 := S9.drewN nd
  have hd11 := hd9.below (below_drewN (Below.refl _ _) nd)
  have hbl11 : Below w'.heap.size w' (w10.drewN nd) := below_drewN hbl9 nd
  clear S9 hd9 hbl9
  go_wp2_with fail
  refine (first_any w'.heap.size bH n n n z0 z1 s _ hn S11.cu S11.ch).mono ?_
  rintro e w12 ⟨rfl, ne, rfl⟩
  have S12 := S11.drewN ne
  have hd12 := hd11.below (below_drewN (Below.refl _ _) ne)
  have hbl12 : Below w'.heap.size w' ((w10.drewN nd).drewN ne) := below_drewN hbl11 ne
  clear S11 hd11 hbl11
  have hlaw := later_down z0 z1 s t (by omega) n 0
  rw [Nat.zero_add] at hlaw hd12 hk2
  rw [hlaw] at hd12 hk2 ⊢
  clear hlaw
  generalize skip z0 z1 s 0 n = k at *
  rw [Nat.add_zero, Nat.sub_zero] at hd12
  have hne0 : (((n - k : Nat) : Int) != (n : Int) - (k : Int)) = false := by
    rw [show ((n - k : Nat) : Int) = (n : Int) - (k : Int) by omega]; simp
  by_cases hx : k < n
  · have hx1 : 0 < n - k := by omega
    go_wp2_with fail
    go_loopw [23] (fun i wr => ∃ q : Nat, q ≤ n - (k) ∧ i = .int .i64 q ∧ Held w2.heap.size w3.heap.size w2.heap.size z0 z1 (k) (n - (k)) wr ∧ Src n w'.heap.size bH z0 z1 wr ∧ Below w'.heap.size w' wr) (fun i _ => n - (k) - (intOf i).toNat)
    case atStart => exact ⟨0, Nat.zero_le _, rfl, by first | exact hd12 | (rw [← World.drewN_drewN]; exact hd12), by first | exact S12 | (rw [← World.drewN_drewN]; exact S12), by first | exact hbl12 | (rw [← World.drewN_drewN]; exact hbl12)⟩
    case round =>
      clear hd12 S12 hbl12
      obtain ⟨q, hq, rfl, hwr, SR, hbr⟩ := hrel
      by_cases hqn : q < n - (k)
      · have hcell : wr.cell? ⟨w'.heap.size, ((k : Int) + (q : Int)).toNat, none⟩ = some (.int .i64 (z0.getD (k + q) 0)) := by
          rw [show ((k : Int) + (q : Int)).toNat = k + q by omega]
          exact SR.cu (k + q) (by omega)
        have hlur := SR.lu
        have hq0 : (0 : Int) ≤ (k : Int) + (q : Int) := by omega
        have hq1 : (k : Int) + (q : Int) < (n : Int) := by omega
        have hun := fun x h => until_any w2.heap.size w3.heap.size w2.heap.size (k) (n - (k)) q z0 z1 x h hqn (by omega) f0
        have hwrap : IntKind.i64.wrap ((k : Int) + (q : Int)) = (k : Int) + (q : Int) := by rw [IntKind.wrap_i64]; omega
        have HU := hide hun
        clear hun
        generalize z0.getD (k + q) 0 = u at *
        go_wp2_with fail
        go_region_held3 (fun x => x.cell? ⟨w'.heap.size, ((k : Int) + (q : Int)).toNat, none⟩ = some (.int .i64 u))
          (first
            | (go_keep; done)
            | (refine (b9.cell ?_).trans hcell; exact hlur))
          ((go_at_call 12; refine (unhide HU _ (hwr.below (Below.refl _ _).drew)).mono ?_; rintro e x9 ⟨rfl, b9⟩))
        have hwr9 : Held w2.heap.size w3.heap.size w2.heap.size z0 z1 (k) (n - (k)) x9 := (hwr.below (Below.refl _ _).drew).below b9
        have SR9 := SR.drew.below b9
        have hbr9 : Below w'.heap.size w' x9 := hbr.drew.trans (b9.mono (by show w'.heap.size ≤ wr.heap.size; omega))
        clear hwr SR hbr b9 HU
        go_wp2
        go_roundw
        case rel => first | exact ⟨q + 1, by omega, by go_num, hwr9, SR9, hbr9⟩ | ((repeat apply Exists.intro); exact ⟨⟨q + 1, by omega, by go_num, hwr9, SR9, hbr9⟩, rfl⟩)
        case measure => simp [intOf]; omega
      · go_wp2
        go_ret
        exact ⟨rfl, hbr⟩
  · have hx1 : ¬ 0 < n - k := by omega
    go_wp2_with fail
    go_loopw [23] (fun i wr => ∃ q : Nat, q ≤ n - (k) ∧ i = .int .i64 q ∧ Held w2.heap.size w3.heap.size w2.heap.size z0 z1 (k) (n - (k)) wr ∧ Src n w'.heap.size bH z0 z1 wr ∧ Below w'.heap.size w' wr) (fun i _ => n - (k) - (intOf i).toNat)
    case atStart => exact ⟨0, Nat.zero_le _, rfl, by first | exact hd12 | (rw [← World.drewN_drewN]; exact hd12), by first | exact S12 | (rw [← World.drewN_drewN]; exact S12), by first | exact hbl12 | (rw [← World.drewN_drewN]; exact hbl12)⟩
    case round =>
      clear hd12 S12 hbl12
      obtain ⟨q, hq, rfl, hwr, SR, hbr⟩ := hrel
      by_cases hqn : q < n - (k)
      · have hcell : wr.cell? ⟨w'.heap.size, ((k : Int) + (q : Int)).toNat, none⟩ = some (.int .i64 (z0.getD (k + q) 0)) := by
          rw [show ((k : Int) + (q : Int)).toNat = k + q by omega]
          exact SR.cu (k + q) (by omega)
        have hlur := SR.lu
        have hq0 : (0 : Int) ≤ (k : Int) + (q : Int) := by omega
        have hq1 : (k : Int) + (q : Int) < (n : Int) := by omega
        have hun := fun x h => until_any w2.heap.size w3.heap.size w2.heap.size (k) (n - (k)) q z0 z1 x h hqn (by omega) f0
        have hwrap : IntKind.i64.wrap ((k : Int) + (q : Int)) = (k : Int) + (q : Int) := by rw [IntKind.wrap_i64]; omega
        have HU := hide hun
        clear hun
        generalize z0.getD (k + q) 0 = u at *
        go_wp2_with fail
        go_region_held3 (fun x => x.cell? ⟨w'.heap.size, ((k : Int) + (q : Int)).toNat, none⟩ = some (.int .i64 u))
          (first
            | (go_keep; done)
            | (refine (b9.cell ?_).trans hcell; exact hlur))
          ((go_at_call 12; refine (unhide HU _ (hwr.below (Below.refl _ _).drew)).mono ?_; rintro e x9 ⟨rfl, b9⟩))
        have hwr9 : Held w2.heap.size w3.heap.size w2.heap.size z0 z1 (k) (n - (k)) x9 := (hwr.below (Below.refl _ _).drew).below b9
        have SR9 := SR.drew.below b9
        have hbr9 : Below w'.heap.size w' x9 := hbr.drew.trans (b9.mono (by show w'.heap.size ≤ wr.heap.size; omega))
        clear hwr SR hbr b9 HU
        go_wp2
        go_roundw
        case rel => first | exact ⟨q + 1, by omega, by go_num, hwr9, SR9, hbr9⟩ | ((repeat apply Exists.intro); exact ⟨⟨q + 1, by omega, by go_num, hwr9, SR9, hbr9⟩, rfl⟩)
        case measure => simp [intOf]; omega
      · go_wp2
        go_ret
        exact ⟨rfl, hbr⟩

end Go.Proofs.Qxb6615885aMods.Win
