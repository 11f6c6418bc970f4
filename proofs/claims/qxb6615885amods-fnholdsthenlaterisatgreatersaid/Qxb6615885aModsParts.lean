/-
  The small contracts: ZZHolds (9), ZZHeldLen (10), firstCurrent (11), ZZHeldUntilAt (12), the two bounds on lengths (7, 13), ZZHeldWindow over slices without elements.
-/
import Derived.Test.Qxb6615885aModsHolds
import Derived.Laws.CopyOwn
import Derived.Deep.OwnRows
namespace Go.Proofs.Qxb6615885aMods.Win
open Go.ChangeShapes Go.WideShapes Go.ChangeAt Go.RowKit
open Tm
attribute [local go_sem ↓] wp_built59 wp_built66

theorem Apart.trans {lo hi : Nat} {a b c : World} (h : Apart lo hi a b) (k : Apart lo hi b c) : Apart lo hi a c :=
  ⟨k.os.trans h.os, k.tape.trans h.tape, k.output.trans h.output, Nat.le_trans h.size k.size, fun i hi hh => (k.block i (Nat.lt_of_lt_of_le hi h.size) hh).trans (h.block i hi hh)⟩

theorem zzholds_any (lo hi B j m : Nat) (us hs : List Int) (t : Int) (w : World) (H : Held lo hi B us hs j m w) (hm : m ≤ 65536) (t0 : -9223372036854775808 ≤ t) (t1 : t ≤ 9223372036854775807) :
    Calls Trym.prog 9 #[.pointer (some ⟨B, 0, none⟩), .int .i64 t] w fun e w' => e = .returned (.bool (decide (skip us hs t j m < m))) ∧ Held lo hi B us hs (j + skip us hs t j m) (m - skip us hs t j m) w' ∧ Apart lo hi w w' := by
  go_enter Trym.func9, Trym.ntmps9
  go_wp2_with fail
  refine (at_any t _ t0 t1).mono ?_
  rintro e w1 ⟨rfl, b1⟩
  go_wp2_with fail
  refine (holds_any lo hi B j m us hs t _ (H.below b1) hm).mono ?_
  rintro e w2 ⟨rfl, h2, a2⟩
  clear H
  go_wp2_with fail
  go_ret
  exact ⟨rfl, h2, ((Apart.refl _ _ _).below b1).trans a2⟩

theorem len_any (lo hi B j m : Nat) (us hs : List Int) (w : World) (H : Held lo hi B us hs j m w) :
    Calls Trym.prog 10 #[.pointer (some ⟨B, 0, none⟩)] w fun e w' => e = .returned (.int .i64 m) ∧ w' = w := by
  obtain ⟨ao, cap, g, Q, H⟩ := H
  have hW := H.cell
  have hl : B < w.heap.size := World.block_lt_of_cell? w _ hW
  clear H
  go_enter Trym.func10, Trym.ntmps10
  go_wp2
  go_ret
  exact ⟨rfl, rfl⟩

theorem until_any (lo hi B j m i : Nat) (us hs : List Int) (w : World) (H : Held lo hi B us hs j m w) (hi' : i < m) (hm : m ≤ 65536) (fu : Fits us) :
    Calls Trym.prog 12 #[.pointer (some ⟨B, 0, none⟩), .int .i64 i] w fun e w' => e = .returned (.int .i64 (us.getD (j + i) 0)) ∧ Below w.heap.size w w' := by
  obtain ⟨ao, cap, g, Q, H⟩ := H
  have hW := H.cell
  have hl : B < w.heap.size := World.block_lt_of_cell? w _ hW
  obtain ⟨rfl, r2, r3, r4, r5⟩ := H.row (by omega)
  obtain ⟨e0, e1, e2, e3, _, _, _, _, _, _, _⟩ := H.ents i hi'
  have hb := fu (j + i)
  clear H r5
  have eo : (j + i) * 4 = j * 4 + i * 4 := Nat.add_mul j i 4
  rw [eo] at e0 e1 e2 e3
  clear eo
  generalize us.getD (j + i) 0 = u at *
  go_enter Trym.func12, Trym.ntmps12
  go_wp2_with fail
  refine (sub_any u _ hb.1 hb.2).mono ?_
  rintro e w1 ⟨rfl, b1⟩
  go_wp2_with fail
  go_ret
  exact ⟨rfl, b1⟩

theorem window_zero (ao bo : Option Addr) (cu ch : Nat) (us hs : List Int) (w : World) :
    Calls Trym.prog 8 #[.slice ao 0 cu, .slice bo 0 ch] w fun e w' => e = .returned (.pointer (some ⟨w.heap.size, 0, none⟩)) ∧ Bld w.heap.size w w' us hs 0 := by
  obtain ⟨cs, hcs, h35, hsz⟩ := zero59
  go_enter Trym.func8, Trym.ntmps8
  go_wp2
  refine wp_loop_rounds 1 ?_
  rw [rounds_succ]
  go_wp2
  go_ret
  exact ⟨rfl, bld_start w cs us hs h35⟩

theorem bytes_any (a0 a1 : Option Addr) (l0 c0 l1 c1 : Nat) (x y : Int) (w : World) (h0 : l0 ≤ 9223372036854775807) (h1 : l1 ≤ 9223372036854775807) :
    Calls Trym.prog 7 #[.slice a0 l0 c0, .slice a1 l1 c1, .int .i64 x, .int .i64 y] w fun e w' => e = .returned (.bool (decide (l0 + l1 ≤ 1048576))) ∧ w' = w := by
  by_cases k0 : 1048576 < l0
  · go_enter Trym.func7, Trym.ntmps7
    go_wp2
    go_ret
    exact ⟨ret_bool (by symm; rw [decide_eq_false_iff_not]; omega), rfl⟩
  by_cases k1 : 1048576 < l1
  · go_enter Trym.func7, Trym.ntmps7
    go_wp2
    go_ret
    exact ⟨ret_bool (by symm; rw [decide_eq_false_iff_not]; omega), rfl⟩
  by_cases k2 : 1048576 < l0 + l1
  · go_enter Trym.func7, Trym.ntmps7
    go_wp2
    go_ret
    exact ⟨ret_bool (by symm; rw [decide_eq_false_iff_not]; omega), rfl⟩
  · go_enter Trym.func7, Trym.ntmps7
    go_wp2
    go_ret
    exact ⟨ret_bool (by symm; exact decide_eq_true (by omega)), rfl⟩

theorem bytes_any' (a0 a1 : Option Addr) (l0 c0 l1 c1 : Nat) (x y : Int) (w : World) (h0 : l0 ≤ 9223372036854775807) (h1 : l1 ≤ 9223372036854775807) :
    Calls Trym.prog 13 #[.slice a0 l0 c0, .slice a1 l1 c1, .int .i64 x, .int .i64 y] w fun e w' => e = .returned (.bool (decide (l0 + l1 ≤ 1048576))) ∧ w' = w := by
  by_cases k0 : 1048576 < l0
  · go_enter Trym.func13, Trym.ntmps13
    go_wp2
    go_ret
    exact ⟨ret_bool (by symm; rw [decide_eq_false_iff_not]; omega), rfl⟩
  by_cases k1 : 1048576 < l1
  · go_enter Trym.func13, Trym.ntmps13
    go_wp2
    go_ret
    exact ⟨ret_bool (by symm; rw [decide_eq_false_iff_not]; omega), rfl⟩
  by_cases k2 : 1048576 < l0 + l1
  · go_enter Trym.func13, Trym.ntmps13
    go_wp2
    go_ret
    exact ⟨ret_bool (by symm; rw [decide_eq_false_iff_not]; omega), rfl⟩
  · go_enter Trym.func13, Trym.ntmps13
    go_wp2
    go_ret
    exact ⟨ret_bool (by symm; exact decide_eq_true (by omega)), rfl⟩

/-- firstCurrent over slices without elements. -/
theorem first_zero (ao bo : Option Addr) (cu ch : Nat) (t : Int) (w : World) :
    Calls Trym.prog 11 #[.slice ao 0 cu, .slice bo 0 ch, .int .i64 t] w fun e w' => e = .returned (.int .i64 0) ∧ w' = w := by
  go_enter Trym.func11, Trym.ntmps11
  go_wp2
  refine wp_loop_rounds 1 ?_
  rw [rounds_succ]
  go_wp2
  go_ret
  exact ⟨rfl, rfl⟩

theorem first_any (bu bh n cu ch : Nat) (us hs : List Int) (t : Int) (w : World) (hn : n ≤ 65536)
    (hu : ∀ i, i < n → w.cell? ⟨bu, i, none⟩ = some (.int .i64 (us.getD i 0))) (hh : ∀ i, i < n → w.cell? ⟨bh, i, none⟩ = some (.int .i64 (hs.getD i 0))) :
    Calls Trym.prog 11 #[.slice (some ⟨bu, 0, none⟩) n cu, .slice (some ⟨bh, 0, none⟩) n ch, .int .i64 t] w fun e w' => e = .returned (.int .i64 (skip us hs t 0 n)) ∧ ∃ c, w' = w.drewN c := by
  go_enter Trym.func11, Trym.ntmps11
  go_wp2
  go_loopw [7] (fun i wr => ∃ k : Nat, k ≤ n ∧ i = .int .i64 k ∧ skip us hs t 0 n = k + skip us hs t k (n - k) ∧ ∃ c, wr = w.drewN c) (fun i _ => n - (intOf i).toNat)
  case atStart => exact ⟨0, Nat.zero_le _, rfl, by rw [Nat.sub_zero, Nat.zero_add], 0, rfl⟩
  case round =>
    obtain ⟨k, hk, rfl, hs1, c, rfl⟩ := hrel
    have HS := hide hs1
    clear hs1
    by_cases hlt : k < n
    · have cu' := hu k hlt
      have ch' := hh k hlt
      have hk0 : (0 : Int) ≤ (k : Int) := Int.natCast_nonneg _
      have hk1 : (k : Int) < (n : Int) := by omega
      have HC : Hid (skip us hs t k (n - k) = if cur us hs t k then 0 else 1 + skip us hs t (k + 1) (n - (k + 1))) := by
        show _ = _
        obtain ⟨m, hm⟩ : ∃ m, n - k = m + 1 := ⟨n - k - 1, by omega⟩
        rw [hm, skip, show n - (k + 1) = m by omega]
      have HD : Hid (cur us hs t k = ((hs.getD k 0 == us.getD k 0) && decide (t < us.getD k 0))) := rfl
      clear hu hh
      generalize hs.getD k 0 = h at *
      generalize us.getD k 0 = u at *
      by_cases he : h = u
      · subst he
        have heq : (h == h) = true := by simp
        by_cases ha : t < h
        · have hcur : cur us hs t k = true := by rw [unhide HD]; simp [ha]
          have hr : skip us hs t 0 n = k := by have h1 := unhide HS; have h2 := unhide HC; rw [if_pos hcur] at h2; omega
          have HR := hide hr
          clear HS HC HD hcur hr
          go_wp2
          go_quiet (fail)
          go_wp2
          go_ret
          exact ⟨ret_int (by rw [unhide HR]), c + nq, by simp⟩
        · have hcur : cur us hs t k = false := by rw [unhide HD]; simp [ha]
          have hr : skip us hs t 0 n = (k + 1) + skip us hs t (k + 1) (n - (k + 1)) := by have h1 := unhide HS; have h2 := unhide HC; rw [if_neg (by rw [hcur]; simp)] at h2; omega
          have HR := hide hr
          clear HS HC HD hcur hr
          go_wp2
          go_quiet (fail)
          go_wp2
          go_roundw
          case rel => exact ⟨k + 1, by omega, by go_num, unhide HR, _, rfl⟩
          case measure => simp [intOf]; omega
      · have heq : (h == u) = false := by simpa using he
        have hcur : cur us hs t k = false := by rw [unhide HD]; simp [he]
        have hr : skip us hs t 0 n = (k + 1) + skip us hs t (k + 1) (n - (k + 1)) := by have h1 := unhide HS; have h2 := unhide HC; rw [if_neg (by rw [hcur]; simp)] at h2; omega
        have HR := hide hr
        clear HS HC HD hcur hr
        go_wp2
        go_quiet (fail)
        go_wp2
        go_roundw
        case rel => exact ⟨k + 1, by omega, by go_num, unhide HR, _, rfl⟩
        case measure => simp [intOf]; omega
    · obtain rfl : k = n := by omega
      have hr : skip us hs t 0 k = k := by have h1 := unhide HS; rw [Nat.sub_self] at h1; exact h1
      have HR := hide hr
      clear HS hr
      go_wp2
      go_ret
      exact ⟨ret_int (by rw [unhide HR]), _, rfl⟩
end Go.Proofs.Qxb6615885aMods.Win
