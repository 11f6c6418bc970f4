/-
  The walks of FnWhiteLineAtSplitsAtAnyCut (4), behind its early returns.
-/
import Derived.Test.Qxb6616131aModsHang
namespace Go.Proofs.Qxb6616131aMods.Scan
open Go.ChangeShapes Go.WideShapes Go.ChangeAt Go.RowKit

theorem cb_shift (g : Nat → Int) (c : Nat) : ∀ m i, cb (fun j => g (c + j)) i m = cb g (c + i) m
  | 0, _ => rfl
  | m + 1, i => by rw [cb, cb, cb_shift g c m (i + 1)]; rfl

theorem Txt.upto' {w : World} {ao : Option Addr} {n b o m : Nat} {g : Nat → Int} (T : Txt w ao n b o g) (hm : m ≤ n) : Txt w ao m b o g := ⟨fun h => T.adr (by omega), fun i hi => T.txt i (by omega)⟩

theorem cont_eq (w : World) (ao : Option Addr) (n cap b o : Nat) (g : Nat → Int) (r : Bool) (T : Txt w ao n b o g) (hn : n ≤ 1048576) (hr : cb g 0 n = r) :
    Calls Trym.prog 15 #[.slice ao n cap] w fun e w' => e = .returned (.bool r) ∧ w' = w := by
  rw [← hr]
  exact cont_any w ao n cap b o g T hn

theorem blk_not_brk {c : Int} (h : blk c = true) : brk c = false := by
  have : c = 32 ∨ c = 9 := by simpa [blk] using h
  rcases this with rfl | rfl <;> rfl

/-- A text at its cut. -/
theorem split_law (g : Nat → Int) : ∀ a b i, wl g i (a + b) = (wl g i a && (cb g i a || wl g (i + a) b))
  | 0, b, i => by simp [wl, cb]
  | a + 1, b, i => by
    rw [show a + 1 + b = (a + b) + 1 by omega, wl, wl, cb]
    by_cases h1 : brk (g i) = true
    · rw [if_pos h1, if_pos h1, if_pos h1]; rfl
    · rw [if_neg h1, if_neg h1, if_neg h1]
      by_cases h2 : blk (g i) = true
      · rw [if_pos h2, if_pos h2, split_law g a b (i + 1), show i + 1 + a = i + (a + 1) by omega]
      · rw [if_neg h2, if_neg h2]; rfl

set_option maxHeartbeats 1000000 in
theorem split_a (x : Addr) (n cap p k m : Nat) (zs : List Int) (w : World) (hn : n ≤ 1048576) (hi : p + k ≤ m) (hm : m < n) (h : ∀ i, i < n → w.cell? (x.add i) = some (.int .u8 (zs.getD i 0))) :
    Calls Trym.prog 4 #[.slice (some x) n cap, .int .i64 p, .int .i64 k, .int .i64 (m : Nat)] w fun e w' => e = .returned (.bool true) ∧ Below w.heap.size w w' := by
  have hB : decide (n ≤ 1048576) = true := decide_eq_true hn
  have HC := hide (clone_any x n cap zs w hn h)
  clear h
  generalize (fun i => zs.getD i 0) = g at *
  have hlaw := split_law g (m - (p + k)) (n - m) (p + k)
  rw [show m - (p + k) + (n - m) = n - (p + k) by omega, show p + k + (m - (p + k)) = m by omega] at hlaw
  obtain ⟨r, hr⟩ : ∃ r, wl g (p + k) (n - (p + k)) = r := ⟨_, rfl⟩
  obtain ⟨l, hl⟩ : ∃ l, wl g (p + k) (m - (p + k)) = l := ⟨_, rfl⟩
  obtain ⟨q, hq⟩ : ∃ q, wl g m (n - m) = q := ⟨_, rfl⟩
  obtain ⟨c, hc⟩ : ∃ c, cb g (p + k) (m - (p + k)) = c := ⟨_, rfl⟩
  replace hlaw : r = (l && (c || q)) := by rw [← hr, ← hl, ← hq, ← hc]; exact hlaw
  have hq2 : wl (fun i => g (m + i)) (0 + 0) (n - m - (0 + 0)) = q := by rw [wl_shift, Nat.add_zero, Nat.add_zero, Nat.sub_zero]; exact hq
  have hc2 : cb (fun i => g (p + k + i)) 0 (m - (p + k)) = c := by rw [cb_shift, Nat.add_zero]; exact hc
  have HR := hide hr
  have HL := hide hl
  have HQ := hide hq2
  have HB := hide hc2
  have HW := hide hlaw
  clear hr hl hq hc hq2 hc2 hlaw
  have hne : ¬ n = m := by omega
  have hne2 : ¬ n = p + k := by omega
  go_enter Trym.func4, Trym.ntmps4
  go_wp2_with fail
  refine (bytes11 _ _ _ _ _ _ _ (by omega)).mono ?_
  rintro e w' ⟨rfl, hw'⟩
  subst hw'
  rw [hB]
  clear hB
  go_wp2_with fail
  refine (unhide HC).mono ?_
  rintro e w1 ⟨rfl, T1, hz1, b1⟩
  go_wp2_with fail
  refine (new_any _ _ _ _ _ _ _).mono ?_
  rintro e w2 ⟨rfl, c0, c1, hz2, b2⟩
  have T2 := T1.below b2
  have hb2 : Below w'.heap.size w' w2 := b1.trans (b2.mono (by omega))
  clear HC T1 b1 b2
  go_wp2_with fail
  refine (white_eq w2 _ n n p k w'.heap.size 0 _ g r c0 c1 T2 hn (by omega) (unhide HR)).mono ?_
  rintro e w3 ⟨rfl, nd, rfl⟩
  have T3 := T2.drewN nd
  have hb3 : Below w'.heap.size w' (w2.drewN nd) := below_drewN hb2 nd
  have hs3 : w'.heap.size < (w2.drewN nd).heap.size := by show _ < w2.heap.size; omega
  generalize w2.drewN nd = w3 at *
  clear c0 c1 T2 hb2
  go_wp2_with fail
  refine (new_any _ _ _ _ _ _ _).mono ?_
  rintro e w4 ⟨rfl, c0, c1, hz4, b4⟩
  have T4 := T3.below b4
  have hb4 : Below w'.heap.size w' w4 := hb3.trans (b4.mono (by omega))
  clear T3 hb3 b4
  go_wp2_with fail
  refine (white_eq w4 _ m n p k w'.heap.size 0 _ g l c0 c1 (T4.upto m (by omega)) (by omega) (by omega) (unhide HL)).mono ?_
  rintro e w5 ⟨rfl, ne, rfl⟩
  have T5 := T4.drewN ne
  have hb5 : Below w'.heap.size w' (w4.drewN ne) := below_drewN hb4 ne
  have hs5 : w'.heap.size < (w4.drewN ne).heap.size := by show _ < w4.heap.size; omega
  generalize w4.drewN ne = w5 at *
  clear c0 c1 T4 hb4
  go_wp2_with fail
  refine (new_any _ _ _ _ _ _ _).mono ?_
  rintro e w6 ⟨rfl, c0, c1, hz6, b6⟩
  have T6 := T5.below b6
  have hb6 : Below w'.heap.size w' w6 := hb5.trans (b6.mono (by omega))
  clear T5 hb5 b6
  go_wp2_with fail
  refine (white_eq w6 _ (n - m) (n - m) 0 0 w'.heap.size m _ _ q c0 c1 (T6.from_ m) (by omega) (by omega) (unhide HQ)).mono ?_
  rintro e w7 ⟨rfl, nf, rfl⟩
  have T7 := T6.drewN nf
  have hb7 : Below w'.heap.size w' (w6.drewN nf) := below_drewN hb6 nf
  generalize w6.drewN nf = w7 at *
  clear c0 c1 T6 hb6
  have HT := hide T7
  have hlw := unhide HW
  clear T7
  cases l
  · obtain rfl : r = false := by simpa using hlw
    clear hlw HW
    go_wp2_with fail
    refine (blank_eq w7 _ n n (p + k) w'.heap.size 0 g false (unhide HT) hn (by omega) (unhide HR)).mono ?_
    rintro e w8 ⟨rfl, hw8⟩
    subst hw8
    go_wp2_with fail
    go_ret
    exact ⟨rfl, hb7⟩
  · cases c
    · obtain rfl : r = q := by simpa using hlw
      clear hlw HW
      go_wp2_with fail
      refine (cont_eq w7 _ (m - (p + k)) (n - (p + k)) w'.heap.size (p + k) _ false (((unhide HT).from_ (p + k)).upto' (by omega)) (by omega) (unhide HB)).mono ?_
      rintro e w8 ⟨rfl, hw8⟩
      subst hw8
      go_wp2_with fail
      refine (blank_eq w8 _ n n (p + k) w'.heap.size 0 g r (unhide HT) hn (by omega) (unhide HR)).mono ?_
      rintro e w9 ⟨rfl, hw9⟩
      subst hw9
      go_wp2_with fail
      go_ret
      exact ⟨by simp, hb7⟩
    · obtain rfl : r = true := by simpa using hlw
      clear hlw HW
      go_wp2_with fail
      refine (cont_eq w7 _ (m - (p + k)) (n - (p + k)) w'.heap.size (p + k) _ true (((unhide HT).from_ (p + k)).upto' (by omega)) (by omega) (unhide HB)).mono ?_
      rintro e w8 ⟨rfl, hw8⟩
      subst hw8
      go_wp2_with fail
      refine (blank_eq w8 _ n n (p + k) w'.heap.size 0 g true (unhide HT) hn (by omega) (unhide HR)).mono ?_
      rintro e w9 ⟨rfl, hw9⟩
      subst hw9
      go_wp2_with fail
      go_ret
      exact ⟨rfl, hb7⟩

set_option maxHeartbeats 1000000 in
theorem split_b (x : Addr) (n cap p k : Nat) (zs : List Int) (w : World) (hn : n ≤ 1048576) (hi : p + k < n) (h : ∀ i, i < n → w.cell? (x.add i) = some (.int .u8 (zs.getD i 0))) :
    Calls Trym.prog 4 #[.slice (some x) n cap, .int .i64 p, .int .i64 k, .int .i64 (n : Nat)] w fun e w' => e = .returned (.bool true) ∧ Below w.heap.size w w' := by
  have hB : decide (n ≤ 1048576) = true := decide_eq_true hn
  have HC := hide (clone_any x n cap zs w hn h)
  clear h
  generalize (fun i => zs.getD i 0) = g at *
  have hlaw := split_law g (n - (p + k)) (n - n) (p + k)
  rw [show n - (p + k) + (n - n) = n - (p + k) by omega, show p + k + (n - (p + k)) = n by omega] at hlaw
  obtain ⟨r, hr⟩ : ∃ r, wl g (p + k) (n - (p + k)) = r := ⟨_, rfl⟩
  obtain ⟨l, hl⟩ : ∃ l, wl g (p + k) (n - (p + k)) = l := ⟨_, rfl⟩
  obtain ⟨q, hq⟩ : ∃ q, wl g n (n - n) = q := ⟨_, rfl⟩
  obtain ⟨c, hc⟩ : ∃ c, cb g (p + k) (n - (p + k)) = c := ⟨_, rfl⟩
  replace hlaw : r = (l && (c || q)) := by rw [← hr, ← hl, ← hq, ← hc]; exact hlaw
  have hq2 : wl (fun i => g (n + i)) (0 + 0) (n - n - (0 + 0)) = q := by rw [wl_shift, Nat.add_zero, Nat.add_zero, Nat.sub_zero]; exact hq
  have hc2 : cb (fun i => g (p + k + i)) 0 (n - (p + k)) = c := by rw [cb_shift, Nat.add_zero]; exact hc
  have HR := hide hr
  have HL := hide hl
  have HQ := hide hq2
  have HB := hide hc2
  have HW := hide hlaw
  clear hr hl hq hc hq2 hc2 hlaw
  have hne2 : ¬ n = p + k := by omega
  go_enter Trym.func4, Trym.ntmps4
  go_wp2_with fail
  refine (bytes11 _ _ _ _ _ _ _ (by omega)).mono ?_
  rintro e w' ⟨rfl, hw'⟩
  subst hw'
  rw [hB]
  clear hB
  go_wp2_with fail
  refine (unhide HC).mono ?_
  rintro e w1 ⟨rfl, T1, hz1, b1⟩
  go_wp2_with fail
  refine (new_any _ _ _ _ _ _ _).mono ?_
  rintro e w2 ⟨rfl, c0, c1, hz2, b2⟩
  have T2 := T1.below b2
  have hb2 : Below w'.heap.size w' w2 := b1.trans (b2.mono (by omega))
  clear HC T1 b1 b2
  go_wp2_with fail
  refine (white_eq w2 _ n n p k w'.heap.size 0 _ g r c0 c1 T2 hn (by omega) (unhide HR)).mono ?_
  rintro e w3 ⟨rfl, nd, rfl⟩
  have T3 := T2.drewN nd
  have hb3 : Below w'.heap.size w' (w2.drewN nd) := below_drewN hb2 nd
  have hs3 : w'.heap.size < (w2.drewN nd).heap.size := by show _ < w2.heap.size; omega
  generalize w2.drewN nd = w3 at *
  clear c0 c1 T2 hb2
  go_wp2_with fail
  refine (new_any _ _ _ _ _ _ _).mono ?_
  rintro e w4 ⟨rfl, c0, c1, hz4, b4⟩
  have T4 := T3.below b4
  have hb4 : Below w'.heap.size w' w4 := hb3.trans (b4.mono (by omega))
  clear T3 hb3 b4
  go_wp2_with fail
  refine (white_eq w4 _ n n p k w'.heap.size 0 _ g l c0 c1 (T4.upto n (by omega)) (by omega) (by omega) (unhide HL)).mono ?_
  rintro e w5 ⟨rfl, ne, rfl⟩
  have T5 := T4.drewN ne
  have hb5 : Below w'.heap.size w' (w4.drewN ne) := below_drewN hb4 ne
  have hs5 : w'.heap.size < (w4.drewN ne).heap.size := by show _ < w4.heap.size; omega
  generalize w4.drewN ne = w5 at *
  clear c0 c1 T4 hb4
  go_wp2_with fail
  refine (new_any _ _ _ _ _ _ _).mono ?_
  rintro e w6 ⟨rfl, c0, c1, hz6, b6⟩
  have T6 := T5.below b6
  have hb6 : Below w'.heap.size w' w6 := hb5.trans (b6.mono (by omega))
  clear T5 hb5 b6
  go_wp2_with fail
  refine (white_eq w6 _ 0 0 0 0 0 0 _ (fun i => g (n + i)) q c0 c1 (Txt.none_ _ _ _ _) (by omega) (by omega) (by have h9 := unhide HQ; rw [Nat.sub_self] at h9; exact h9)).mono ?_
  rintro e w7 ⟨rfl, nf, rfl⟩
  have T7 := T6.drewN nf
  have hb7 : Below w'.heap.size w' (w6.drewN nf) := below_drewN hb6 nf
  generalize w6.drewN nf = w7 at *
  clear c0 c1 T6 hb6
  have HT := hide T7
  have hlw := unhide HW
  clear T7
  cases l
  · obtain rfl : r = false := by simpa using hlw
    clear hlw HW
    go_wp2_with fail
    refine (blank_eq w7 _ n n (p + k) w'.heap.size 0 g false (unhide HT) hn (by omega) (unhide HR)).mono ?_
    rintro e w8 ⟨rfl, hw8⟩
    subst hw8
    go_wp2_with fail
    go_ret
    exact ⟨rfl, hb7⟩
  · cases c
    · obtain rfl : r = q := by simpa using hlw
      clear hlw HW
      go_wp2_with fail
      refine (cont_eq w7 _ (n - (p + k)) (n - (p + k)) w'.heap.size (p + k) _ false ((unhide HT).from_ (p + k)) (by omega) (unhide HB)).mono ?_
      rintro e w8 ⟨rfl, hw8⟩
      subst hw8
      go_wp2_with fail
      refine (blank_eq w8 _ n n (p + k) w'.heap.size 0 g r (unhide HT) hn (by omega) (unhide HR)).mono ?_
      rintro e w9 ⟨rfl, hw9⟩
      subst hw9
      go_wp2_with fail
      go_ret
      exact ⟨by simp, hb7⟩
    · obtain rfl : r = true := by simpa using hlw
      clear hlw HW
      go_wp2_with fail
      refine (cont_eq w7 _ (n - (p + k)) (n - (p + k)) w'.heap.size (p + k) _ true ((unhide HT).from_ (p + k)) (by omega) (unhide HB)).mono ?_
      rintro e w8 ⟨rfl, hw8⟩
      subst hw8
      go_wp2_with fail
      refine (blank_eq w8 _ n n (p + k) w'.heap.size 0 g true (unhide HT) hn (by omega) (unhide HR)).mono ?_
      rintro e w9 ⟨rfl, hw9⟩
      subst hw9
      go_wp2_with fail
      go_ret
      exact ⟨rfl, hb7⟩

set_option maxHeartbeats 1000000 in
theorem split_c (x : Addr) (cap p k : Nat) (zs : List Int) (w : World) (hn : (p + k) ≤ 1048576)  (h : ∀ i, i < (p + k) → w.cell? (x.add i) = some (.int .u8 (zs.getD i 0))) :
    Calls Trym.prog 4 #[.slice (some x) (p + k) cap, .int .i64 p, .int .i64 k, .int .i64 ((p + k) : Nat)] w fun e w' => e = .returned (.bool true) ∧ Below w.heap.size w w' := by
  have hB : decide ((p + k) ≤ 1048576) = true := decide_eq_true hn
  have HC := hide (clone_any x (p + k) cap zs w hn h)
  clear h
  generalize (fun i => zs.getD i 0) = g at *
  have hlaw := split_law g ((p + k) - (p + k)) ((p + k) - (p + k)) (p + k)
  rw [show (p + k) - (p + k) + ((p + k) - (p + k)) = (p + k) - (p + k) by omega, show p + k + ((p + k) - (p + k)) = (p + k) by omega] at hlaw
  obtain ⟨r, hr⟩ : ∃ r, wl g (p + k) ((p + k) - (p + k)) = r := ⟨_, rfl⟩
  obtain ⟨l, hl⟩ : ∃ l, wl g (p + k) ((p + k) - (p + k)) = l := ⟨_, rfl⟩
  obtain ⟨q, hq⟩ : ∃ q, wl g (p + k) ((p + k) - (p + k)) = q := ⟨_, rfl⟩
  obtain ⟨c, hc⟩ : ∃ c, cb g (p + k) ((p + k) - (p + k)) = c := ⟨_, rfl⟩
  replace hlaw : r = (l && (c || q)) := by rw [← hr, ← hl, ← hq, ← hc]; exact hlaw
  have hq2 : wl (fun i => g ((p + k) + i)) (0 + 0) ((p + k) - (p + k) - (0 + 0)) = q := by rw [wl_shift, Nat.add_zero, Nat.add_zero, Nat.sub_zero]; exact hq
  have hc2 : cb (fun i => g (p + k + i)) 0 ((p + k) - (p + k)) = c := by rw [cb_shift, Nat.add_zero]; exact hc
  have HR := hide hr
  have HL := hide hl
  have HQ := hide hq2
  have HB := hide hc2
  have HW := hide hlaw
  clear hr hl hq hc hq2 hc2 hlaw
  go_enter Trym.func4, Trym.ntmps4
  go_wp2_with fail
  refine (bytes11 _ _ _ _ _ _ _ (by omega)).mono ?_
  rintro e w' ⟨rfl, hw'⟩
  subst hw'
  rw [hB]
  clear hB
  go_wp2_with fail
  refine (unhide HC).mono ?_
  rintro e w1 ⟨rfl, T1, hz1, b1⟩
  go_wp2_with fail
  refine (new_any _ _ _ _ _ _ _).mono ?_
  rintro e w2 ⟨rfl, c0, c1, hz2, b2⟩
  have T2 := T1.below b2
  have hb2 : Below w'.heap.size w' w2 := b1.trans (b2.mono (by omega))
  clear HC T1 b1 b2
  go_wp2_with fail
  refine (white_eq w2 _ (p + k) (p + k) p k w'.heap.size 0 _ g r c0 c1 T2 hn (by omega) (unhide HR)).mono ?_
  rintro e w3 ⟨rfl, nd, rfl⟩
  have T3 := T2.drewN nd
  have hb3 : Below w'.heap.size w' (w2.drewN nd) := below_drewN hb2 nd
  have hs3 : w'.heap.size < (w2.drewN nd).heap.size := by show _ < w2.heap.size; omega
  generalize w2.drewN nd = w3 at *
  clear c0 c1 T2 hb2
  go_wp2_with fail
  refine (new_any _ _ _ _ _ _ _).mono ?_
  rintro e w4 ⟨rfl, c0, c1, hz4, b4⟩
  have T4 := T3.below b4
  have hb4 : Below w'.heap.size w' w4 := hb3.trans (b4.mono (by omega))
  clear T3 hb3 b4
  go_wp2_with fail
  refine (white_eq w4 _ (p + k) (p + k) p k w'.heap.size 0 _ g l c0 c1 (T4.upto (p + k) (by omega)) (by omega) (by omega) (unhide HL)).mono ?_
  rintro e w5 ⟨rfl, ne, rfl⟩
  have T5 := T4.drewN ne
  have hb5 : Below w'.heap.size w' (w4.drewN ne) := below_drewN hb4 ne
  have hs5 : w'.heap.size < (w4.drewN ne).heap.size := by show _ < w4.heap.size; omega
  generalize w4.drewN ne = w5 at *
  clear c0 c1 T4 hb4
  go_wp2_with fail
  refine (new_any _ _ _ _ _ _ _).mono ?_
  rintro e w6 ⟨rfl, c0, c1, hz6, b6⟩
  have T6 := T5.below b6
  have hb6 : Below w'.heap.size w' w6 := hb5.trans (b6.mono (by omega))
  clear T5 hb5 b6
  go_wp2_with fail
  refine (white_eq w6 _ 0 0 0 0 0 0 _ (fun i => g ((p + k) + i)) q c0 c1 (Txt.none_ _ _ _ _) (by omega) (by omega) (by have h9 := unhide HQ; rw [Nat.sub_self] at h9; exact h9)).mono ?_
  rintro e w7 ⟨rfl, nf, rfl⟩
  have T7 := T6.drewN nf
  have hb7 : Below w'.heap.size w' (w6.drewN nf) := below_drewN hb6 nf
  generalize w6.drewN nf = w7 at *
  clear c0 c1 T6 hb6
  have HT := hide T7
  have hlw := unhide HW
  clear T7
  cases l
  · obtain rfl : r = false := by simpa using hlw
    clear hlw HW
    go_wp2_with fail
    refine (blank_eq w7 _ (p + k) (p + k) (p + k) w'.heap.size 0 g false (unhide HT) hn (by omega) (unhide HR)).mono ?_
    rintro e w8 ⟨rfl, hw8⟩
    subst hw8
    go_wp2_with fail
    go_ret
    exact ⟨rfl, hb7⟩
  · cases c
    · obtain rfl : r = q := by simpa using hlw
      clear hlw HW
      go_wp2_with fail
      refine (cont_eq w7 _ 0 0 0 0 (fun i => g (p + k + i)) false (Txt.none_ _ _ _ _) (by omega) (by have h9 := unhide HB; rw [Nat.sub_self] at h9; exact h9)).mono ?_
      rintro e w8 ⟨rfl, hw8⟩
      subst hw8
      go_wp2_with fail
      refine (blank_eq w8 _ (p + k) (p + k) (p + k) w'.heap.size 0 g r (unhide HT) hn (by omega) (unhide HR)).mono ?_
      rintro e w9 ⟨rfl, hw9⟩
      subst hw9
      go_wp2_with fail
      go_ret
      exact ⟨by simp, hb7⟩
    · obtain rfl : r = true := by simpa using hlw
      clear hlw HW
      go_wp2_with fail
      refine (cont_eq w7 _ 0 0 0 0 (fun i => g (p + k + i)) true (Txt.none_ _ _ _ _) (by omega) (by have h9 := unhide HB; rw [Nat.sub_self] at h9; exact h9)).mono ?_
      rintro e w8 ⟨rfl, hw8⟩
      subst hw8
      go_wp2_with fail
      refine (blank_eq w8 _ (p + k) (p + k) (p + k) w'.heap.size 0 g true (unhide HT) hn (by omega) (unhide HR)).mono ?_
      rintro e w9 ⟨rfl, hw9⟩
      subst hw9
      go_wp2_with fail
      go_ret
      exact ⟨rfl, hb7⟩

set_option maxHeartbeats 1000000 in
theorem split_nil (w : World) :
    Calls Trym.prog 4 #[.slice none 0 0, .int .i64 0, .int .i64 0, .int .i64 0] w fun e w' => e = .returned (.bool true) ∧ Below w.heap.size w w' := by
  have hB : decide (0 ≤ 1048576) = true := rfl
  have g : Nat → Int := fun _ => 0
  go_enter Trym.func4, Trym.ntmps4
  go_wp2_with fail
  refine (bytes11 _ _ _ _ _ _ _ (by omega)).mono ?_
  rintro e w' ⟨rfl, hw'⟩
  subst hw'
  rw [hB]
  clear hB
  go_wp2_with fail
  refine (clone_nil _ _ _).mono ?_
  rintro e w1 ⟨rfl, hw1⟩
  subst hw1
  go_wp2_with fail
  refine (new_any _ _ _ _ _ _ _).mono ?_
  rintro e w2 ⟨rfl, c0, c1, hz2, b2⟩
  go_wp2_with fail
  refine (white_eq w2 _ 0 0 0 0 0 0 _ g true c0 c1 (Txt.none_ _ _ _ _) (by omega) (by omega) rfl).mono ?_
  rintro e w3 ⟨rfl, nd, rfl⟩
  have hb3 : Below w1.heap.size w1 (w2.drewN nd) := below_drewN b2 nd
  have hs3 : w1.heap.size < (w2.drewN nd).heap.size := by show _ < w2.heap.size; omega
  generalize w2.drewN nd = w3 at *
  clear c0 c1 b2
  go_wp2_with fail
  refine (new_any _ _ _ _ _ _ _).mono ?_
  rintro e w4 ⟨rfl, c0, c1, hz4, b4⟩
  have hb4 : Below w1.heap.size w1 w4 := hb3.trans (b4.mono (by omega))
  clear hb3 b4
  go_wp2_with fail
  refine (white_eq w4 _ 0 0 0 0 0 0 _ g true c0 c1 (Txt.none_ _ _ _ _) (by omega) (by omega) rfl).mono ?_
  rintro e w5 ⟨rfl, ne, rfl⟩
  have hb5 : Below w1.heap.size w1 (w4.drewN ne) := below_drewN hb4 ne
  have hs5 : w1.heap.size < (w4.drewN ne).heap.size := by show _ < w4.heap.size; omega
  generalize w4.drewN ne = w5 at *
  clear c0 c1 hb4
  go_wp2_with fail
  refine (new_any _ _ _ _ _ _ _).mono ?_
  rintro e w6 ⟨rfl, c0, c1, hz6, b6⟩
  have hb6 : Below w1.heap.size w1 w6 := hb5.trans (b6.mono (by omega))
  clear hb5 b6
  go_wp2_with fail
  refine (white_eq w6 _ 0 0 0 0 0 0 _ g true c0 c1 (Txt.none_ _ _ _ _) (by omega) (by omega) rfl).mono ?_
  rintro e w7 ⟨rfl, nf, rfl⟩
  have hb7 : Below w1.heap.size w1 (w6.drewN nf) := below_drewN hb6 nf
  generalize w6.drewN nf = w7 at *
  clear c0 c1 hb6
  go_wp2_with fail
  refine (cont_eq w7 _ 0 0 0 0 g false (Txt.none_ _ _ _ _) (by omega) rfl).mono ?_
  rintro e w8 ⟨rfl, hw8⟩
  subst hw8
  go_wp2_with fail
  refine (blank_eq w8 _ 0 0 0 0 0 g true (Txt.none_ _ _ _ _) (by omega) (by omega) rfl).mono ?_
  rintro e w9 ⟨rfl, hw9⟩
  subst hw9
  go_wp2_with fail
  go_ret
  exact ⟨rfl, hb7⟩

end Go.Proofs.Qxb6616131aMods.Scan
