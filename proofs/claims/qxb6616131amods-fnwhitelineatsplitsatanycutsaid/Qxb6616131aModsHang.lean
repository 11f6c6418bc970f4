/-
  The walks of FnWhiteLineAtHangsOnlyOnTheTextFromPosPlusK (5), behind its early returns.
-/
import Derived.Test.Qxb6616131aModsScan
namespace Go.Proofs.Qxb6616131aMods.Scan
open Go.ChangeShapes Go.WideShapes Go.ChangeAt Go.RowKit

theorem Txt.below {w w' : World} {ao : Option Addr} {n b o : Nat} {g : Nat → Int} (T : Txt w ao n b o g) (h : Below w.heap.size w w') : Txt w' ao n b o g :=
  ⟨T.adr, fun i hi => (h.cell (World.block_lt_of_cell? w _ (T.txt i hi))).trans (T.txt i hi)⟩

/-- A part of the text: from byte c on, or up to byte m. -/
theorem Txt.from_ {w : World} {n b : Nat} {g : Nat → Int} (T : Txt w (some ⟨b, 0, none⟩) n b 0 g) (c : Nat) : Txt w (some ⟨b, c, none⟩) (n - c) b c (fun i => g (c + i)) :=
  ⟨fun _ => rfl, fun i hi => by have := T.txt (c + i) (by omega); rwa [Nat.zero_add] at this⟩
theorem Txt.none_ {w : World} (ao : Option Addr) (b o : Nat) (g : Nat → Int) : Txt w ao 0 b o g := ⟨fun h => absurd h (by omega), fun i hi => absurd hi (by omega)⟩
theorem Txt.upto {w : World} {n b : Nat} {g : Nat → Int} (T : Txt w (some ⟨b, 0, none⟩) n b 0 g) (m : Nat) (hm : m ≤ n) : Txt w (some ⟨b, 0, none⟩) m b 0 g := ⟨fun _ => rfl, fun i hi => T.txt i (by omega)⟩

theorem wl_shift (g : Nat → Int) (c : Nat) : ∀ m i, wl (fun j => g (c + j)) i m = wl g (c + i) m
  | 0, _ => rfl
  | m + 1, i => by rw [wl, wl, wl_shift g c m (i + 1)]; rfl

theorem white_eq (w : World) (B n cap p k b o : Nat) (ao : Option Addr) (g : Nat → Int) (r : Bool) (h0 : w.cell? ⟨B, 0, none⟩ = some (.slice ao n cap)) (h1 : w.cell? ⟨B, 1, none⟩ = some (.int .i64 p)) (T : Txt w ao n b o g) (hn : n ≤ 1048576) (hk : p + k ≤ 9223372036854775807) (hr : wl g (p + k) (n - (p + k)) = r) :
    Calls Trym.prog 13 #[.pointer (some ⟨B, 0, none⟩), .int .i64 k] w fun e w' => e = .returned (.bool r) ∧ ∃ c, w' = w.drewN c := by
  rw [← hr]
  exact zzwhite_any w B n cap p k b o ao g ⟨h0, h1, T⟩ hn hk

theorem blank_eq (w : World) (ao : Option Addr) (n cap i b o : Nat) (g : Nat → Int) (r : Bool) (T : Txt w ao n b o g) (hn : n ≤ 1048576) (hi : i ≤ 9223372036854775807) (hr : wl g i (n - i) = r) :
    Calls Trym.prog 16 #[.slice ao n cap, .int .i64 i] w fun e w' => e = .returned (.bool r) ∧ w' = w := by
  rw [← hr]
  exact blank_any w ao n cap i b o g T hn hi

set_option maxHeartbeats 1000000 in
theorem hang_lt (x : Addr) (n cap p k : Nat) (zs : List Int) (w : World) (hn : n ≤ 1048576) (hp : p < n) (hk : p + k ≤ 9223372036854775807) (h : ∀ i, i < n → w.cell? (x.add i) = some (.int .u8 (zs.getD i 0))) :
    Calls Trym.prog 5 #[.slice (some x) n cap, .int .i64 p, .int .i64 k] w fun e w' => e = .returned (.bool true) ∧ Below w.heap.size w w' := by
  have hB : decide (n ≤ 1048576) = true := decide_eq_true hn
  have HC := hide (clone_any x n cap zs w hn h)
  clear h
  obtain ⟨r, hr⟩ : ∃ r, wl (fun i => zs.getD i 0) (p + k) (n - (p + k)) = r := ⟨_, rfl⟩
  have HR := hide hr
  have hr2 : wl (fun i => (fun j => zs.getD j 0) (p + i)) (0 + k) (n - p - (0 + k)) = r := by
    rw [wl_shift (fun j => zs.getD j 0) p, Nat.zero_add, Nat.sub_sub]; exact hr
  have HR2 := hide hr2
  clear hr hr2
  have p1 : (p : Int) ≤ (n : Int) := by omega
  have hne : ¬ n = p := by omega
  generalize (fun i => zs.getD i 0) = g at *
  go_enter Trym.func5, Trym.ntmps5
  go_wp2_with fail
  refine (bytes17 _ _ _ _ _ _ (by omega)).mono ?_
  rintro e w' ⟨rfl, hw'⟩
  subst hw'
  rw [hB]
  clear hB
  go_wp2_with fail
  refine (unhide HC).mono ?_
  rintro e w1 ⟨rfl, T1, hz1, b1⟩
  go_wp2_with fail
  refine (new_any _ _ _ _ _ _ _).mono ?_
  rintro e w2 ⟨rfl, c0, c1, hz2, b2⟩
  have T2 := T1.below b2
  have hb2 : Below w'.heap.size w' w2 := b1.trans (b2.mono (by omega))
  clear HC T1 b1 b2
  go_wp2_with fail
  refine (white_eq w2 _ n n p k w'.heap.size 0 _ g r c0 c1 T2 hn hk (unhide HR)).mono ?_
  rintro e w3 ⟨rfl, nd, rfl⟩
  clear c0 c1
  go_wp2_with fail
  have T2' := T2.drewN nd
  have hb2' : Below w'.heap.size w' (w2.drewN nd) := below_drewN hb2 nd
  have hs2 : w'.heap.size < (w2.drewN nd).heap.size := by show _ < w2.heap.size; omega
  generalize w2.drewN nd = w3 at *
  clear T2 hb2
  refine (new_any _ _ _ _ _ _ _).mono ?_
  rintro e w4 ⟨rfl, c0, c1, hz4, b4⟩
  have T4 := T2'.below b4
  have hb4 : Below w'.heap.size w' w4 := hb2'.trans (b4.mono (by omega))
  clear T2' hb2' b4
  go_wp2_with fail
  refine (white_eq w4 _ (n - p) (n - p) 0 k w'.heap.size p _ _ r c0 c1 (T4.from_ p) (by omega) (by omega) (unhide HR2)).mono ?_
  rintro e w5 ⟨rfl, ne, rfl⟩
  clear c0 c1
  have T5 := T4.drewN ne
  have hb5 : Below w'.heap.size w' (w4.drewN ne) := below_drewN hb4 ne
  have hs5 : w'.heap.size < (w4.drewN ne).heap.size := by show _ < w4.heap.size; omega
  generalize w4.drewN ne = w6 at *
  clear T4 hb4
  go_wp2_with fail
  have HT5 := hide T5
  refine (blank_eq w6 _ n n (p + k) w'.heap.size 0 g r T5 hn hk (unhide HR)).mono ?_
  rintro e w7 ⟨rfl, hw7⟩
  subst hw7
  by_cases hle : p + k ≤ n
  · have p2 : (p : Int) + (k : Int) ≤ (n : Int) := by omega
    go_wp2_with fail
    refine (new_any _ _ _ _ _ _ _).mono ?_
    rintro e w8 ⟨rfl, c0, c1, hz8, b8⟩
    have T8 := (unhide HT5).below b8
    have hb8 : Below w'.heap.size w' w8 := hb5.trans (b8.mono (by omega))
    clear T5 HT5 hb5 b8
    go_wp2_with fail
    refine (white_eq w8 _ n n (p + k) 0 w'.heap.size 0 _ g r c0 c1 T8 hn (by omega) (by rw [Nat.add_zero]; exact unhide HR)).mono ?_
    rintro e w9 ⟨rfl, nf, rfl⟩
    have hb9 : Below w'.heap.size w' (w8.drewN nf) := below_drewN hb8 nf
    go_wp2_with fail
    go_ret
    exact ⟨by simp, hb9⟩
  · have p2 : ¬ (p : Int) + (k : Int) ≤ (n : Int) := by omega
    go_wp2_with fail
    go_ret
    exact ⟨by simp, hb5⟩
set_option maxHeartbeats 1000000 in
theorem hang_eq (x : Addr) (n cap k : Nat) (zs : List Int) (w : World) (hn : n ≤ 1048576) (hk : n + k ≤ 9223372036854775807) (h : ∀ i, i < n → w.cell? (x.add i) = some (.int .u8 (zs.getD i 0))) :
    Calls Trym.prog 5 #[.slice (some x) n cap, .int .i64 n, .int .i64 k] w fun e w' => e = .returned (.bool true) ∧ Below w.heap.size w w' := by
  have hB : decide (n ≤ 1048576) = true := decide_eq_true hn
  have HC := hide (clone_any x n cap zs w hn h)
  clear h
  have hr : wl (fun i => zs.getD i 0) (n + k) (n - (n + k)) = true := by rw [show n - (n + k) = 0 by omega]; rfl
  have HR := hide hr
  clear hr
  generalize (fun i => zs.getD i 0) = g at *
  go_enter Trym.func5, Trym.ntmps5
  go_wp2_with fail
  refine (bytes17 _ _ _ _ _ _ (by omega)).mono ?_
  rintro e w' ⟨rfl, hw'⟩
  subst hw'
  rw [hB]
  clear hB
  go_wp2_with fail
  refine (unhide HC).mono ?_
  rintro e w1 ⟨rfl, T1, hz1, b1⟩
  go_wp2_with fail
  refine (new_any _ _ _ _ _ _ _).mono ?_
  rintro e w2 ⟨rfl, c0, c1, hz2, b2⟩
  have T2 := T1.below b2
  have hb2 : Below w'.heap.size w' w2 := b1.trans (b2.mono (by omega))
  clear HC T1 b1 b2
  go_wp2_with fail
  refine (white_eq w2 _ n n n k w'.heap.size 0 _ g true c0 c1 T2 hn hk (unhide HR)).mono ?_
  rintro e w3 ⟨rfl, nd, rfl⟩
  clear c0 c1
  go_wp2_with fail
  have T2' := T2.drewN nd
  have hb2' : Below w'.heap.size w' (w2.drewN nd) := below_drewN hb2 nd
  have hs2 : w'.heap.size < (w2.drewN nd).heap.size := by show _ < w2.heap.size; omega
  generalize w2.drewN nd = w3 at *
  clear T2 hb2
  refine (new_any _ _ _ _ _ _ _).mono ?_
  rintro e w4 ⟨rfl, c0, c1, hz4, b4⟩
  have T4 := T2'.below b4
  have hb4 : Below w'.heap.size w' w4 := hb2'.trans (b4.mono (by omega))
  clear T2' hb2' b4
  go_wp2_with fail
  refine (white_eq w4 _ 0 0 0 k 0 0 _ g true c0 c1 (Txt.none_ _ _ _ _) (by omega) (by omega) (by rw [Nat.zero_sub]; rfl)).mono ?_
  rintro e w5 ⟨rfl, ne, rfl⟩
  clear c0 c1
  have T5 := T4.drewN ne
  have hb5 : Below w'.heap.size w' (w4.drewN ne) := below_drewN hb4 ne
  have hs5 : w'.heap.size < (w4.drewN ne).heap.size := by show _ < w4.heap.size; omega
  generalize w4.drewN ne = w6 at *
  clear T4 hb4
  go_wp2_with fail
  have HT5 := hide T5
  refine (blank_eq w6 _ n n (n + k) w'.heap.size 0 g true T5 hn hk (unhide HR)).mono ?_
  rintro e w7 ⟨rfl, hw7⟩
  subst hw7
  by_cases hle : n + k ≤ n
  · have p2 : (n : Int) + (k : Int) ≤ (n : Int) := by omega
    go_wp2_with fail
    refine (new_any _ _ _ _ _ _ _).mono ?_
    rintro e w8 ⟨rfl, c0, c1, hz8, b8⟩
    have T8 := (unhide HT5).below b8
    have hb8 : Below w'.heap.size w' w8 := hb5.trans (b8.mono (by omega))
    clear T5 HT5 hb5 b8
    go_wp2_with fail
    refine (white_eq w8 _ n n (n + k) 0 w'.heap.size 0 _ g true c0 c1 T8 hn (by omega) (by rw [Nat.add_zero]; exact unhide HR)).mono ?_
    rintro e w9 ⟨rfl, nf, rfl⟩
    have hb9 : Below w'.heap.size w' (w8.drewN nf) := below_drewN hb8 nf
    go_wp2_with fail
    go_ret
    exact ⟨by simp, hb9⟩
  · have p2 : ¬ (n : Int) + (k : Int) ≤ (n : Int) := by omega
    go_wp2_with fail
    go_ret
    exact ⟨by simp, hb5⟩

set_option maxHeartbeats 1000000 in
theorem hang_nil (k : Nat) (w : World) (hk : k ≤ 9223372036854775807) :
    Calls Trym.prog 5 #[.slice none 0 0, .int .i64 0, .int .i64 k] w fun e w' => e = .returned (.bool true) ∧ Below w.heap.size w w' := by
  have hB : decide (0 ≤ 1048576) = true := rfl
  have g : Nat → Int := fun _ => 0
  have HR : ∀ i : Nat, wl g i (0 - i) = true := fun i => by rw [Nat.zero_sub]; rfl
  go_enter Trym.func5, Trym.ntmps5
  go_wp2_with fail
  refine (bytes17 _ _ _ _ _ _ (by omega)).mono ?_
  rintro e w' ⟨rfl, hw'⟩
  subst hw'
  rw [hB]
  clear hB
  go_wp2_with fail
  refine (clone_nil _ _ _).mono ?_
  rintro e w1 ⟨rfl, hw1⟩
  subst hw1
  go_wp2_with fail
  refine (new_any _ _ _ _ _ _ _).mono ?_
  rintro e w2 ⟨rfl, c0, c1, hz2, b2⟩
  go_wp2_with fail
  refine (white_eq w2 _ 0 0 0 k 0 0 _ g true c0 c1 (Txt.none_ _ _ _ _) (by omega) (by omega) (HR _)).mono ?_
  rintro e w3 ⟨rfl, nd, rfl⟩
  have hb2' : Below w1.heap.size w1 (w2.drewN nd) := below_drewN b2 nd
  have hs2 : w1.heap.size < (w2.drewN nd).heap.size := by show _ < w2.heap.size; omega
  generalize w2.drewN nd = w3 at *
  clear c0 c1 b2
  go_wp2_with fail
  refine (new_any _ _ _ _ _ _ _).mono ?_
  rintro e w4 ⟨rfl, c0, c1, hz4, b4⟩
  have hb4 : Below w1.heap.size w1 w4 := hb2'.trans (b4.mono (by omega))
  clear hb2' b4
  go_wp2_with fail
  refine (white_eq w4 _ 0 0 0 k 0 0 _ g true c0 c1 (Txt.none_ _ _ _ _) (by omega) (by omega) (HR _)).mono ?_
  rintro e w5 ⟨rfl, ne, rfl⟩
  have hb5 : Below w1.heap.size w1 (w4.drewN ne) := below_drewN hb4 ne
  have hs5 : w1.heap.size < (w4.drewN ne).heap.size := by show _ < w4.heap.size; omega
  generalize w4.drewN ne = w6 at *
  clear c0 c1 hb4
  go_wp2_with fail
  refine (blank_eq w6 _ 0 0 k 0 0 g true (Txt.none_ _ _ _ _) (by omega) hk (HR _)).mono ?_
  rintro e w7 ⟨rfl, hw7⟩
  subst hw7
  by_cases hle : k = 0
  · subst hle
    go_wp2_with fail
    refine (new_any _ _ _ _ _ _ _).mono ?_
    rintro e w8 ⟨rfl, c0, c1, hz8, b8⟩
    have hb8 : Below w1.heap.size w1 w8 := hb5.trans (b8.mono (by omega))
    clear hb5 b8
    go_wp2_with fail
    refine (white_eq w8 _ 0 0 0 0 0 0 _ g true c0 c1 (Txt.none_ _ _ _ _) (by omega) (by omega) (HR _)).mono ?_
    rintro e w9 ⟨rfl, nf, rfl⟩
    have hb9 : Below w1.heap.size w1 (w8.drewN nf) := below_drewN hb8 nf
    go_wp2_with fail
    go_ret
    exact ⟨by simp, hb9⟩
  · have p2 : ¬ (k : Int) ≤ 0 := by omega
    go_wp2_with fail
    go_ret
    exact ⟨by simp, hb5⟩

end Go.Proofs.Qxb6616131aMods.Scan
