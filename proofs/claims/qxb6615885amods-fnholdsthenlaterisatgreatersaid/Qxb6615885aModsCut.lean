import Derived.Test.Qxb6615885aModsPlain
import Derived.Deep.Cut
import Derived.WalkSmall
namespace Go.Proofs.Qxb6615885aMods.Win
open Go.ChangeShapes Go.WideShapes Go.ChangeAt Go.RowKit
open Tm

/-- 'zzc := make([]int64, len(xs)); copy(zzc, xs)': the copy, right behind the make. -/
theorem copy_all {ops : Array Oper} {rest : List Oper} {o : Oper} {a : Act} {Q : Exit → Act → World → Prop} {W : World} (hgd : o.guard = none) (d s : Operand) (ho : o.op = .call { callee := .builtin .copy, args := #[d, s], argTypes := #[22, 22] })
    (x : Addr) (n cap : Nat) (hd : a.eval d = .slice (some ⟨W.heap.size, 0, none⟩) n n) (hs : a.eval s = .slice (some x) n cap) (zs : List Int) (hl : n ≤ zs.length) (hsrc : ∀ i, i < n → W.cell? (x.add i) = some (.int .i64 (zs.getD i 0)))
    (h : ∀ w', (∀ i, i < n → w'.cell? ⟨W.heap.size, i, none⟩ = some (.int .i64 (zs.getD i 0))) → W.heap.size < w'.heap.size → Below W.heap.size W w' → wpList Trym.prog ops Q rest (a.put o.dst (goInt n)) w') :
    wpList Trym.prog ops Q (o :: rest) a (W.alloc (.cells (madeCells #[.int .i64 0] n) 2)) := by
  have hlen : ((zs.take n).map (Value.int .i64)).length = n := by simp [hl]
  refine wpList_copy_splice hgd d s 22 22 ho 2 Trym.underlying22 size2 _ _ _ _ _ _ hd hs W.heap.size 0 (madeCells #[.int .i64 0] n).toList 2 (by rw [heap_alloc_new]) ((zs.take n).map (Value.int .i64)) (by rw [hlen]; exact (Nat.min_self n).symm) (fun _ => ⟨rfl, x, rfl, fun j v hj => ?_⟩) (by rw [hlen]; simp [size_madeCells]) (ints_oneCell _ _) W.heap.size W ((Below.refl _ _).alloc (Nat.le_refl _) _) (Nat.le_refl _) (fun w' h1 h2 => ?_)
  · have hjn : j < n := by
      have := (List.getElem?_eq_some_iff.1 hj).1
      omega
    have hz : j < zs.length := by omega
    have hc := hsrc j hjn
    rw [World.cell?_alloc_lt _ _ _ (World.block_lt_of_cell? _ _ hc), hc]
    simpa [hjn, List.getD, List.getElem?_eq_getElem hz] using hj
  · rw [hlen]
    exact h w' (copied hl h1) (lt_copied h1) h2

/-- The two copied slices, wherever the walk stands. -/
structure Src (n bU bH : Nat) (us hs : List Int) (w : World) : Prop where
  cu : ∀ i, i < n → w.cell? ⟨bU, i, none⟩ = some (.int .i64 (us.getD i 0))
  ch : ∀ i, i < n → w.cell? ⟨bH, i, none⟩ = some (.int .i64 (hs.getD i 0))
  lu : bU < w.heap.size
  lh : bH < w.heap.size

theorem Src.cu0 {n bU bH : Nat} {us hs : List Int} {w : World} (S : Src n bU bH us hs w) : ∀ i, i < n → w.cell? ⟨bU, 0 + i, none⟩ = some (.int .i64 (us.getD i 0)) := fun i hi => by rw [Nat.zero_add]; exact S.cu i hi
theorem Src.ch0 {n bU bH : Nat} {us hs : List Int} {w : World} (S : Src n bU bH us hs w) : ∀ i, i < n → w.cell? ⟨bH, 0 + i, none⟩ = some (.int .i64 (hs.getD i 0)) := fun i hi => by rw [Nat.zero_add]; exact S.ch i hi
theorem Src.cuc {n bU bH c : Nat} {us hs : List Int} {w : World} (S : Src n bU bH us hs w) : ∀ i, i < n - c → w.cell? ⟨bU, c + i, none⟩ = some (.int .i64 ((us.drop c).getD i 0)) := fun i hi => by rw [getD_drop]; exact S.cu (c + i) (by omega)
theorem Src.chc {n bU bH c : Nat} {us hs : List Int} {w : World} (S : Src n bU bH us hs w) : ∀ i, i < n - c → w.cell? ⟨bH, c + i, none⟩ = some (.int .i64 ((hs.drop c).getD i 0)) := fun i hi => by rw [getD_drop]; exact S.ch (c + i) (by omega)
theorem Src.drew {n bU bH : Nat} {us hs : List Int} {w : World} (S : Src n bU bH us hs w) : Src n bU bH us hs w.drew := ⟨S.cu, S.ch, S.lu, S.lh⟩
theorem Src.drewN {n bU bH : Nat} {us hs : List Int} {w : World} (S : Src n bU bH us hs w) (k : Nat) : Src n bU bH us hs (w.drewN k) := ⟨S.cu, S.ch, S.lu, S.lh⟩
theorem Src.below {n bU bH : Nat} {us hs : List Int} {w w' : World} (S : Src n bU bH us hs w) (b : Below w.heap.size w w') : Src n bU bH us hs w' :=
  ⟨fun i hi => (b.cell (p := ⟨bU, i, none⟩) S.lu).trans (S.cu i hi), fun i hi => (b.cell (p := ⟨bH, i, none⟩) S.lh).trans (S.ch i hi), Nat.lt_of_lt_of_le S.lu b.size, Nat.lt_of_lt_of_le S.lh b.size⟩
theorem Src.apart {n bU bH lo hi : Nat} {us hs : List Int} {w w' : World} (S : Src n bU bH us hs w) (b : Apart lo hi w w') (h1 : bU < lo) (h2 : bH < lo) : Src n bU bH us hs w' :=
  ⟨fun i hi => (b.cell (p := ⟨bU, i, none⟩) S.lu (Or.inl h1)).trans (S.cu i hi), fun i hi => (b.cell (p := ⟨bH, i, none⟩) S.lh (Or.inl h2)).trans (S.ch i hi), Nat.lt_of_lt_of_le S.lu b.size, Nat.lt_of_lt_of_le S.lh b.size⟩
theorem Bld.below {B n : Nat} {w w' : World} {us hs : List Int} (h : Bld B w w' us hs n) : Below B w w' := by
  obtain ⟨_, _, _, _, _, _, _, _, _, hb⟩ := h
  exact hb

set_option maxRecDepth 100000 in
set_option maxHeartbeats 2000000 in
theorem cut_lt (x0 x1 : Addr) (n cap0 cap1 c : Nat) (z0 z1 : List Int) (t : Int) (w : World) (hn : n ≤ 65536) (hlt : c < n) (l0 : n ≤ z0.length) (l1 : n ≤ z1.length)
    (h0 : ∀ i, i < n → w.cell? (x0.add i) = some (.int .i64 (z0.getD i 0))) (h1 : ∀ i, i < n → w.cell? (x1.add i) = some (.int .i64 (z1.getD i 0)))
    (f0 : Fits z0) (f1 : Fits z1) (t0 : -9223372036854775808 ≤ t) (t1 : t ≤ 9223372036854775807) :
    Calls Trym.prog 3 #[.slice (some x0) n cap0, .slice (some x1) n cap1, .int .i64 c, .int .i64 t] w fun e w' => e = .returned (.bool true) ∧ Below w.heap.size w w' := by
  have hc : c ≤ n := Nat.le_of_lt hlt
  have hB : decide (n + n ≤ 1048576) = true := decide_eq_true (by omega)
  have hnil := fun (w : World) (x : Addr) (k : Nat) => run_neq_slice_nil_any (P := Trym.prog) w 22 2 (some x) n k 0 0 Trym.underlying22
  have hmk := fun (w : World) => run_make_row' (P := Trym.prog) 22 2 (.int .i64 0) 8 Trym.underlying22 info2 rfl .i64 .i64 n (by omega) (by omega) w
  have H0 := hide h0
  have H1 := hide h1
  clear h0 h1
  go_enter Trym.func3, Trym.ntmps3
  go_wp2_with fail
  refine (bytes_any _ _ _ _ _ _ _ _ _ (by omega) (by omega)).mono ?_
  rintro e w' ⟨rfl, hw'⟩
  subst hw'
  rw [hB]
  clear hB
  go_upto_region 13 with fail
  go_upto_region 14 with (refine copy_all rfl (.tmp 53) (.tmp 54) rfl x0 n cap0 rfl rfl z0 l0 (unhide H0) ?_; intro w1 cu hz1 b1)
  go_upto_region 17 with fail
  go_upto_region 18 with (refine copy_all rfl (.tmp 62) (.tmp 63) rfl x1 n cap1 rfl rfl z1 l1 (fun i hi => (b1.cell (World.block_lt_of_cell? _ _ (unhide H1 i hi))).trans (unhide H1 i hi)) ?_; intro w2 ch hz2 b2)
  go_wp2_with fail
  have S2 : Src n w'.heap.size w1.heap.size z0 z1 w2 := ⟨fun i hi => (b2.cell (p := ⟨w'.heap.size, i, none⟩) hz1).trans (cu i hi), ch, by omega, hz2⟩
  have hbl2 : Below w'.heap.size w' w2 := b1.trans (b2.mono (by omega))
  have hsz2 : w'.heap.size < w2.heap.size := by omega
  have S2lu := S2.lu
  have S2lh := S2.lh
  generalize w1.heap.size = bH at *
  clear cu ch hz1 hz2 b1 b2 H0 H1 hmk hnil
  refine (window_any w'.heap.size 0 bH 0 n n n z0 z1 _ hn S2.lu S2.lh (S2.cu0) (S2.ch0) f0 f1).mono ?_
  rintro e w3 ⟨rfl, bl3⟩
  have hd3 := bl3.held
  have be3 := bl3.below
  have S3 := S2.below be3
  have hbl3 : Below w'.heap.size w' w3 := hbl2.trans (be3.mono (by omega))
  clear bl3 S2 hbl2
  have lt3 : w2.heap.size < w3.heap.size := by obtain ⟨_, _, _, _, X⟩ := hd3; exact X.hB
  have hc0 : (0 : Int) ≤ (c : Int) := Int.natCast_nonneg _
  have hc1 : (c : Int) ≤ (n : Int) := by omega
  go_wp2_with fail
  go_region_with (first | (go_at_call 8; refine (window_any w'.heap.size 0 bH 0 c n n z0 z1 w3.drew (by omega) S3.drew.lu S3.drew.lh (fun i hi => S3.drew.cu0 i (Nat.lt_of_lt_of_le hi hc)) (fun i hi => S3.drew.ch0 i (Nat.lt_of_lt_of_le hi hc)) f0 f1).mono ?_; rintro e w4 ⟨rfl, bl4⟩))
  rw [World.size_drew] at bl4
  have hd4 := bl4.held
  have be4 : Below w3.heap.size w3 w4 := (Below.refl _ _).drew.trans bl4.below
  have S4 := S3.below be4
  have hd3' := hd3.below be4
  have hbl4 : Below w'.heap.size w' w4 := hbl3.trans (be4.mono (by omega))
  have lt4 : w3.heap.size < w4.heap.size := by obtain ⟨_, _, _, _, X⟩ := hd4; exact X.hB
  clear bl4 S3 hbl3 hd3 be3 be4
  have hne : ¬ n = c := by omega
  go_wp2_with fail
  go_region_with (first | (go_at_call 8; refine (window_any w'.heap.size c bH c (n - c) (n - c) (n - c) (z0.drop c) (z1.drop c) w4.drew (by omega) S4.drew.lu S4.drew.lh S4.drew.cuc S4.drew.chc (fits_drop f0 c) (fits_drop f1 c)).mono ?_; rintro e w5 ⟨rfl, bl5⟩))
  rw [World.size_drew] at bl5
  have hd5 := bl5.held
  have be5 : Below w4.heap.size w4 w5 := (Below.refl _ _).drew.trans bl5.below
  have S5 := S4.below be5
  have hw5 := hd3'.below be5
  have hf5 := hd4.below be5
  have hbl5 : Below w'.heap.size w' w5 := hbl4.trans (be5.mono (by omega))
  have lt5 : w4.heap.size < w5.heap.size := by obtain ⟨_, _, _, _, X⟩ := hd5; exact X.hB
  have lu := S2lu
  have lh := S2lh
  have hlaw := cut_law z0 z1 t n c hc
  have hkb : skip (z0.drop c) (z1.drop c) t 0 (n - c) = skip z0 z1 t c (n - c) := by rw [skip_drop, Nat.add_zero]
  rw [← hkb] at hlaw
  have hk := skip_le z0 z1 t n 0
  have hkf := skip_le z0 z1 t c 0
  have hkb' := skip_le (z0.drop c) (z1.drop c) t (n - c) 0
  have HL := hide hlaw
  clear bl5 S4 hbl4 hd3' hd4 be5 hlaw hkb
  go_wp2_with fail
  refine (zzholds_any w2.heap.size w3.heap.size w2.heap.size 0 n z0 z1 t w5 hw5 hn t0 t1).mono ?_
  rintro e w6 ⟨rfl, hw6, ap6⟩
  have S6 := S5.apart ap6 lu lh
  have hf6 := hf5.apart ap6 (Or.inr (Nat.le_refl _))
  have hb6 := hd5.apart ap6 (Or.inr (by omega))
  have hbl6 : Below w'.heap.size w' w6 := hbl5.trans (ap6.toBelow (by omega) (by omega))
  have sz6 := ap6.size
  clear hw5 ap6 S5 hf5 hd5 hbl5
  go_wp2_with fail
  refine (zzholds_any w3.heap.size w4.heap.size w3.heap.size 0 c z0 z1 t w6 hf6 (by omega) t0 t1).mono ?_
  rintro e w7 ⟨rfl, hf7, ap7⟩
  have S7 := S6.apart ap7 (by omega) (by omega)
  have hw7 := hw6.apart ap7 (Or.inl (Nat.le_refl _))
  have hb7 := hb6.apart ap7 (Or.inr (Nat.le_refl _))
  have hbl7 : Below w'.heap.size w' w7 := hbl6.trans (ap7.toBelow (by omega) (by omega))
  have sz7 := ap7.size
  clear hf6 ap7 S6 hw6 hb6 hbl6
  go_wp2_with fail
  refine (zzholds_any w4.heap.size w5.heap.size w4.heap.size 0 (n - c) (z0.drop c) (z1.drop c) t w7 hb7 (by omega) t0 t1).mono ?_
  rintro e w8 ⟨rfl, hb8, ap8⟩
  have S8 := S7.apart ap8 (by omega) (by omega)
  have hw8 := hw7.apart ap8 (Or.inl (by omega))
  have hf8 := hf7.apart ap8 (Or.inl (Nat.le_refl _))
  have hbl8 : Below w'.heap.size w' w8 := hbl7.trans (ap8.toBelow (by omega) (by omega))
  have sz8 := ap8.size
  clear hb7 ap8 S7 hw7 hf7 hbl7
  go_wp2_with fail
  refine (len_any _ _ _ _ _ _ _ _ hw8).mono ?_
  rintro e w9 ⟨rfl, rfl⟩
  go_wp2_with fail
  refine (len_any _ _ _ _ _ _ _ _ hf8).mono ?_
  rintro e w10 ⟨rfl, rfl⟩
  go_wp2_with fail
  refine (len_any _ _ _ _ _ _ _ _ hb8).mono ?_
  rintro e w11 ⟨rfl, rfl⟩
  clear hf8 hb8
  go_wp2_with fail
  refine (first_any w'.heap.size bH n n n z0 z1 t _ hn S8.cu S8.ch).mono ?_
  rintro e w12 ⟨rfl, nd, rfl⟩
  rw [Nat.zero_add] at hw8
  generalize skip z0 z1 t 0 n = k at *
  generalize skip z0 z1 t 0 c = kf at *
  generalize skip (z0.drop c) (z1.drop c) t 0 (n - c) = kb at *
  have hwN : Held w2.heap.size w3.heap.size w2.heap.size z0 z1 k (n - k) (w11.drewN nd) := hw8.below (below_drewN (Below.refl _ _) nd)
  have hblN : Below w'.heap.size w' (w11.drewN nd) := below_drewN hbl8 nd
  have SN := S8.drewN nd
  clear hw8 hbl8 S8
  have hne0 : (((n - k : Nat) : Int) != (n : Int) - (k : Int)) = false := by
    rw [show ((n - k : Nat) : Int) = (n : Int) - (k : Int) by omega]; simp
  go_wp2_with fail
  go_loopw [22] (fun i wr => ∃ q : Nat, q ≤ n - k ∧ i = .int .i64 q ∧ Held w2.heap.size w3.heap.size w2.heap.size z0 z1 k (n - k) wr ∧ Src n w'.heap.size bH z0 z1 wr ∧ Below w'.heap.size w' wr) (fun i _ => n - k - (intOf i).toNat)
  case atStart => exact ⟨0, Nat.zero_le _, rfl, hwN, SN, hblN⟩
  case round =>
    clear hwN SN hblN
    obtain ⟨q, hq, rfl, hwr, SR, hbr⟩ := hrel
    by_cases hqn : q < n - k
    · have hcell : wr.cell? ⟨w'.heap.size, ((k : Int) + (q : Int)).toNat, none⟩ = some (.int .i64 (z0.getD (k + q) 0)) := by
        rw [show ((k : Int) + (q : Int)).toNat = k + q by omega]
        exact SR.cu (k + q) (by omega)
      have hlur := SR.lu
      have hq0 : (0 : Int) ≤ (k : Int) + (q : Int) := by omega
      have hq1 : (k : Int) + (q : Int) < (n : Int) := by omega
      have hun := fun x h => until_any w2.heap.size w3.heap.size w2.heap.size k (n - k) q z0 z1 x h hqn (by omega) f0
      have hwrap : IntKind.i64.wrap ((k : Int) + (q : Int)) = (k : Int) + (q : Int) := by rw [IntKind.wrap_i64]; omega
      have HU := hide hun
      clear hun
      generalize z0.getD (k + q) 0 = u at *
      go_wp2_with fail
      go_region_held3 (fun x => x.cell? ⟨w'.heap.size, ((k : Int) + (q : Int)).toNat, none⟩ = some (.int .i64 u))
        (first
          | (go_keep; done)
          | (refine (b9.cell ?_).trans hcell; exact hlur))
        ((go_at_call 12; refine (unhide HU _ (hwr.below (Below.refl _ _).drew)).mono ?_; rintro e x9 ⟨rfl, b9⟩))
      have hwr9 : Held w2.heap.size w3.heap.size w2.heap.size z0 z1 k (n - k) x9 := (hwr.below (Below.refl _ _).drew).below b9
      have SR9 := SR.drew.below b9
      have hbr9 : Below w'.heap.size w' x9 := hbr.drew.trans (b9.mono (by show w'.heap.size ≤ wr.heap.size; omega))
      clear hwr SR hbr b9 HU
      go_wp2
      go_roundw
      case rel => first | exact ⟨q + 1, by omega, by go_num, hwr9, SR9, hbr9⟩ | ((repeat apply Exists.intro); exact ⟨⟨q + 1, by omega, by go_num, hwr9, SR9, hbr9⟩, rfl⟩)
      case measure => simp [intOf]; omega
    · have hlw := unhide HL
      by_cases k1 : kf < c
      · rw [if_pos k1] at hlw
        subst hlw
        have hkn : k < n := by omega
        go_wp2
        go_ret
        exact ⟨rfl, hbr⟩
      · rw [if_neg k1] at hlw
        subst hlw
        by_cases k2 : kb < n - c
        · have hkn : c + kb < n := by omega
          go_wp2
          go_ret
          exact ⟨rfl, hbr⟩
        · have hkn : ¬ c + kb < n := by omega
          go_wp2
          go_ret
          exact ⟨rfl, hbr⟩

end Go.Proofs.Qxb6615885aMods.Win
