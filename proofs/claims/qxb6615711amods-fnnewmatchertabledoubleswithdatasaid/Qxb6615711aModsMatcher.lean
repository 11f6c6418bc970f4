import Derived.Test.Qxb6615711aModsRows
import Derived.WalkKit
import Derived.ProofKit
import Derived.OpenShut
import Derived.BigQuiet
import Derived.Deep.QuietTactic
import Derived.Deep.OwnRows
import Derived.Lib.BitFns
import Derived.Lib.Small
import Derived.Lib.Walk
namespace Go.Proofs.Qxb6615711aMods.Matcher
open Go.ChangeShapes Go.WideShapes Go.ChangeAt Go.RowKit

theorem ret_int {k : IntKind} {a b : Int} (h : a = b) : Ending.returned (.int k a) = .returned (.int k b) := by rw [h]

theorem tab (b : Int) (h0 : 0 ≤ b) (h1 : b ≤ 255) (h : b.toNat < Lib.len8tab.size) : ((Lib.len8tab[b.toNat]'h).toNat : Int) = Lib.bitLen b.toNat := by
  rw [← Lib.len8_of b h0 h1]
  unfold Lib.len8
  rw [getElem?_pos Lib.len8tab b.toNat h]
  rfl

/-- One way of the walk: 'k' bits are above the byte that is looked up. -/
theorem way (x b : Int) (k : Nat) (hk : k ≤ 56) (hx : x.toNat < 2 ^ 64) (h0 : 0 ≤ b) (h1 : b ≤ 255) (hb : b = x / (2 ^ k : Nat)) (hp : k = 0 ∨ 2 ^ k ≤ x.toNat) (hx0 : 0 ≤ x) (h : b.toNat < Lib.len8tab.size) :
    wrap64 ((k : Int) + wrap64 ((Lib.len8tab[b.toNat]'h).toNat : Int)) = Lib.bitLen x.toNat := by
  rw [tab b h0 h1 h]
  have l := Lib.bitLen_le8' b h0 h1
  rw [IntWalk.wrap64_in (Lib.bitLen b.toNat : Int) ⟨by omega, by omega⟩, IntWalk.wrap64_in _ ⟨by omega, by omega⟩]
  have e : b.toNat = x.toNat / 2 ^ k := by
    rw [hb]
    have : (x / ((2 ^ k : Nat) : Int)) = ((x.toNat / 2 ^ k : Nat) : Int) := by
      rw [Int.natCast_ediv]
      congr 1
      omega
    rw [this]; rfl
  rw [e]
  rcases hp with rfl | hp
  · simp
  · have := Lib.bitLen_shift k x.toNat hp hx
    omega

set_option maxHeartbeats 1000000 in
set_option maxRecDepth 100000 in
theorem len64_any (x : Int) (w : World) (h0 : 0 ≤ x) (h1 : x ≤ 18446744073709551615) :
    Calls Trym.prog 21 #[.int .u64 x] w fun e w' => e = .returned (.int .i64 (Lib.bitLen x.toNat)) ∧ w' = w := by
  have hz := Lib.len8tab_size
  go_enter Trym.func21, Trym.ntmps21
  go_wp2
  all_goals go_ret
  all_goals refine ⟨ret_int ?_, rfl⟩
  · exact way x _ 56 (by omega) (by omega) (by omega) (by omega) (by omega) (Or.inr (by omega)) h0 _
  · exact way x _ 48 (by omega) (by omega) (by omega) (by omega) (by omega) (Or.inr (by omega)) h0 _
  · exact way x _ 40 (by omega) (by omega) (by omega) (by omega) (by omega) (Or.inr (by omega)) h0 _
  · exact way x _ 32 (by omega) (by omega) (by omega) (by omega) (by omega) (Or.inr (by omega)) h0 _
  · exact way x _ 24 (by omega) (by omega) (by omega) (by omega) (by omega) (Or.inr (by omega)) h0 _
  · exact way x _ 16 (by omega) (by omega) (by omega) (by omega) (by omega) (Or.inr (by omega)) h0 _
  · exact way x _ 8 (by omega) (by omega) (by omega) (by omega) (by omega) (Or.inr (by omega)) h0 _
  · have := way x x 0 (by omega) (by omega) (by omega) (by omega) (by simp) (Or.inl rfl) h0 (by rw [hz]; omega)
    rw [← this]
    simp

theorem len_any (x : Int) (w : World) (h0 : 0 ≤ x) (h1 : x ≤ 18446744073709551615) :
    Calls Trym.prog 19 #[.int .u64 x] w fun e w' => e = .returned (.int .i64 (Lib.bitLen x.toNat)) ∧ w' = w := by
  go_enter Trym.func19, Trym.ntmps19
  go_wp2_with fail
  refine (len64_any _ _ h0 h1).mono ?_
  rintro e w' ⟨rfl, rfl⟩
  go_wp2_with fail
  go_ret
  exact ⟨rfl, rfl⟩

/-- The exponent of a table's size; the size. -/
def texp (s m : Nat) : Nat := min (max (Lib.bitLen s + 1) 12) m
def tsz (s m : Nat) : Nat := 2 ^ texp s m

theorem texp_bd (s m : Nat) (h0 : 12 ≤ m) : 12 ≤ texp s m ∧ texp s m ≤ m := by unfold texp; omega

theorem pow_le (a b : Nat) (h : a ≤ b) : 2 ^ a ≤ 2 ^ b := Nat.pow_le_pow_right (by decide) h
theorem pow_lt (a b : Nat) (h : a < b) : 2 ^ a < 2 ^ b := Nat.pow_lt_pow_right (by decide) h

theorem tsz_bd (s m : Nat) (h0 : 12 ≤ m) (h1 : m ≤ 16) : 4096 ≤ tsz s m ∧ tsz s m ≤ 65536 := by
  have := texp_bd s m h0
  have h2 := pow_le 12 (texp s m) (by omega)
  have h3 := pow_le (texp s m) 16 (by omega)
  unfold tsz
  omega

theorem pow_form (n : Nat) (m : Int) (hm0 : 12 ≤ m) (hm1 : m ≤ 16) (hn : n ≤ 64) : wrap64 (2 ^ (min (max ((n : Int) + 1) 12) m).toNat) = ((2 ^ (min (max (n + 1) 12) m.toNat) : Nat) : Int) := by
  have e : (min (max ((n : Int) + 1) 12) m).toNat = min (max (n + 1) 12) m.toNat := by omega
  rw [e]
  have h3 := pow_le (min (max (n + 1) 12) m.toNat) 16 (by omega)
  have e2 : (2 : Int) ^ (min (max (n + 1) 12) m.toNat) = ((2 ^ (min (max (n + 1) 12) m.toNat) : Nat) : Int) := by simp
  rw [e2]
  generalize 2 ^ (min (max (n + 1) 12) m.toNat) = P at h3
  exact IntWalk.wrap64_in _ ⟨by omega, by omega⟩

theorem size_any (s m : Int) (w : World) (h0 : 0 ≤ s) (h1 : s ≤ 9223372036854775807) (hm0 : 12 ≤ m) (hm1 : m ≤ 16) :
    Calls Trym.prog 18 #[.int .i64 s, .int .i64 m] w fun e w' => e = .returned (.int .i64 (tsz s.toNat m.toNat)) ∧ w' = w := by
  have hb := Lib.bitLen_le s.toNat 64 (by omega) (by omega)
  go_enter Trym.func18, Trym.ntmps18
  go_wp2_with fail
  refine (len_any _ _ (by omega) (by omega)).mono ?_
  rintro e w' ⟨rfl, rfl⟩
  go_wp2_with fail
  go_ret
  exact ⟨ret_int (pow_form _ m hm0 hm1 hb), rfl⟩

theorem fields_any (B T N : Nat) (mask least : Int) (w : World) (c0 : w.cell? ⟨B, 0, none⟩ = some (.slice none 0 0)) (c1 : w.cell? ⟨B, 1, none⟩ = some (.slice (some ⟨T, 0, none⟩) N N))
    (c2 : w.cell? ⟨B, 2, none⟩ = some (.int .u64 mask)) (c3 : w.cell? ⟨B, 3, none⟩ = some (.int .i64 least)) (c4 : w.cell? ⟨B, 4, none⟩ = some (.int .i64 0)) (c5 : w.cell? ⟨B, 5, none⟩ = some (.int .i64 0)) 
    (c6 : w.cell? ⟨B, 6, none⟩ = some (.int .i64 0)) (c7 : w.cell? ⟨B, 7, none⟩ = some (.int .i64 0)) (c8 : w.cell? ⟨B, 8, none⟩ = some (.int .i64 0)) : 
    Calls Trym.prog 15 #[.pointer (some ⟨B, 0, none⟩)] w fun e w' => e = .returned (.tuple #[.slice none 0 0, .slice (some ⟨T, 0, none⟩) N N, .int .u64 mask, .int .i64 least, .int .i64 0, .int .i64 0, .int .i64 0, .int .i64 0, .int .i64 0]) ∧ ∃ n, w' = w.drewN n := by
  go_enter Trym.func15, Trym.ntmps15
  go_wp2
  go_quiet (fail)
  go_wp2
  exact bodyPost_ret (v := .tuple #[.slice none 0 0, .slice (some ⟨T, 0, none⟩) N N, .int .u64 mask, .int .i64 least, .int .i64 0, .int .i64 0, .int .i64 0, .int .i64 0, .int .i64 0]) (by simp [results, Trym.results15, go_sem]) rfl ⟨rfl, _, rfl⟩


/-- A matcher that has met nothing, at block B, its table of N zero entries at block T. -/
structure Fresh (w : World) (B T N : Nat) (least : Int) : Prop where
  c0 : w.cell? ⟨B, 0, none⟩ = some (.slice none 0 0)
  c1 : w.cell? ⟨B, 1, none⟩ = some (.slice (some ⟨T, 0, none⟩) N N)
  c2 : w.cell? ⟨B, 2, none⟩ = some (.int .u64 ((N : Int) - 1))
  c3 : w.cell? ⟨B, 3, none⟩ = some (.int .i64 least)
  c4 : w.cell? ⟨B, 4, none⟩ = some (.int .i64 0)
  c5 : w.cell? ⟨B, 5, none⟩ = some (.int .i64 0)
  c6 : w.cell? ⟨B, 6, none⟩ = some (.int .i64 0)
  c7 : w.cell? ⟨B, 7, none⟩ = some (.int .i64 0)
  c8 : w.cell? ⟨B, 8, none⟩ = some (.int .i64 0)
  row : ∀ i, i < N → w.cell? ⟨T, i, none⟩ = some (.int .i32 0)

theorem Fresh.later {w w' : World} {B T N : Nat} {least : Int} (h : Fresh w B T N least) (hb : Below w.heap.size w w') (hB : B < w.heap.size) (hT : T < w.heap.size) : Fresh w' B T N least :=
  ⟨(hb.cell (p := ⟨B, 0, none⟩) hB).trans h.c0, (hb.cell (p := ⟨B, 1, none⟩) hB).trans h.c1, (hb.cell (p := ⟨B, 2, none⟩) hB).trans h.c2, (hb.cell (p := ⟨B, 3, none⟩) hB).trans h.c3, (hb.cell (p := ⟨B, 4, none⟩) hB).trans h.c4,
   (hb.cell (p := ⟨B, 5, none⟩) hB).trans h.c5, (hb.cell (p := ⟨B, 6, none⟩) hB).trans h.c6, (hb.cell (p := ⟨B, 7, none⟩) hB).trans h.c7, (hb.cell (p := ⟨B, 8, none⟩) hB).trans h.c8, fun i hi => (hb.cell (p := ⟨T, i, none⟩) hT).trans (h.row i hi)⟩

theorem Fresh.drewN {w : World} {B T N : Nat} {least : Int} (h : Fresh w B T N least) (n : Nat) : Fresh (w.drewN n) B T N least := ⟨h.c0, h.c1, h.c2, h.c3, h.c4, h.c5, h.c6, h.c7, h.c8, h.row⟩

theorem info21 : (Trym.prog.info? 21).map (fun i => (i.zero, i.size, i.bytes)) = some (some (.int .i32 0), 1, 4) := by kernel_rfl

theorem Grown.trans {a b c : World} (h : Grown a b) (k : Grown b c) : Grown a c := by
  obtain ⟨⟨h1, h2, h3⟩, hf, hs⟩ := h
  obtain ⟨⟨k1, k2, k3⟩, kf, ks⟩ := k
  exact ⟨World.keptBut_trans ⟨h1, h2, h3⟩ ⟨k1, k2, k3⟩, fun x => (kf x).trans (hf x), by omega⟩

theorem fresh_two (w : World) (N : Nat) (l : Int) (t : TypeId) : Fresh ((w.alloc (.cells (madeCells #[.int .i32 0] N) 21)).alloc (.cells #[.slice none 0 0, .slice (some ⟨w.heap.size, 0, none⟩) N N, .int .u64 ((N : Int) - 1), .int .i64 l, .int .i64 0, .int .i64 0, .int .i64 0, .int .i64 0, .int .i64 0] t)) (w.heap.size + 1) w.heap.size N l := by
  refine ⟨by go_simp, by go_simp, by go_simp, by go_simp, by go_simp, by go_simp, by go_simp, by go_simp, by go_simp, fun i hi => ((World.rowIs_made w (.int .i32 0) N 21).alloc _).cell hi⟩

theorem new_any (s m l : Int) (w : World) (h0 : 0 ≤ s) (h1 : s ≤ 9223372036854775807) (hm0 : 12 ≤ m) (hm1 : m ≤ 16) :
    Calls Trym.prog 7 #[.int .i64 s, .int .i64 m, .int .i64 l] w fun e w' => e = .returned (.pointer (some ⟨w.heap.size + 1, 0, none⟩)) ∧ w'.heap.size = w.heap.size + 2 ∧ Fresh w' (w.heap.size + 1) w.heap.size (tsz s.toNat m.toNat) l ∧ Grown w w' ∧ Below w.heap.size w w' := by
  have hN := tsz_bd s.toNat m.toNat (by omega) (by omega)
  have hsz := fun w => size_any s m w h0 h1 hm0 hm1
  generalize tsz s.toNat m.toNat = N at hN hsz
  obtain ⟨n0, n1⟩ := hN
  have hmk := fun (w : World) => run_make_row' (P := Trym.prog) 38 21 (.int .i32 0) 4 Trym.underlying38 info21 rfl .i64 .i64 N (by omega) (by omega) w
  go_enter Trym.func7, Trym.ntmps7
  go_wp2_with (first | (go_at_call 18; refine (hsz _).mono ?_; rintro e w' ⟨rfl, rfl⟩) | (go_at_call 14; go_in))
  go_ret
  exact ⟨rfl, by simp, fresh_two _ _ _ _, ((Grown.refl _).alloc _ _).alloc _ _, ((Below.refl _ _).alloc (Nat.le_refl _) _).alloc (by simp) _⟩

theorem len_of (B T N : Nat) (least : Int) (w : World) (hf : Fresh w B T N least) :
    Calls Trym.prog 10 #[.pointer (some ⟨B, 0, none⟩)] w fun e w' => e = .returned (.int .i64 N) ∧ ∃ n, w' = w.drewN n := by
  go_enter Trym.func10, Trym.ntmps10
  go_wp2_with fail
  refine (fields_any B T N _ _ _ hf.c0 hf.c1 hf.c2 hf.c3 hf.c4 hf.c5 hf.c6 hf.c7 hf.c8).mono ?_
  rintro e w' ⟨rfl, n, rfl⟩
  go_wp2_with fail
  go_ret
  exact ⟨rfl, _, rfl⟩

theorem fresh_any (B T N : Nat) (least : Int) (w : World) (hf : Fresh w B T N least) (n0 : 4096 ≤ N) (n1 : N ≤ 65536) :
    Calls Trym.prog 8 #[.pointer (some ⟨B, 0, none⟩), .int .i64 N, .int .i64 least] w fun e w' => e = .returned (.bool true) ∧ ∃ n, w' = w.drewN n := by
  have hrow := hf.row
  go_enter Trym.func8, Trym.ntmps8
  go_wp2_with fail
  refine (fields_any B T N _ _ _ hf.c0 hf.c1 hf.c2 hf.c3 hf.c4 hf.c5 hf.c6 hf.c7 hf.c8).mono ?_
  rintro e w' ⟨rfl, n, rfl⟩
  clear hf
  go_wp2_with fail
  go_loop [16] (fun i => ∃ k : Nat, k ≤ N ∧ i = .int .i64 k) (fun i => N - (intOf i).toNat)
  case atStart => exact ⟨0, Nat.zero_le _, rfl⟩
  case round =>
    obtain ⟨k, hk, rfl⟩ := hrel
    by_cases hlt : k < N
    · have hcell := hrow k hlt
      clear hrow
      go_wp2
      go_round
      case rel => exact ⟨k + 1, by omega, by go_num⟩
      case measure => simp [intOf]; omega
    · go_wp2
      go_ret
      exact ⟨rfl, _, rfl⟩

/-- The loop of tableModel: P is a power of two on its way to the size. -/
def Pw (s m : Int) (P : Nat) : Prop := ∃ j, 12 ≤ j ∧ j ≤ texp s.toNat m.toNat ∧ P = 2 ^ j

theorem lt_bitLen_aux : ∀ (f x k : Nat), k < f → (2 ^ k ≤ x ↔ k < Lib.bitLenAux f x)
  | 0, x, k, h => absurd h (by omega)
  | f + 1, x, 0, h => by
    unfold Lib.bitLenAux
    split <;> simp <;> omega
  | f + 1, x, k + 1, h => by
    unfold Lib.bitLenAux
    have ih := lt_bitLen_aux f (x / 2) k (by omega)
    have hp : 2 ^ (k + 1) = 2 ^ k * 2 := Nat.pow_succ 2 k
    have hpos : 0 < 2 ^ k := Nat.pow_pos (by decide)
    split
    · rename_i h0
      subst h0
      simp
    · rw [hp]
      have : (2 ^ k * 2 ≤ x) ↔ (2 ^ k ≤ x / 2) := by
        constructor
        · intro h; omega
        · intro h; omega
      rw [this, ih]
      omega

theorem lt_bitLen (x k : Nat) (h : k < 64) : 2 ^ k ≤ x ↔ k < Lib.bitLen x := lt_bitLen_aux 64 x k h

theorem shl_form (m : Int) (hm0 : 12 ≤ m) (hm1 : m ≤ 16) : wrap64 (2 ^ m.toNat) = ((2 ^ m.toNat : Nat) : Int) := by
  have h3 := pow_le m.toNat 16 (by omega)
  have e2 : (2 : Int) ^ m.toNat = ((2 ^ m.toNat : Nat) : Int) := by simp
  rw [e2]
  generalize 2 ^ m.toNat = P at h3
  exact IntWalk.wrap64_in _ ⟨by omega, by omega⟩

theorem Pw.bd {s m : Int} {P : Nat} (h : Pw s m P) (hm0 : 12 ≤ m) (hm1 : m ≤ 16) : 4096 ≤ P ∧ P ≤ 65536 := by
  obtain ⟨j, h1, h2, rfl⟩ := h
  have h3 := texp_bd s.toNat m.toNat (by omega)
  have h4 := pow_le 12 j h1
  have h5 := pow_le j 16 (by omega)
  omega

theorem Pw.start (s m : Int) (hm0 : 12 ≤ m) : Pw s m 4096 := ⟨12, Nat.le_refl _, (texp_bd s.toNat m.toNat (by omega)).1, by decide⟩

theorem half_pow (j : Nat) (h : 12 ≤ j) : 2 ^ j / 2 = 2 ^ (j - 1) := by
  obtain ⟨i, rfl⟩ : ∃ i, j = i + 1 := ⟨j - 1, by omega⟩
  rw [Nat.pow_succ]
  simp

theorem Pw.step {s m : Int} {P : Nat} (h : Pw s m P) (h0 : 0 ≤ s) (hm0 : 12 ≤ m) (hm1 : m ≤ 16) (hl : (P : Int) < wrap64 (2 ^ m.toNat)) (hs : (P : Int) / 2 ≤ s) : Pw s m (P * 2) := by
  have hbd := h.bd hm0 hm1
  obtain ⟨j, h1, h2, rfl⟩ := h
  rw [shl_form m hm0 hm1] at hl
  have h3 := texp_bd s.toNat m.toNat (by omega)
  have hjm : j < m.toNat := by
    apply Nat.lt_of_not_le
    intro hc
    have := pow_le _ _ hc
    omega
  have hhalf := half_pow j h1
  have hb : j - 1 < Lib.bitLen s.toNat := (lt_bitLen s.toNat (j - 1) (by omega)).1 (by omega)
  refine ⟨j + 1, by omega, ?_, (Nat.pow_succ 2 j).symm⟩
  unfold texp
  omega

theorem Pw.stop_half {s m : Int} {P : Nat} (h : Pw s m P) (h0 : 0 ≤ s) (hm0 : 12 ≤ m) (hm1 : m ≤ 16) (hs : s < (P : Int) / 2) : (P : Int) = (tsz s.toNat m.toNat : Nat) := by
  obtain ⟨j, h1, h2, rfl⟩ := h
  have h3 := texp_bd s.toNat m.toNat (by omega)
  have hhalf := half_pow j h1
  have hb : ¬ j - 1 < Lib.bitLen s.toNat := fun hc => by
    have := (lt_bitLen s.toNat (j - 1) (by omega)).2 hc
    omega
  have e : j = texp s.toNat m.toNat := by
    refine Nat.le_antisymm h2 ?_
    unfold texp
    omega
  unfold tsz
  rw [e]

theorem Pw.stop_cap {s m : Int} {P : Nat} (h : Pw s m P) (hm0 : 12 ≤ m) (hm1 : m ≤ 16) (hl : wrap64 (2 ^ m.toNat) ≤ (P : Int)) : (P : Int) = (tsz s.toNat m.toNat : Nat) := by
  obtain ⟨j, h1, h2, rfl⟩ := h
  rw [shl_form m hm0 hm1] at hl
  have h3 := texp_bd s.toNat m.toNat (by omega)
  have hjm : m.toNat ≤ j := by
    apply Nat.le_of_not_lt
    intro hc
    have := pow_lt _ _ hc
    omega
  have e : j = texp s.toNat m.toNat := by omega
  unfold tsz
  rw [e]


end Go.Proofs.Qxb6615711aMods.Matcher
