/-
  The plain laws on 'skip', and what a copied slice holds.
-/
import Derived.Test.Qxb6615885aModsParts
namespace Go.Proofs.Qxb6615885aMods.Win
open Go.ChangeShapes Go.WideShapes Go.ChangeAt Go.RowKit
open Tm

theorem skip_split (us hs : List Int) (t : Int) (b : Nat) : ∀ a j, skip us hs t j (a + b) = if skip us hs t j a < a then skip us hs t j a else a + skip us hs t (j + a) b
  | 0, j => by simp [skip]
  | a + 1, j => by
    have ih := skip_split us hs t b a (j + 1)
    rw [show a + 1 + b = (a + b) + 1 by omega, skip, skip]
    by_cases hc : cur us hs t j = true
    · rw [if_pos hc, if_pos hc, if_pos (by omega)]
    · rw [if_neg hc, if_neg hc, ih, show j + 1 + a = j + (a + 1) by omega]
      by_cases h2 : skip us hs t (j + 1) a < a
      · rw [if_pos h2, if_pos (by omega)]
      · rw [if_neg h2, if_neg (by omega)]; omega

theorem getD_drop (l : List Int) (c i : Nat) : (l.drop c).getD i 0 = l.getD (c + i) 0 := by
  simp [List.getD, List.getElem?_drop]

theorem cur_drop (us hs : List Int) (t : Int) (c i : Nat) : cur (us.drop c) (hs.drop c) t i = cur us hs t (c + i) := by
  unfold cur
  rw [getD_drop, getD_drop]

theorem skip_drop (us hs : List Int) (t : Int) (c : Nat) : ∀ m j, skip (us.drop c) (hs.drop c) t j m = skip us hs t (c + j) m
  | 0, _ => rfl
  | m + 1, j => by rw [skip, skip, cur_drop, skip_drop us hs t c m (j + 1)]; rfl

/-- A list at its cut: what the law compares. -/
theorem cut_law (us hs : List Int) (t : Int) (n c : Nat) (hc : c ≤ n) :
    skip us hs t 0 n = (if skip us hs t 0 c < c then skip us hs t 0 c else c + skip us hs t c (n - c)) := by
  have := skip_split us hs t (n - c) c 0
  rw [show c + (n - c) = n by omega, Nat.zero_add] at this
  exact this

theorem cur_mono (us hs : List Int) (a b : Int) (i : Nat) (h : a ≤ b) (hc : cur us hs b i = true) : cur us hs a i = true := by
  unfold cur at hc ⊢
  simp only [Bool.and_eq_true, decide_eq_true_eq] at hc ⊢
  exact ⟨hc.1, by omega⟩

theorem skip_cur (us hs : List Int) (t : Int) : ∀ m j, skip us hs t j m < m → cur us hs t (j + skip us hs t j m) = true
  | 0, _, h => by simp [skip] at h
  | m + 1, j, h => by
    rw [skip] at h ⊢
    by_cases hc : cur us hs t j = true
    · rw [if_pos hc]; exact hc
    · rw [if_neg hc] at h ⊢
      have := skip_cur us hs t m (j + 1) (by omega)
      rw [show j + (1 + skip us hs t (j + 1) m) = j + 1 + skip us hs t (j + 1) m by omega]
      exact this

theorem skip_zero_of_cur (us hs : List Int) (t : Int) (j m : Nat) (h : cur us hs t j = true) : skip us hs t j m = 0 := by
  cases m with
  | zero => rfl
  | succ m => rw [skip, if_pos h]

/-- At the later time: what was dropped at the earlier one is dropped, then the rest. -/
theorem later_up (us hs : List Int) (a b : Int) (h : a ≤ b) : ∀ m j, skip us hs b j m = skip us hs a j m + skip us hs b (j + skip us hs a j m) (m - skip us hs a j m)
  | 0, _ => by simp [skip]
  | m + 1, j => by
    by_cases hc : cur us hs a j = true
    · have : skip us hs a j (m + 1) = 0 := skip_zero_of_cur _ _ _ _ _ hc
      rw [this]; simp
    · have hb : ¬ cur us hs b j = true := fun hb => hc (cur_mono us hs a b j h hb)
      have ih := later_up us hs a b h m (j + 1)
      have e1 : skip us hs a j (m + 1) = 1 + skip us hs a (j + 1) m := by rw [skip, if_neg hc]
      have e2 : skip us hs b j (m + 1) = 1 + skip us hs b (j + 1) m := by rw [skip, if_neg hb]
      rw [e1, e2, ih, show j + (1 + skip us hs a (j + 1) m) = j + 1 + skip us hs a (j + 1) m by omega, show m + 1 - (1 + skip us hs a (j + 1) m) = m - skip us hs a (j + 1) m by omega]
      omega

/-- At an earlier time, asked second: nothing more is dropped. -/
theorem later_down (us hs : List Int) (a b : Int) (h : b ≤ a) (m j : Nat) : skip us hs b (j + skip us hs a j m) (m - skip us hs a j m) = 0 := by
  by_cases hl : skip us hs a j m < m
  · exact skip_zero_of_cur _ _ _ _ _ (cur_mono us hs b a _ h (skip_cur us hs a m j hl))
  · have := skip_le us hs a m j
    rw [show m - skip us hs a j m = 0 by omega]
    rfl

theorem fits_drop {l : List Int} (h : Fits l) (c : Nat) : Fits (l.drop c) := fun i => by rw [getD_drop]; exact h (c + i)

theorem fits_of {zs : List Int} (h : ∀ n ∈ zs, (Lit.int .i64 n).wf = true) : Fits zs := fun i => by
  by_cases hi : i < zs.length
  · have e : zs.getD i 0 = zs[i] := by simp [List.getD, hi]
    rw [e]
    exact bounds_i64 (h _ (List.getElem_mem hi))
  · have e : zs.getD i 0 = 0 := by simp [List.getD, Nat.le_of_not_lt hi]
    rw [e]; omega

/-- What a copy over n zeroes holds. -/
theorem copied {w : World} {g n : Nat} {zs : List Int} (hl : n ≤ zs.length) (h : Hid (w.heap[g]? = some (.cells (splice (madeCells #[Value.int .i64 0] n).toList 0 ((zs.take n).map (Value.int .i64))).toArray 2 (0, 0)))) :
    ∀ i, i < n → w.cell? ⟨g, i, none⟩ = some (.int .i64 (zs.getD i 0)) := by
  intro i hi
  have hc := h.out
  have e : splice (madeCells #[Value.int .i64 0] n).toList 0 ((zs.take n).map (Value.int .i64)) = (zs.take n).map (Value.int .i64) := by
    have hlen : ((zs.take n).map (Value.int .i64)).length = n := by simp [hl]
    simp [splice, size_madeCells, Nat.min_eq_left hl]
  rw [e] at hc
  have hz : i < zs.length := by omega
  simp [World.cell?, hc, hi, List.getD, List.getElem?_eq_getElem hz]

theorem lt_copied {w : World} {g n : Nat} {zs : List Int} (h : Hid (w.heap[g]? = some (.cells (splice (madeCells #[Value.int .i64 0] n).toList 0 ((zs.take n).map (Value.int .i64))).toArray 2 (0, 0)))) : g < w.heap.size := lt_of_block h.out

theorem info2 : (Trym.prog.info? 2).map (fun i => (i.zero, i.size, i.bytes)) = some (some (.int .i64 0), 1, 8) := by kernel_rfl
theorem size2 : (Trym.prog.info? 2).map (·.size) = some 1 := by kernel_rfl
end Go.Proofs.Qxb6615885aMods.Win
