/-
  Contracts for the functions that the two laws on '(*query).past' come to: pastModel (13), ZZpast (12, past in place), ZZnewQuery (11, newQuery in place). The plain law: 'lastKey r e < f' is what pastModel answers.
-/
import Derived.Test.Qxb6615711aModsRows
import Derived.WalkKit
import Derived.ProofKit
import Derived.OpenShut
import Derived.Laws.BitsAllLaws
namespace Go.Proofs.Qxb6615711aMods.Query
open Go.ChangeShapes Go.WideShapes Go.ChangeAt Go.RowKit

/-- The largest key that a record of the region can have. -/
def lastKey (r e : Int) : Int := if r < 0 then 18446744073709551615 else r * 4294967296 + min (max e 0) 4294967295

theorem lastKey_neg {r e : Int} (h : r < 0) : lastKey r e = 18446744073709551615 := by unfold lastKey; rw [if_pos h]
theorem lastKey_pos {r e : Int} (h : 0 ≤ r) : lastKey r e = r * 4294967296 + min (max e 0) 4294967295 := by unfold lastKey; rw [if_neg (by omega)]

theorem ret_bool {a b : Bool} (h : a = b) : Ending.returned (.bool a) = .returned (.bool b) := by rw [h]

/-- The low half of a key. -/
theorem low_half (f : Int) (h0 : 0 ≤ f) (h1 : f ≤ 18446744073709551615) : wrap64 (bits .and .u64 f 4294967295) = f % 4294967296 := by
  rw [u64_and f 4294967295 h0 (by omega) (by omega) (by omega)]
  have e : (4294967295 : Int).toNat = 2 ^ 32 - 1 := by decide
  rw [e, Nat.and_two_pow_sub_one_eq_mod]
  have e2 : (2 : Nat) ^ 32 = 4294967296 := by decide
  rw [e2]
  have e3 : ((f.toNat % 4294967296 : Nat) : Int) = f % 4294967296 := by omega
  rw [e3]
  exact IntWalk.wrap64_in _ ⟨by omega, by omega⟩

theorem hi_ne {r e f : Int} (hr0 : 0 ≤ r) (h : (f / 4294967296 != r) = true) : decide (r < f / 4294967296) = decide (lastKey r e < f) := by
  rw [lastKey_pos hr0]
  have h' : f / 4294967296 ≠ r := by simpa using h
  rw [decide_eq_decide]
  omega

theorem hi_eq_neg {r e f : Int} (hr0 : 0 ≤ r) (hf0 : 0 ≤ f) (hf1 : f ≤ 18446744073709551615) (he : e < 0) (h : (f / 4294967296 != r) = false) : decide (0 < wrap64 (bits .and .u64 f 4294967295)) = decide (lastKey r e < f) := by
  rw [lastKey_pos hr0, low_half f hf0 hf1]
  have h' : f / 4294967296 = r := by simpa using h
  rw [decide_eq_decide]
  omega

theorem hi_eq_pos {r e f : Int} (hr0 : 0 ≤ r) (hf0 : 0 ≤ f) (hf1 : f ≤ 18446744073709551615) (he : 0 ≤ e) (h : (f / 4294967296 != r) = false) : decide (e < wrap64 (bits .and .u64 f 4294967295)) = decide (lastKey r e < f) := by
  rw [lastKey_pos hr0, low_half f hf0 hf1]
  have h' : f / 4294967296 = r := by simpa using h
  rw [decide_eq_decide]
  omega

/-- A key is its two halves joined. -/
theorem or_key (r m : Int) (hr0 : 0 ≤ r) (hr1 : r ≤ 2147483647) (hm0 : 0 ≤ m) (hm1 : m ≤ 4294967295) : bits .or .u64 (r * 4294967296) m = r * 4294967296 + m := by
  rw [u64_or _ _ (by omega) (by omega) hm0 (by omega), nat_join 32 _ _ (by omega) (by omega)]
  omega

theorem model_any (r e f : Int) (w : World) (hr1 : r ≤ 2147483647) (hf0 : 0 ≤ f) (hf1 : f ≤ 18446744073709551615) :
    Calls Trym.prog 13 #[.int .i32 r, .int .i64 e, .int .u64 f] w fun en w' => en = .returned (.bool (decide (lastKey r e < f))) ∧ w' = w := by
  by_cases h0 : r < 0
  · go_enter Trym.func13, Trym.ntmps13
    go_wp2
    go_ret
    exact ⟨ret_bool (by rw [lastKey_neg h0]; symm; rw [decide_eq_false_iff_not]; omega), rfl⟩
  · have h0' : 0 ≤ r := by omega
    go_enter Trym.func13, Trym.ntmps13
    go_wp2
    · go_ret
      exact ⟨ret_bool (hi_ne h0' ‹_›), rfl⟩
    · go_ret
      exact ⟨ret_bool (hi_eq_neg h0' hf0 hf1 ‹_› ‹_›), rfl⟩
    · go_ret
      exact ⟨ret_bool (hi_eq_pos h0' hf0 hf1 ‹_› ‹_›), rfl⟩

theorem Grown.trans {a b c : World} (h : Grown a b) (k : Grown b c) : Grown a c := by
  obtain ⟨⟨h1, h2, h3⟩, hf, hs⟩ := h
  obtain ⟨⟨k1, k2, k3⟩, kf, ks⟩ := k
  exact ⟨World.keptBut_trans ⟨h1, h2, h3⟩ ⟨k1, k2, k3⟩, fun x => (kf x).trans (hf x), by omega⟩

theorem past_any (B : Nat) (o f l r k : Int) (w : World) (hB : B < w.heap.size) (hc : w.cell? ⟨B, 4, none⟩ = some (.int .u64 k)) :
    Calls Trym.prog 12 #[.pointer (some ⟨B, 0, none⟩), .int .i64 o, .int .u64 f, .int .u64 l, .int .i64 r] w fun e w' => e = .returned (.bool (decide (k < f))) ∧ Grown w w' ∧ Below w.heap.size w w' := by
  go_enter Trym.func12, Trym.ntmps12
  go_wp2
  go_region
  go_wp2
  go_ret
  exact ⟨rfl, ((Grown.refl _).alloc _ _).drew, ((Below.refl _ _).alloc (Nat.le_refl _) _).drew⟩

theorem int_cell {a b : Int} (h : a = b) : some (Value.int .u64 a) = some (Value.int .u64 b) := by rw [h]

/-- The fourth cell of the second of two new blocks. -/
theorem fourth (w : World) (c1 : Array Value) (t1 t2 : TypeId) (v0 v1 v2 v3 v4 v5 : Value) : ((w.alloc (.cells c1 t1)).alloc (.cells #[v0, v1, v2, v3, v4, v5] t2)).cell? ⟨w.heap.size + 1, 4, none⟩ = some v4 := by
  go_simp

theorem new_any (r b e : Int) (w : World) (hr1 : r ≤ 2147483647) :
    Calls Trym.prog 11 #[.int .i32 r, .int .i64 b, .int .i64 e] w fun en w' => en = .returned (.pointer (some ⟨w.heap.size + 1, 0, none⟩)) ∧ w'.heap.size = w.heap.size + 2 ∧ w'.cell? ⟨w.heap.size + 1, 4, none⟩ = some (.int .u64 (lastKey r e)) ∧ Grown w w' ∧ Below w.heap.size w w' := by
  by_cases hm : (r == -1) = true
  · go_enter Trym.func11, Trym.ntmps11
    go_wp2
    go_ret
    exact ⟨rfl, by simp, (fourth _ _ _ _ _ _ _ _ _ _).trans (int_cell (lastKey_neg (by have : r = -1 := by simpa using hm
                                                                                       omega)).symm), ((Grown.refl _).alloc _ _).alloc _ _, ((Below.refl _ _).alloc (Nat.le_refl _) _).alloc (by simp) _⟩
  · have hm' : (r == -1) = false := by simpa using hm
    clear hm
    by_cases h0 : r < 0
    · go_enter Trym.func11, Trym.ntmps11
      go_wp2
      go_ret
      exact ⟨rfl, by simp, (fourth _ _ _ _ _ _ _ _ _ _).trans (int_cell (lastKey_neg h0).symm), ((Grown.refl _).alloc _ _).alloc _ _, ((Below.refl _ _).alloc (Nat.le_refl _) _).alloc (by simp) _⟩
    · go_enter Trym.func11, Trym.ntmps11
      go_wp2
      go_region
      go_wp2
      all_goals go_ret
      all_goals refine ⟨rfl, by simp, (fourth _ _ _ _ _ _ _ _ _ _).trans (int_cell ?_), (((Grown.refl _).alloc _ _).alloc _ _).drew, (((Below.refl _ _).alloc (Nat.le_refl _) _).alloc (by simp) _).drew⟩
      all_goals (rw [lastKey_pos (by omega), or_key _ _ (by omega) hr1 (by omega) (by omega)]; omega)

end Go.Proofs.Qxb6615711aMods.Query
