import Derived.Test.Qxb6615885aModsRows
import Derived.WalkKit
import Derived.ProofKit
import Derived.OpenShut
import Derived.BigQuiet
import Derived.Deep.QuietTactic
import Derived.Deep.RegionWith
import Derived.Laws.BitsAllLaws
namespace Go.Proofs.Qxb6615885aMods.Tm
open Go.ChangeShapes Go.WideShapes Go.ChangeAt Go.RowKit

theorem ret_bool {a b : Bool} (h : a = b) : Ending.returned (.bool a) = .returned (.bool b) := by rw [h]
theorem ret_int {k : IntKind} {a b : Int} (h : a = b) : Ending.returned (.int k a) = .returned (.int k b) := by rw [h]

theorem top_nat (x : Nat) (h : x < 9223372036854775808) : x &&& 9223372036854775808 = 0 := by
  have e : (9223372036854775808 : Nat) = 2 ^ 63 := by decide
  rw [e, nat_bit, Nat.div_eq_of_lt (by omega)]

theorem top (x : Int) (h0 : 0 ≤ x) (h1 : x ≤ 1073741823) : bits .and .u64 x 9223372036854775808 = 0 := by
  rw [u64_and x _ h0 (by omega) (by omega) (by omega)]
  have e : (9223372036854775808 : Int).toNat = 9223372036854775808 := by decide
  rw [e, top_nat _ (by omega)]
  rfl

theorem and_bd (x y : Int) (h0 : 0 ≤ x) (h1 : x ≤ 1073741823) (h2 : 0 ≤ y) (h3 : y ≤ 1073741823) : 0 ≤ bits .and .u64 x y ∧ bits .and .u64 x y ≤ 1073741823 := by
  rw [u64_and x y h0 (by omega) h2 (by omega)]
  have := Nat.and_le_left (n := x.toNat) (m := y.toNat)
  omega

theorem top2 (x y : Int) (h0 : 0 ≤ x) (h1 : x ≤ 1073741823) (h2 : 0 ≤ y) (h3 : y ≤ 1073741823) : bits .and .u64 (bits .and .u64 x y) 9223372036854775808 = 0 :=
  top _ (and_bd x y h0 h1 h2 h3).1 (and_bd x y h0 h1 h2 h3).2

theorem low (x : Int) (h0 : 0 ≤ x) (h1 : x ≤ 999999999) : bits .and .u64 x 1073741823 = x := by
  rw [u64_and x _ h0 (by omega) (by omega) (by omega)]
  have e : (1073741823 : Int).toNat = 2 ^ 30 - 1 := by decide
  rw [e, Nat.and_two_pow_sub_one_eq_mod, Nat.mod_eq_of_lt (by omega)]
  omega

/-- The two halves of a time that is n nanoseconds behind the zero time: its nanoseconds, its seconds. -/
def ns (n : Int) : Int := n % 1000000000
def sc (n : Int) : Int := n / 1000000000

theorem ns_bd (n : Int) : 0 ≤ ns n ∧ ns n ≤ 999999999 := by unfold ns; omega
theorem sc_bd (n : Int) (h0 : -9223372036854775808 ≤ n) (h1 : n ≤ 9223372036854775807) : -9223372037 ≤ sc n ∧ sc n ≤ 9223372036 := by unfold sc; omega
theorem join (n : Int) : sc n * 1000000000 + ns n = n := by unfold sc ns; omega
theorem eq_halves (a b : Int) : (sc a == sc b && ns a == ns b) = (a == b) := by
  have h1 := join a
  have h2 := join b
  rw [Bool.eq_iff_iff]
  simp only [Bool.and_eq_true, beq_iff_eq]
  constructor
  · rintro ⟨x, y⟩
    rw [x, y] at h1
    omega
  · rintro rfl
    exact ⟨rfl, rfl⟩

theorem split (d : Int) : 1000000000 * d.tdiv 1000000000 + d.tmod 1000000000 = d ∧ -999999999 ≤ d.tmod 1000000000 ∧ d.tmod 1000000000 ≤ 999999999 := by
  have h := Int.mul_tdiv_add_tmod d 1000000000
  have h2 := Int.tmod_lt_of_pos d (b := 1000000000) (by omega)
  have h3 := Int.tmod_lt_of_pos (-d) (b := 1000000000) (by omega)
  rw [Int.neg_tmod] at h3
  exact ⟨h, by omega, by omega⟩

theorem equal_any (s1 e1 s2 e2 : Int) (w : World) (h1 : 0 ≤ s1) (h2 : s1 ≤ 999999999) (h3 : 0 ≤ s2) (h4 : s2 ≤ 999999999) :
    Calls Trym.prog 28 #[.agg #[.int .u64 s1, .int .i64 e1, .pointer none], .agg #[.int .u64 s2, .int .i64 e2, .pointer none]] w fun e w' => e = .returned (.bool (e1 == e2 && s1 == s2)) ∧ Below w.heap.size w w' := by
  have t1 := top s1 h1 (by omega)
  have t2 := top s2 h3 (by omega)
  have t3 := top2 s1 s2 h1 (by omega) h3 (by omega)
  have l1 := low s1 h1 h2
  have l2 := low s2 h3 h4
  by_cases he : (e1 == e2) = true
  · go_enter Trym.func28, Trym.ntmps28
    go_wp2
    go_ret
    exact ⟨ret_bool (by rw [he, Bool.true_and]), ((Below.refl _ _).alloc (Nat.le_refl _) _).alloc (by simp) _⟩
  · have he' : (e1 == e2) = false := by simpa using he
    clear he
    go_enter Trym.func28, Trym.ntmps28
    go_wp2
    go_ret
    exact ⟨ret_bool (by rw [he', Bool.false_and]), ((Below.refl _ _).alloc (Nat.le_refl _) _).alloc (by simp) _⟩

def aft (s1 e1 s2 e2 : Int) : Bool := decide (e2 < e1 ∨ e1 = e2 ∧ s2 < s1)

theorem after_any (s1 e1 s2 e2 : Int) (w : World) (h1 : 0 ≤ s1) (h2 : s1 ≤ 999999999) (h3 : 0 ≤ s2) (h4 : s2 ≤ 999999999) :
    Calls Trym.prog 29 #[.agg #[.int .u64 s1, .int .i64 e1, .pointer none], .agg #[.int .u64 s2, .int .i64 e2, .pointer none]] w fun e w' => e = .returned (.bool (aft s1 e1 s2 e2)) ∧ Below w.heap.size w w' := by
  have t1 := top s1 h1 (by omega)
  have t2 := top s2 h3 (by omega)
  have t3 := top2 s1 s2 h1 (by omega) h3 (by omega)
  have l1 := low s1 h1 h2
  have l2 := low s2 h3 h4
  by_cases hl : e2 < e1
  · go_enter Trym.func29, Trym.ntmps29
    go_wp2
    go_ret
    exact ⟨ret_bool (by symm; exact decide_eq_true (Or.inl hl)), ((Below.refl _ _).alloc (Nat.le_refl _) _).alloc (by simp) _⟩
  · by_cases he : (e1 == e2) = true
    · go_enter Trym.func29, Trym.ntmps29
      go_wp2
      go_ret
      have : e1 = e2 := by simpa using he
      exact ⟨ret_bool (by unfold aft; rw [decide_eq_decide]; omega), ((Below.refl _ _).alloc (Nat.le_refl _) _).alloc (by simp) _⟩
    · have he' : (e1 == e2) = false := by simpa using he
      clear he
      go_enter Trym.func29, Trym.ntmps29
      go_wp2
      go_ret
      have : ¬ e1 = e2 := by simpa using he'
      exact ⟨ret_bool (by symm; unfold aft; rw [decide_eq_false_iff_not]; omega), ((Below.refl _ _).alloc (Nat.le_refl _) _).alloc (by simp) _⟩

theorem or_zero (x : Int) (h0 : 0 ≤ x) (h1 : x ≤ 999999999) : bits .or .u64 0 x = x := by
  rw [u64_or 0 x (by omega) (by omega) h0 (by omega)]
  have e : (0 : Int).toNat = 0 := by decide
  rw [e, Nat.zero_or]
  omega

theorem andNot_zero : bits .andNot .u64 0 1073741823 = 0 := by
  rw [u64_andNot 0 _ (by omega) (by omega) (by omega) (by omega)]
  have e : (0 : Int).toNat = 0 := by decide
  rw [e, Nat.zero_and]
  rfl

theorem aft_halves (a b : Int) : aft (ns a) (sc a) (ns b) (sc b) = decide (b < a) := by
  unfold aft ns sc
  rw [decide_eq_decide]
  omega

theorem agg_time {a b c d : Int} (h1 : a = c) (h2 : b = d) : Ending.returned (.agg #[.int .u64 a, .int .i64 b, .pointer none]) = .returned (.agg #[.int .u64 c, .int .i64 d, .pointer none]) := by rw [h1, h2]

set_option maxHeartbeats 400000 in
theorem add_aux (d q r : Int) (w : World) (hq : d.tdiv 1000000000 = q) (hr : d.tmod 1000000000 = r) (hr0 : -999999999 ≤ r) (hr1 : r ≤ 999999999) (hq0 : -9223372037 ≤ q) (hq1 : q ≤ 9223372037) (hs : Hid (1000000000 * q + r = d)) :
    Calls Trym.prog 27 #[.agg #[.int .u64 0, .int .i64 0, .pointer none], .int .i64 d] w fun e w' => e = .returned (.agg #[.int .u64 (ns d), .int .i64 (sc d), .pointer none]) ∧ Below w.heap.size w w' := by
  have t0 := top 0 (by omega) (by omega)
  have l0 := low 0 (by omega) (by omega)
  have z0 := andNot_zero
  by_cases hn : r < 0
  · have o1 := or_zero (r + 1000000000) (by omega) (by omega)
    have t1 := top (r + 1000000000) (by omega) (by omega)
    have e1 : r + 1000000000 = ns d := by unfold ns; have := hs.out; omega
    have e2 : q - 1 = sc d := by unfold sc; have := hs.out; omega
    have E1 := agg_time e1 e2
    clear e1 e2
    go_enter Trym.func27, Trym.ntmps27
    go_wp2
    go_end0
    go_wp2
    exact bodyPost_ret (v := .agg #[.int .u64 (r + 1000000000), .int .i64 (q - 1), .pointer none]) (by simp [results, Trym.results27, go_sem]) rfl ⟨E1, ((Below.refl _ _).alloc (Nat.le_refl _) _).alloc (by simp) _⟩
  · have o1 := or_zero r (by omega) (by omega)
    have t1 := top r (by omega) (by omega)
    have e1 : r = ns d := by unfold ns; have := hs.out; omega
    have e2 : q = sc d := by unfold sc; have := hs.out; omega
    have E1 := agg_time e1 e2
    clear e1 e2
    go_enter Trym.func27, Trym.ntmps27
    go_wp2
    go_end0
    go_wp2
    exact bodyPost_ret (v := .agg #[.int .u64 r, .int .i64 q, .pointer none]) (by simp [results, Trym.results27, go_sem]) rfl ⟨E1, ((Below.refl _ _).alloc (Nat.le_refl _) _).alloc (by simp) _⟩

/-- (time.Time).Add at the zero time. -/
theorem add_any (d : Int) (w : World) (h0 : -9223372036854775808 ≤ d) (h1 : d ≤ 9223372036854775807) :
    Calls Trym.prog 27 #[.agg #[.int .u64 0, .int .i64 0, .pointer none], .int .i64 d] w fun e w' => e = .returned (.agg #[.int .u64 (ns d), .int .i64 (sc d), .pointer none]) ∧ Below w.heap.size w w' := by
  obtain ⟨a, b, c⟩ := split d
  exact add_aux d _ _ w rfl rfl b c (by omega) (by omega) a

/-- zzAt. -/
theorem at_any (d : Int) (w : World) (h0 : -9223372036854775808 ≤ d) (h1 : d ≤ 9223372036854775807) :
    Calls Trym.prog 22 #[.int .i64 d] w fun e w' => e = .returned (.agg #[.int .u64 (ns d), .int .i64 (sc d), .pointer none]) ∧ Below w.heap.size w w' := by
  go_enter Trym.func22, Trym.ntmps22
  go_wp2_with fail
  refine (add_any _ _ h0 h1).mono ?_
  rintro e w1 ⟨rfl, hb⟩
  have c0 := fun o => (hb.cell (p := ⟨w.heap.size, o, none⟩) (by simp))
  have f0 := fun o => (hb.frozen (p := ⟨w.heap.size, o, none⟩) (by simp))
  have hz : w.heap.size < w1.heap.size := by have := hb.size; simp at this; omega
  go_wp2_with fail
  refine bodyPost_ret (v := .agg #[.int .u64 (ns d), .int .i64 (sc d), .pointer none]) ?_ rfl ⟨rfl, ?_⟩
  · simp [results, Trym.results22, go_sem, c0]
  · exact (((((Below.refl _ _).alloc (Nat.le_refl _) _).trans (hb.mono (by simp))).setCell (Nat.le_refl _) _).setCell (Nat.le_refl _) _).setCell (Nat.le_refl _) _

theorem back (a : Int) (h0 : -9223372036854775808 ≤ a) (h1 : a ≤ 9223372036854775807) : wrap64 (wrap64 (sc a * 1000000000) + ns a) = a := by
  have := join a
  unfold wrap64
  omega

set_option maxHeartbeats 400000 in
/-- (time.Time).Sub of the zero time. -/
theorem sub_any (a : Int) (w : World) (h0 : -9223372036854775808 ≤ a) (h1 : a ≤ 9223372036854775807) :
    Calls Trym.prog 24 #[.agg #[.int .u64 (ns a), .int .i64 (sc a), .pointer none], .agg #[.int .u64 0, .int .i64 0, .pointer none]] w fun e w' => e = .returned (.int .i64 a) ∧ Below w.heap.size w w' := by
  obtain ⟨n0, n1⟩ := ns_bd a
  obtain ⟨s0, s1⟩ := sc_bd a h0 h1
  have t1 := top (ns a) n0 (by omega)
  have t2 := top 0 (by omega) (by omega)
  have t3 := top2 (ns a) 0 n0 (by omega) (by omega) (by omega)
  have l1 := low (ns a) n0 n1
  have l2 := low 0 (by omega) (by omega)
  have HE : Hid ((sc a == sc a && ns a == ns a) = true) := by unfold Hid; simp
  go_enter Trym.func24, Trym.ntmps24
  go_wp2
  rw [back a h0 h1]
  go_region_with (first | (go_at_call 27; refine (add_any a _ h0 h1).mono ?_; rintro e w1 ⟨rfl, hb1⟩; have c0 := hb1.cell (p := ⟨w.heap.size, 0, none⟩) (by simp; omega); have c1 := hb1.cell (p := ⟨w.heap.size, 1, none⟩) (by simp; omega); have c2 := hb1.cell (p := ⟨w.heap.size, 2, none⟩) (by simp; omega)) | (go_at_call 28; refine (equal_any _ _ _ _ _ n0 n1 n0 n1).mono ?_; rintro e w2 ⟨rfl, hb2⟩; rw [HE.out]))
  all_goals go_wp2
  all_goals go_ret
  all_goals exact ⟨rfl, (((((Below.refl _ _).alloc (Nat.le_refl _) _).alloc (by simp) _).drew).trans (hb1.mono (by simp; omega))).trans (hb2.mono (by have := hb1.size; simp at this; omega))⟩

#print axioms sub_any
end Go.Proofs.Qxb6615885aMods.Tm
