/-
  The contract of tableModel (9): it gives 'tsz', by its loop. (The fact on '1 << uint(most)' is laid as a conditional rule: omega must not see a 'wrap64' over a power.)
-/
import Derived.Test.Qxb6615711aModsMatcher
namespace Go.Proofs.Qxb6615711aMods.Matcher
open Go.ChangeShapes Go.WideShapes Go.ChangeAt Go.RowKit

theorem model_aux (s m M : Int) (w : World) (h0 : 0 ≤ s) (hm0 : 12 ≤ m) (hm1 : m ≤ 16) (hM : ∀ x : Int, x = m → wrap64 (2 ^ x.toNat) = M) (mx : Nat) (_hmx0 : mx ≤ 65536) (hmx1 : 65536 ≤ mx) :
    Calls Trym.prog 9 #[.int .i64 s, .int .i64 m] w fun e w' => e = .returned (.int .i64 (tsz s.toNat m.toNat)) ∧ w' = w := by
  go_enter Trym.func9, Trym.ntmps9
  go_wp2
  go_loop [5] (fun p => ∃ P : Nat, Pw s m P ∧ p = .int .i64 P) (fun i => mx - (intOf i).toNat)
  case atStart => exact ⟨4096, Pw.start s m hm0, rfl⟩
  case round =>
    obtain ⟨P, hP, rfl⟩ := hrel
    obtain ⟨hp0, hp1⟩ := hP.bd hm0 hm1
    go_wp2
    · have hlt : (P : Int) < M := by assumption
      have hs : (P : Int) / 2 ≤ s := by assumption
      have hst : Pw s m (P * 2) := hP.step h0 hm0 hm1 (by rw [hM m rfl]; exact hlt) hs
      have hb := hst.bd hm0 hm1
      clear hM
      go_round
      case rel => exact ⟨P * 2, hst, by go_num⟩
      case measure => simp [intOf]; omega
    · go_ret
      exact ⟨ret_int (hP.stop_half h0 hm0 hm1 ‹_›), rfl⟩
    · go_ret
      exact ⟨ret_int (hP.stop_cap hm0 hm1 (by rw [hM m rfl]; assumption)), rfl⟩

theorem model_any (s m : Int) (w : World) (h0 : 0 ≤ s) (hm0 : 12 ≤ m) (hm1 : m ≤ 16) :
    Calls Trym.prog 9 #[.int .i64 s, .int .i64 m] w fun e w' => e = .returned (.int .i64 (tsz s.toNat m.toNat)) ∧ w' = w :=
  model_aux s m _ w h0 hm0 hm1 (fun x hx => by rw [hx]) 65536 (Nat.le_refl _) (Nat.le_refl _)

/-! ### The plain laws -/
theorem bitLen_div2 (s : Nat) (h : s < 2 ^ 64) : Lib.bitLen (s / 2) = Lib.bitLen s - 1 := by
  by_cases h0 : s = 0
  · subst h0; decide
  · have := Lib.bitLen_half s h0 h
    omega

/-- The table for the data halved: no greater; the data's is at most twice it; from 4096 bytes on the data's is twice it, unless capped. -/
theorem tsz_half (s m : Nat) (h : s < 2 ^ 64) (hm0 : 12 ≤ m) : tsz (s / 2) m ≤ tsz s m ∧ tsz s m ≤ 2 * tsz (s / 2) m ∧ (4096 ≤ s → tsz s m = min (2 * tsz (s / 2) m) (2 ^ m)) := by
  have hb := bitLen_div2 s h
  unfold tsz
  have e1 : texp (s / 2) m ≤ texp s m := by unfold texp; omega
  have e2 : texp s m ≤ texp (s / 2) m + 1 := by unfold texp; omega
  have p1 := pow_le _ _ e1
  have p2 := pow_le _ _ e2
  rw [Nat.pow_succ] at p2
  refine ⟨p1, by omega, fun h4 => ?_⟩
  have hlo : 12 < Lib.bitLen s := (lt_bitLen s 12 (by decide)).1 (by omega)
  by_cases hc : texp (s / 2) m + 1 ≤ m
  · have e : texp s m = texp (s / 2) m + 1 := by unfold texp at hc ⊢; omega
    have p3 := pow_le _ _ hc
    rw [e, Nat.pow_succ]
    rw [Nat.pow_succ] at p3
    omega
  · have e : texp s m = m := by unfold texp at hc ⊢; omega
    have e' : texp (s / 2) m = m := by unfold texp at hc ⊢; omega
    rw [e, e']
    omega

/-- The cap raised by one: a table below the cap stays, one at the cap at most doubles. -/
theorem tsz_cap (s m : Nat) (hm0 : 12 ≤ m) : tsz s m ≤ 2 ^ m ∧ (tsz s m < 2 ^ m → tsz s (m + 1) = tsz s m) ∧ (tsz s (m + 1) = tsz s m ∨ tsz s (m + 1) = 2 * tsz s m) := by
  unfold tsz
  refine ⟨pow_le _ _ (texp_bd s m hm0).2, fun h => ?_, ?_⟩
  · have : texp s m ≠ m := fun e => by rw [e] at h; omega
    have e : texp s (m + 1) = texp s m := by unfold texp at this ⊢; omega
    rw [e]
  · by_cases e : texp s (m + 1) = texp s m
    · left; rw [e]
    · right
      have e2 : texp s (m + 1) = texp s m + 1 := by unfold texp at e ⊢; omega
      rw [e2, Nat.pow_succ]
      omega
end Go.Proofs.Qxb6615711aMods.Matcher
