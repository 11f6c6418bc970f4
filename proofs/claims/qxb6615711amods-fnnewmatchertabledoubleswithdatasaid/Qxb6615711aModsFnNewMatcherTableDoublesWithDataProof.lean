/-
  THE SHELL OF A PROOF OF 'Rows.FnNewMatcherTableDoublesWithDataSaid' ('example.com/colonnade/colonnade/zzlaws_root_b1.FnNewMatcherTableDoublesWithData'), WRITTEN BY PROGRAM (proof-skeleton.mjs) off the guide's own print for that function.
  THE WALK IS MINE; ALL ELSE IS THE GUIDE's TEMPLATE (howto/template/XProofs.lean) at this function's number and types: leave it.
-/
import Derived.Test.Qxb6615711aModsRows
import Derived.WalkKit
import Derived.ProofKit
import Derived.OpenShut
import Derived.ShutString
import Derived.Test.Qxb6615711aModsModel
namespace Go.Proofs.Qxb6615711aMods.fnNewMatcherTableDoublesWithData
open Go.ChangeShapes Go.WideShapes Go.ChangeAt Go.RowKit
open Go.ChangeMaps (open_string shut_string)
set_option linter.unusedVariables false      -- a walk need not use every 'w<i>' (that an integer argument fits its kind)

theorem own : ownKnob Trym.prog.godebug = none := by kernel_rfl

/-! ### STEP 1: THE WALK: the Go text returns true. 'Grown w w'': the world has at most new blocks (Derived/RowKit3.lean). Part the cases AHEAD of 'go_enter' where a test parts the walk; take each callee by a contract of your own. -/
theorem walk (a0 : Int) (a1 : Int) (a2 : Int) (w0 : (Lit.int .i64 a0).wf = true) (w1 : (Lit.int .i64 a1).wf = true) (w2 : (Lit.int .i64 a2).wf = true) (w : World) :
    Calls Trym.prog 3 #[.int .i64 a0, .int .i64 a1, .int .i64 a2] w fun e w' => e = .returned (.bool true) ∧ Grown w w' := by
  obtain ⟨l0, u0⟩ := bounds_i64 w0
  clear w0 w1 w2
  by_cases h0 : a0 < 0
  · go_enter Trym.func3, Trym.ntmps3
    go_wp2_with fail
    go_ret
    exact ⟨rfl, Grown.refl _⟩
  by_cases h1 : a1 < 12
  · go_enter Trym.func3, Trym.ntmps3
    go_wp2_with fail
    go_ret
    exact ⟨rfl, Grown.refl _⟩
  by_cases h2 : 16 < a1
  · go_enter Trym.func3, Trym.ntmps3
    go_wp2_with fail
    go_ret
    exact ⟨rfl, Grown.refl _⟩
  have p0 : 0 ≤ a0 := by omega
  have m0 : 12 ≤ a1 := by omega
  have m1 : a1 ≤ 16 := by omega
  have q0 : 0 ≤ a0 / 2 := by omega
  have q1 : a0 / 2 ≤ 9223372036854775807 := by omega
  clear h0 h1 h2
  have e2 : (a0 / 2).toNat = a0.toNat / 2 := by omega
  have hb1 := Matcher.tsz_bd a0.toNat a1.toNat (by omega) (by omega)
  have hb2 := Matcher.tsz_bd (a0 / 2).toNat a1.toNat (by omega) (by omega)
  obtain ⟨x1, x2, x3⟩ := Matcher.tsz_half a0.toNat a1.toNat (by omega) (by omega)
  rw [← e2] at x1 x2 x3
  clear e2
  have HX : Hid (4096 ≤ a0 → (Matcher.tsz a0.toNat a1.toNat : Int) = min (2 * (Matcher.tsz (a0 / 2).toNat a1.toNat : Int)) ((2 ^ a1.toNat : Nat) : Int)) := fun h => by
    have := x3 (by omega)
    omega
  clear x3
  obtain ⟨M, hM⟩ : ∃ M : Int, M = ((2 ^ a1.toNat : Nat) : Int) := ⟨_, rfl⟩
  have hsh : ∀ x : Int, x = a1 → wrap64 (2 ^ x.toNat) = M := fun x hx => by rw [hx, hM, Matcher.shl_form a1 m0 m1]
  rw [← hM] at HX
  have k1 := fun w => Matcher.new_any a0 a1 a2 w p0 u0 m0 m1
  have k2 := fun w => Matcher.new_any (a0 / 2) a1 a2 w q0 q1 m0 m1
  have o1 := fun w => Matcher.model_any a0 a1 w p0 m0 m1
  have o2 := fun w => Matcher.model_any (a0 / 2) a1 w q0 m0 m1
  clear hM
  generalize Matcher.tsz a0.toNat a1.toNat = L1 at *
  generalize Matcher.tsz (a0 / 2).toNat a1.toNat = L2 at *
  obtain ⟨b1, b2⟩ := hb1
  obtain ⟨b3, b4⟩ := hb2
  have K1 : Hid _ := k1
  have K2 : Hid _ := k2
  have O1 : Hid _ := o1
  have O2 : Hid _ := o2
  clear k1 k2 o1 o2
  go_enter Trym.func3, Trym.ntmps3
  go_wp2_with fail
  refine (K1.out _).mono ?_
  rintro e w1 ⟨rfl, s1, f1, g1, c1⟩
  go_wp2_with fail
  refine (K2.out _).mono ?_
  rintro e w2 ⟨rfl, s2, f2, g2, c2⟩
  have f1' := f1.later c2 (by omega) (by omega)
  have hg : Grown w w2 := Matcher.Grown.trans g1 g2
  clear f1 g1 g2 c1 c2 s1 s2 K1 K2
  go_wp2_with fail
  refine (O1.out _).mono ?_
  rintro e w3 ⟨rfl, rfl⟩
  go_wp2_with fail
  refine (Matcher.fresh_any _ _ _ _ _ f1' b1 b2).mono ?_
  rintro e w4 ⟨rfl, n4, rfl⟩
  go_wp2_with fail
  refine (O2.out _).mono ?_
  rintro e w5 ⟨rfl, rfl⟩
  go_wp2_with fail
  refine (Matcher.fresh_any _ _ _ _ _ (f2.drewN _) b3 b4).mono ?_
  rintro e w6 ⟨rfl, n6, rfl⟩
  go_wp2_with fail
  refine (Matcher.len_of _ _ _ _ _ (f1'.drewN _)).mono ?_
  rintro e w7 ⟨rfl, n7, rfl⟩
  go_wp2_with fail
  refine (Matcher.len_of _ _ _ _ _ (f2.drewN _)).mono ?_
  rintro e w8 ⟨rfl, n8, rfl⟩
  clear f1' f2 O1 O2
  by_cases h4 : 4096 ≤ a0
  · have hx := HX.out h4
    clear HX
    by_cases hw : M < 2 * (L2 : Int)
    · have hx' : (L1 : Int) = M := by omega
      clear hx
      go_wp2_with fail
      go_ret
      exact ⟨rfl, hg⟩
    · have hx' : (L1 : Int) = 2 * (L2 : Int) := by omega
      clear hx
      go_wp2_with fail
      go_ret
      exact ⟨rfl, hg⟩
  · go_wp2_with fail
    go_ret
    exact ⟨rfl, hg⟩

/-! ### THE ROW's STEP: WRITTEN OUT: LEAVE IT -/
set_option maxRecDepth 100000 in
theorem lifted (os : Os) (started : os.Started) (H : Type) (enc : TypeId × Value → H) :
    ReturnsInHanded {} Trym.checked os 3 .any (Rows.fnNewMatcherTableDoublesWithDataSpec.pre6 enc Trym.prog Trym.f3 Rows.fnNewMatcherTableDoublesWithDataRow.domain false) (Rows.fnNewMatcherTableDoublesWithDataSpec.post enc Trym.prog Trym.f3 false true false false) := by
  refine returnsInHanded_of_change (C := Trym.checked) own started (by kernel_rfl) Trym.func3
    (ChangeSpec.witness6 (enc := enc) (C := Trym.checked) false ⟨#[], #[.int .i64 0, .int .i64 0, .int .i64 0], []⟩ 8 (by kernel_rfl) (by kernel_rfl) (by kernel_rfl) (by kernel_rfl)) ?_
  intro W base args ds gs before hval0 hW hcnd _
  have hval : ∀ (j : Nat) t v, Trym.f3.params[j]? = some t → args[j]? = some v → Value.okWide Trym.prog W .any base t v := hval0
  have hW' := hW
  obtain ⟨p, q, hA0, hV, rfl, hfz, hnd⟩ := hW
  have hA : DataW.TrodAll enc Trym.prog W 0 (fun _ => true) true Trym.f3.params.toList args.toList ds p := hA0
  rw [Trym.params3] at hA hval
  obtain ⟨v0, vs0, d0, ds0, p0, q0, hargs, rfl, rfl, h0, r0⟩ := trodAll_cons hA
  obtain ⟨v1, vs1, d1, ds1, p1, q1, rfl, rfl, rfl, h1, r1⟩ := trodAll_cons r0
  obtain ⟨v2, vs2, d2, ds2, p2, q2, rfl, rfl, rfl, h2, r2⟩ := trodAll_cons r1
  obtain ⟨rfl, rfl, rfl⟩ := trodAll_nil r2
  obtain rfl : args = #[v0, v1, v2] := by cases args; simp_all
  obtain ⟨rfl, rfl⟩ := trodVars_none hV
  obtain ⟨a0, rfl, rfl, rfl, w0⟩ := open_int Trym.underlying3 (hval 0 3 v0 rfl rfl) h0
  obtain ⟨a1, rfl, rfl, rfl, w1⟩ := open_int Trym.underlying3 (hval 1 3 v1 rfl rfl) h1
  obtain ⟨a2, rfl, rfl, rfl, w2⟩ := open_int Trym.underlying3 (hval 2 3 v2 rfl rfl) h2
  clear hA0 hval0
  simp only [List.append_nil] at hW'
  refine (walk a0 a1 a2 w0 w1 w2 W).mono fun e W' ⟨he, hg⟩ => ?_
  subst he
  exact ⟨_, rfl, post_of_same (pa := []) (pv := []) hW' (fun _ _ _ => (trodAll_cons_mk (shut_bool Trym.underlying4 _) trodAll_mk0)) (fun sp _ => (trodAll_cons_mk (shut_int Trym.underlying3 w0) (trodAll_cons_mk (shut_int Trym.underlying3 w1) (trodAll_cons_mk (shut_int Trym.underlying3 w2) trodAll_mk0)))) (fun _ _ => rfl) rfl
    (hg.frame _) hg.2.1 (ok_one (by kernel_rfl) rfl (okWide_bool_mk Trym.underlying4 _))⟩

theorem over : Rows.fnNewMatcherTableDoublesWithDataRow.holds Trym.pinned (OpenSpec.ofChange Rows.fnNewMatcherTableDoublesWithDataSpec) :=
  OpenClaim.holds_of_wide 3 Trym.f3 rfl rfl rfl rfl rfl rfl rfl ⟨rfl, rfl, rfl, rfl, rfl⟩ rfl rfl rfl rfl rfl (by kernel_rfl) Trym.func3 (by kernel_rfl)
    (of_decide_eq_true (by kernel_rfl)) (by unfold Func.isWrapper; first | (rw [if_pos (by decide +kernel)]; kernel_rfl) | (rw [if_neg (by decide +kernel)]; exact ⟨rfl, rfl⟩))
    (fun os started H enc _ => lifted os started H enc)

/-- ████ THE STATEMENT ████ -/
theorem proved : Rows.FnNewMatcherTableDoublesWithDataSaid :=
  over
#print axioms proved
end Go.Proofs.Qxb6615711aMods.fnNewMatcherTableDoublesWithData
