/-
  THE SHELL OF A PROOF OF 'Rows.FnQueryWiderRegionPastLaterSaid' ('example.com/colonnade/colonnade/zzlaws_root_b1.FnQueryWiderRegionPastLater'), WRITTEN BY PROGRAM (proof-skeleton.mjs) off the guide's own print for that function.
  THE WALK IS MINE; ALL ELSE IS THE GUIDE's TEMPLATE (howto/template/XProofs.lean) at this function's number and types: leave it.
-/
import Derived.Test.Qxb6615711aModsRows
import Derived.WalkKit
import Derived.ProofKit
import Derived.OpenShut
import Derived.ShutString
import Derived.Test.Qxb6615711aModsQuery
namespace Go.Proofs.Qxb6615711aMods.fnQueryWiderRegionPastLater
open Go.ChangeShapes Go.WideShapes Go.ChangeAt Go.RowKit
open Go.ChangeMaps (open_string shut_string)
set_option linter.unusedVariables false      -- a walk need not use every 'w<i>' (that an integer argument fits its kind)

theorem own : ownKnob Trym.prog.godebug = none := by kernel_rfl

/-! ### STEP 1: THE WALK: the Go text returns true. 'Grown w w'': the world has at most new blocks (Derived/RowKit3.lean). Part the cases AHEAD of 'go_enter' where a test parts the walk; take each callee by a contract of your own. -/
theorem walk (a0 : Int) (a1 : Int) (a2 : Int) (a3 : Int) (a4 : Int) (a5 : Int) (a6 : Int) (a7 : Int) (w0 : (Lit.int .i32 a0).wf = true) (w1 : (Lit.int .i64 a1).wf = true) (w2 : (Lit.int .i64 a2).wf = true) (w3 : (Lit.int .i64 a3).wf = true) (w4 : (Lit.int .u64 a4).wf = true) (w5 : (Lit.int .i64 a5).wf = true) (w6 : (Lit.int .u64 a6).wf = true) (w7 : (Lit.int .i64 a7).wf = true) (w : World) :
    Calls Trym.prog 6 #[.int .i32 a0, .int .i64 a1, .int .i64 a2, .int .i64 a3, .int .u64 a4, .int .i64 a5, .int .u64 a6, .int .i64 a7] w fun e w' => e = .returned (.bool true) ∧ Grown w w' := by
  obtain ⟨l0, u0⟩ := bounds_i32 w0
  obtain ⟨l4, u4⟩ := bounds_u64 w4
  clear w0 w1 w2 w3 w4 w5 w6 w7
  by_cases h0 : a0 < -2
  · go_enter Trym.func6, Trym.ntmps6
    go_wp2_with fail
    go_ret
    exact ⟨rfl, Grown.refl _⟩
  · have key : ∀ (p q : Bool), (p = decide (Query.lastKey a0 a2 < a4)) → (q = decide (Query.lastKey a0 a3 < a4)) → Calls Trym.prog 6 #[.int .i32 a0, .int .i64 a1, .int .i64 a2, .int .i64 a3, .int .u64 a4, .int .i64 a5, .int .u64 a6, .int .i64 a7] w fun e w' => e = .returned (.bool true) ∧ Grown w w' := by
      intro p q hp hq
      have HP : Hid (p = decide (Query.lastKey a0 a2 < a4)) := hp
      have HQ : Hid (q = decide (Query.lastKey a0 a3 < a4)) := hq
      have HI : Hid (a2 ≤ a3 → q = true → p = true) := by
        intro h hq'
        rw [hq] at hq'
        have := of_decide_eq_true hq'
        rw [hp]
        have hm : Query.lastKey a0 a2 ≤ Query.lastKey a0 a3 := by unfold Query.lastKey; split <;> omega
        exact decide_eq_true (by omega)
      clear hp hq
      go_enter Trym.func6, Trym.ntmps6
      go_wp2_with fail
      refine (Query.new_any _ _ _ _ u0).mono ?_
      rintro e w1 ⟨rfl, hs1, hc1, hg1, hb1⟩
      go_wp2_with fail
      refine (Query.new_any _ _ _ _ u0).mono ?_
      rintro e w2 ⟨rfl, hs2, hc2, hg2, hb2⟩
      have hc1' : w2.cell? ⟨w.heap.size + 1, 4, none⟩ = some (.int .u64 (Query.lastKey a0 a2)) := (hb2.cell (p := ⟨w.heap.size + 1, 4, none⟩) (by show w.heap.size + 1 < _; omega)).trans hc1
      have hs : w.heap.size + 1 < w1.heap.size := by omega
      have hs' : w1.heap.size + 1 < w2.heap.size := by omega
      clear hc1 hs1 hs2 hb1 hb2
      go_wp2_with fail
      refine (Query.past_any _ _ _ _ _ _ _ (by omega) hc1').mono ?_
      rintro e w3 ⟨rfl, hg3, hb3⟩
      rw [← HP.out]
      have hc2' : w3.cell? ⟨w1.heap.size + 1, 4, none⟩ = some (.int .u64 (Query.lastKey a0 a3)) := (hb3.cell (p := ⟨w1.heap.size + 1, 4, none⟩) (by show w1.heap.size + 1 < _; omega)).trans hc2
      have hs3 : w1.heap.size + 1 < w3.heap.size := by have := hb3.size; omega
      clear hc2 hc1' hs hs' hb3
      go_wp2_with fail
      refine (Query.past_any _ _ _ _ _ _ _ hs3 hc2').mono ?_
      rintro e w4 ⟨rfl, hg4, hb4⟩
      rw [← HQ.out]
      have hg : Grown w w4 := Query.Grown.trans (Query.Grown.trans (Query.Grown.trans hg1 hg2) hg3) hg4
      clear hc2' hs3 hb4 hg1 hg2 hg3 hg4
      go_wp2_with fail
      refine (Query.model_any _ _ _ _ u0 l4 u4).mono ?_
      rintro e w5 ⟨rfl, rfl⟩
      rw [← HP.out]
      go_wp2_with fail
      refine (Query.model_any _ _ _ _ u0 l4 u4).mono ?_
      rintro e w6 ⟨rfl, rfl⟩
      rw [← HQ.out]
      clear HP HQ
      by_cases h34 : a2 ≤ a3
      · have hpq := HI.out h34
        clear HI
        cases q
        · go_wp2_with fail
          go_ret
          exact ⟨rfl, hg⟩
        · obtain rfl := hpq rfl
          go_wp2_with fail
          go_ret
          exact ⟨rfl, hg⟩
      · go_wp2_with fail
        go_ret
        exact ⟨rfl, hg⟩
    exact key _ _ rfl rfl

/-! ### THE ROW's STEP: WRITTEN OUT: LEAVE IT -/
set_option maxRecDepth 100000 in
theorem lifted (os : Os) (started : os.Started) (H : Type) (enc : TypeId × Value → H) :
    ReturnsInHanded {} Trym.checked os 6 .any (Rows.fnQueryWiderRegionPastLaterSpec.pre6 enc Trym.prog Trym.f6 Rows.fnQueryWiderRegionPastLaterRow.domain false) (Rows.fnQueryWiderRegionPastLaterSpec.post enc Trym.prog Trym.f6 false true false false) := by
  refine returnsInHanded_of_change (C := Trym.checked) own started (by kernel_rfl) Trym.func6
    (ChangeSpec.witness6 (enc := enc) (C := Trym.checked) false ⟨#[], #[.int .i32 0, .int .i64 0, .int .i64 0, .int .i64 0, .int .u64 0, .int .i64 0, .int .u64 0, .int .i64 0], []⟩ 8 (by kernel_rfl) (by kernel_rfl) (by kernel_rfl) (by kernel_rfl)) ?_
  intro W base args ds gs before hval0 hW hcnd _
  have hval : ∀ (j : Nat) t v, Trym.f6.params[j]? = some t → args[j]? = some v → Value.okWide Trym.prog W .any base t v := hval0
  have hW' := hW
  obtain ⟨p, q, hA0, hV, rfl, hfz, hnd⟩ := hW
  have hA : DataW.TrodAll enc Trym.prog W 0 (fun _ => true) true Trym.f6.params.toList args.toList ds p := hA0
  rw [Trym.params6] at hA hval
  obtain ⟨v0, vs0, d0, ds0, p0, q0, hargs, rfl, rfl, h0, r0⟩ := trodAll_cons hA
  obtain ⟨v1, vs1, d1, ds1, p1, q1, rfl, rfl, rfl, h1, r1⟩ := trodAll_cons r0
  obtain ⟨v2, vs2, d2, ds2, p2, q2, rfl, rfl, rfl, h2, r2⟩ := trodAll_cons r1
  obtain ⟨v3, vs3, d3, ds3, p3, q3, rfl, rfl, rfl, h3, r3⟩ := trodAll_cons r2
  obtain ⟨v4, vs4, d4, ds4, p4, q4, rfl, rfl, rfl, h4, r4⟩ := trodAll_cons r3
  obtain ⟨v5, vs5, d5, ds5, p5, q5, rfl, rfl, rfl, h5, r5⟩ := trodAll_cons r4
  obtain ⟨v6, vs6, d6, ds6, p6, q6, rfl, rfl, rfl, h6, r6⟩ := trodAll_cons r5
  obtain ⟨v7, vs7, d7, ds7, p7, q7, rfl, rfl, rfl, h7, r7⟩ := trodAll_cons r6
  obtain ⟨rfl, rfl, rfl⟩ := trodAll_nil r7
  obtain rfl : args = #[v0, v1, v2, v3, v4, v5, v6, v7] := by cases args; simp_all
  obtain ⟨rfl, rfl⟩ := trodVars_none hV
  obtain ⟨a0, rfl, rfl, rfl, w0⟩ := open_int Trym.underlying21 (hval 0 21 v0 rfl rfl) h0
  obtain ⟨a1, rfl, rfl, rfl, w1⟩ := open_int Trym.underlying2 (hval 1 2 v1 rfl rfl) h1
  obtain ⟨a2, rfl, rfl, rfl, w2⟩ := open_int Trym.underlying2 (hval 2 2 v2 rfl rfl) h2
  obtain ⟨a3, rfl, rfl, rfl, w3⟩ := open_int Trym.underlying2 (hval 3 2 v3 rfl rfl) h3
  obtain ⟨a4, rfl, rfl, rfl, w4⟩ := open_int Trym.underlying30 (hval 4 30 v4 rfl rfl) h4
  obtain ⟨a5, rfl, rfl, rfl, w5⟩ := open_int Trym.underlying2 (hval 5 2 v5 rfl rfl) h5
  obtain ⟨a6, rfl, rfl, rfl, w6⟩ := open_int Trym.underlying30 (hval 6 30 v6 rfl rfl) h6
  obtain ⟨a7, rfl, rfl, rfl, w7⟩ := open_int Trym.underlying2 (hval 7 2 v7 rfl rfl) h7
  clear hA0 hval0
  simp only [List.append_nil] at hW'
  refine (walk a0 a1 a2 a3 a4 a5 a6 a7 w0 w1 w2 w3 w4 w5 w6 w7 W).mono fun e W' ⟨he, hg⟩ => ?_
  subst he
  exact ⟨_, rfl, post_of_same (pa := []) (pv := []) hW' (fun _ _ _ => (trodAll_cons_mk (shut_bool Trym.underlying4 _) trodAll_mk0)) (fun sp _ => (trodAll_cons_mk (shut_int Trym.underlying21 w0) (trodAll_cons_mk (shut_int Trym.underlying2 w1) (trodAll_cons_mk (shut_int Trym.underlying2 w2) (trodAll_cons_mk (shut_int Trym.underlying2 w3) (trodAll_cons_mk (shut_int Trym.underlying30 w4) (trodAll_cons_mk (shut_int Trym.underlying2 w5) (trodAll_cons_mk (shut_int Trym.underlying30 w6) (trodAll_cons_mk (shut_int Trym.underlying2 w7) trodAll_mk0))))))))) (fun _ _ => rfl) rfl
    (hg.frame _) hg.2.1 (ok_one (by kernel_rfl) rfl (okWide_bool_mk Trym.underlying4 _))⟩

theorem over : Rows.fnQueryWiderRegionPastLaterRow.holds Trym.pinned (OpenSpec.ofChange Rows.fnQueryWiderRegionPastLaterSpec) :=
  OpenClaim.holds_of_wide 6 Trym.f6 rfl rfl rfl rfl rfl rfl rfl ⟨rfl, rfl, rfl, rfl, rfl⟩ rfl rfl rfl rfl rfl (by kernel_rfl) Trym.func6 (by kernel_rfl)
    (of_decide_eq_true (by kernel_rfl)) (by unfold Func.isWrapper; first | (rw [if_pos (by decide +kernel)]; kernel_rfl) | (rw [if_neg (by decide +kernel)]; exact ⟨rfl, rfl⟩))
    (fun os started H enc _ => lifted os started H enc)

/-- ████ THE STATEMENT ████ -/
theorem proved : Rows.FnQueryWiderRegionPastLaterSaid :=
  over
#print axioms proved
end Go.Proofs.Qxb6615711aMods.fnQueryWiderRegionPastLater
