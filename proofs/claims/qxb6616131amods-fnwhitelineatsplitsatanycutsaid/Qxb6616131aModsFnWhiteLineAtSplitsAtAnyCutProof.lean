/-
  THE SHELL OF A PROOF OF 'Rows.FnWhiteLineAtSplitsAtAnyCutSaid' ('example.com/ramson/ramson/zzlaws_root_b1.FnWhiteLineAtSplitsAtAnyCut'), WRITTEN BY PROGRAM (proof-skeleton.mjs, third state) off the guide's own print for that function.
  THE WALK IS MINE; ALL ELSE IS THE GUIDE's OWN WAY (howto/template/XProofs.lean; Derived/Test/ChunkProofs.lean for 'Below') at this function's number and types: leave it.
-/
import Derived.Test.Qxb6616131aModsRows
import Derived.WalkKit
import Derived.ProofKit
import Derived.OpenShut
import Derived.ShutString
import Derived.Test.Qxb6616131aModsSplit
import Derived.ChangeOld
import Derived.Below
namespace Go.Proofs.Qxb6616131aMods.fnWhiteLineAtSplitsAtAnyCut
open Go.ChangeShapes Go.WideShapes Go.ChangeAt Go.RowKit
open Go.ChangeMaps (open_string shut_string)
set_option linter.unusedVariables false

theorem own : ownKnob Trym.prog.godebug = none := by kernel_rfl
theorem laidOut : laidOutB Trym.prog = true := by kernel_rfl

/-- WHAT THE WALK IS TOLD OF A SLICE OF INTEGERS THAT CAME IN: it is nil; or it leads to a row of 'cap' cells, the numbers 'zs' (the first 'len' are its elements, the rest its spare room), each fitting its kind. -/
def IsRow (k : IntKind) (w : World) (a : Option Addr) (len cap : Nat) (zs : List Int) : Prop :=
  (a = none ∧ len = 0 ∧ cap = 0 ∧ zs = []) ∨
  ∃ x, a = some x ∧ len ≤ cap ∧ cap ≤ maxLen ∧ zs.length = cap ∧ (∀ i, i < zs.length → w.cell? (x.add i) = some (.int k (zs.getD i 0))) ∧ ∀ n ∈ zs, (Lit.int k n).wf = true

/-! ### STEP 1: THE WALK: the Go text returns true, AND WRITES NOTHING THAT WAS THERE: 'Below w.heap.size w w'' (Derived/Below.lean: '.refl', '.alloc', '.drew', '.setCell' at a new block, '.trans'). Open each 'IsRow' by 'rcases' AHEAD of 'go_enter'; part every test ahead of the walk. -/
theorem walk (a0 : Option Addr) (len0 cap0 : Nat) (z0 : List Int) (a1 : Int) (a2 : Int) (a3 : Int) (w : World) (w0 : IsRow .u8 w a0 len0 cap0 z0) (w1 : (Lit.int .i64 a1).wf = true) (w2 : (Lit.int .i64 a2).wf = true) (w3 : (Lit.int .i64 a3).wf = true) :
    Calls Trym.prog 4 #[.slice a0 len0 cap0, .int .i64 a1, .int .i64 a2, .int .i64 a3] w fun e w' => e = .returned (.bool true) ∧ Below w.heap.size w w' := by
  obtain ⟨p0, p1⟩ := bounds_i64 w1
  obtain ⟨q0, q1⟩ := bounds_i64 w2
  obtain ⟨s0, s1⟩ := bounds_i64 w3
  clear w1 w2 w3
  have m0 : len0 ≤ 9223372036854775807 := by
    rcases w0 with ⟨_, h, _⟩ | ⟨x, _, h1, h2, _⟩
    · omega
    · unfold maxLen at h2; omega
  by_cases k0 : len0 ≤ 1048576
  case neg =>
    have hB : decide (len0 ≤ 1048576) = false := decide_eq_false k0
    clear w0
    go_enter Trym.func4, Trym.ntmps4
    go_wp2_with fail
    refine (Scan.bytes11 _ _ _ _ _ _ _ m0).mono ?_
    rintro e w' ⟨rfl, rfl⟩
    rw [hB]
    clear hB
    go_wp2_with fail
    go_ret
    exact ⟨rfl, Below.refl _ _⟩
  have hB : decide (len0 ≤ 1048576) = true := decide_eq_true k0
  by_cases k1 : a1 < 0
  · clear w0
    go_enter Trym.func4, Trym.ntmps4
    go_wp2_with fail
    refine (Scan.bytes11 _ _ _ _ _ _ _ m0).mono ?_
    rintro e w' ⟨rfl, rfl⟩
    rw [hB]
    clear hB
    go_wp2_with fail
    go_ret
    exact ⟨rfl, Below.refl _ _⟩
  by_cases k2 : (len0 : Int) < a1
  · clear w0
    go_enter Trym.func4, Trym.ntmps4
    go_wp2_with fail
    refine (Scan.bytes11 _ _ _ _ _ _ _ m0).mono ?_
    rintro e w' ⟨rfl, rfl⟩
    rw [hB]
    clear hB
    go_wp2_with fail
    go_ret
    exact ⟨rfl, Below.refl _ _⟩
  by_cases k3 : a2 < 0
  · clear w0
    go_enter Trym.func4, Trym.ntmps4
    go_wp2_with fail
    refine (Scan.bytes11 _ _ _ _ _ _ _ m0).mono ?_
    rintro e w' ⟨rfl, rfl⟩
    rw [hB]
    clear hB
    go_wp2_with fail
    go_ret
    exact ⟨rfl, Below.refl _ _⟩
  by_cases k4 : (len0 : Int) - a1 < a2
  · clear w0
    go_enter Trym.func4, Trym.ntmps4
    go_wp2_with fail
    refine (Scan.bytes11 _ _ _ _ _ _ _ m0).mono ?_
    rintro e w' ⟨rfl, rfl⟩
    rw [hB]
    clear hB
    go_wp2_with fail
    go_ret
    exact ⟨rfl, Below.refl _ _⟩
  by_cases k5 : a3 < a1 + a2
  · clear w0
    go_enter Trym.func4, Trym.ntmps4
    go_wp2_with fail
    refine (Scan.bytes11 _ _ _ _ _ _ _ m0).mono ?_
    rintro e w' ⟨rfl, rfl⟩
    rw [hB]
    clear hB
    go_wp2_with fail
    go_ret
    exact ⟨rfl, Below.refl _ _⟩
  by_cases k6 : (len0 : Int) < a3
  · clear w0
    go_enter Trym.func4, Trym.ntmps4
    go_wp2_with fail
    refine (Scan.bytes11 _ _ _ _ _ _ _ m0).mono ?_
    rintro e w' ⟨rfl, rfl⟩
    rw [hB]
    clear hB
    go_wp2_with fail
    go_ret
    exact ⟨rfl, Below.refl _ _⟩
  clear hB
  obtain ⟨p, rfl⟩ : ∃ p : Nat, a1 = (p : Int) := ⟨a1.toNat, by omega⟩
  obtain ⟨k, rfl⟩ : ∃ k : Nat, a2 = (k : Int) := ⟨a2.toNat, by omega⟩
  obtain ⟨m, rfl⟩ : ∃ m : Nat, a3 = (m : Int) := ⟨a3.toNat, by omega⟩
  have hi : p + k ≤ m := by omega
  have hm : m ≤ len0 := by omega
  clear k1 k2 k3 k4 k5 k6 p0 p1 q0 q1 s0 s1 m0
  rcases w0 with ⟨rfl, hl, rfl, rfl⟩ | ⟨x0, rfl, hl0, hm0, hz0, hc0, hw0⟩
  · subst hl
    obtain rfl : p = 0 := by omega
    obtain rfl : k = 0 := by omega
    obtain rfl : m = 0 := by omega
    exact Scan.split_nil w
  · rcases Nat.lt_or_eq_of_le hm with hlt | heq
    · exact Scan.split_a x0 len0 cap0 p k m z0 w k0 hi hlt (fun i hi => hc0 i (by omega))
    · subst heq
      rcases Nat.lt_or_eq_of_le hi with hlt | heq
      · exact Scan.split_b x0 m cap0 p k z0 w k0 hlt (fun i hi => hc0 i (by omega))
      · subst heq
        exact Scan.split_c x0 cap0 p k z0 w k0 (fun i hi => hc0 i (by omega))

/-! ### THE ROW's STEP: WRITTEN OUT: LEAVE IT -/
set_option maxRecDepth 100000 in
theorem lifted (os : Os) (started : os.Started) (H : Type) (enc : TypeId × Value → H) :
    ReturnsInHanded {} Trym.checked os 4 .any (Rows.fnWhiteLineAtSplitsAtAnyCutSpec.pre6 enc Trym.prog Trym.f4 Rows.fnWhiteLineAtSplitsAtAnyCutRow.domain false) (Rows.fnWhiteLineAtSplitsAtAnyCutSpec.post enc Trym.prog Trym.f4 false true false false) := by
  refine returnsInHanded_of_change (C := Trym.checked) own started (by kernel_rfl) Trym.func4
    (ChangeSpec.witness6 (enc := enc) (C := Trym.checked) false ⟨#[], #[.slice none 0 0, .int .i64 0, .int .i64 0, .int .i64 0], []⟩ 8 (by kernel_rfl) (by kernel_rfl) (by kernel_rfl) (by kernel_rfl)) ?_
  intro W base args ds gs before hval0 hW hcnd _
  have hval : ∀ (j : Nat) t v, Trym.f4.params[j]? = some t → args[j]? = some v → Value.okWide Trym.prog W .any base t v := hval0
  have hW' := hW
  obtain ⟨p, q, hA0, hV, rfl, hfz, hnd⟩ := hW
  have hA : DataW.TrodAll enc Trym.prog W 0 (fun _ => true) true Trym.f4.params.toList args.toList ds p := hA0
  rw [Trym.params4] at hA hval
  obtain ⟨v0, vs0, d0, ds0, p0, q0, hargs, rfl, rfl, h0, r0⟩ := trodAll_cons hA
  obtain ⟨v1, vs1, d1, ds1, p1, q1, rfl, rfl, rfl, h1, r1⟩ := trodAll_cons r0
  obtain ⟨v2, vs2, d2, ds2, p2, q2, rfl, rfl, rfl, h2, r2⟩ := trodAll_cons r1
  obtain ⟨v3, vs3, d3, ds3, p3, q3, rfl, rfl, rfl, h3, r3⟩ := trodAll_cons r2
  obtain ⟨rfl, rfl, rfl⟩ := trodAll_nil r3
  obtain rfl : args = #[v0, v1, v2, v3] := by cases args; simp_all
  obtain ⟨rfl, rfl⟩ := trodVars_none hV
  obtain ⟨a0, len0, cap0, rfl⟩ := okWide_slice Trym.underlying29 (hval 0 29 v0 rfl rfl)
  have k0 := h0
  have lt0 : ∀ x ∈ p0, x.block < W.heap.size := by obtain ⟨m, hm⟩ := k0; exact DataW.trod_lt m _ _ _ hm
  obtain ⟨z0, w0⟩ : ∃ zs, IsRow .u8 W a0 len0 cap0 zs := by
    obtain ⟨fuel, hf⟩ := h0
    rcases open_ints Trym.underlying29 Trym.underlying5 (by kernel_rfl) hf with ⟨hcs, _⟩ | ⟨x, l, c, zs, hcs, _, hl, hm, hz, _, hcell, hwz⟩
    · simp [Value.cells] at hcs
      obtain ⟨rfl, rfl, rfl⟩ := hcs
      exact ⟨[], .inl ⟨rfl, rfl, rfl, rfl⟩⟩
    · simp [Value.cells] at hcs
      obtain ⟨rfl, rfl, rfl⟩ := hcs
      exact ⟨zs, .inr ⟨_, rfl, hl, hm, by simpa using hz, hcell, hwz⟩⟩
  obtain ⟨a1, rfl, rfl, rfl, w1⟩ := open_int Trym.underlying3 (hval 1 3 v1 rfl rfl) h1
  obtain ⟨a2, rfl, rfl, rfl, w2⟩ := open_int Trym.underlying3 (hval 2 3 v2 rfl rfl) h2
  obtain ⟨a3, rfl, rfl, rfl, w3⟩ := open_int Trym.underlying3 (hval 3 3 v3 rfl rfl) h3
  clear hA0 hval0
  refine (walk a0 len0 cap0 z0 a1 a2 a3 W w0 w1 w2 w3).mono fun e W' ⟨he, bel⟩ => ?_
  subst he
  exact ⟨_, rfl, _, _, _, [], _, [], hW', trodAll_mk1 (shut_bool Trym.underlying4 _), (trodAll_cons_mk (Below.trod laidOut (by kernel_rfl) (of_decide_eq_true (by kernel_rfl)) k0 bel lt0) (trodAll_cons_mk (shut_int Trym.underlying3 w1) (trodAll_cons_mk (shut_int Trym.underlying3 w2) (trodAll_cons_mk (shut_int Trym.underlying3 w3) trodAll_mk0)))), rfl, bel.frame _, fun h => by cases h⟩

theorem over : Rows.fnWhiteLineAtSplitsAtAnyCutRow.holds Trym.pinned (OpenSpec.ofChange Rows.fnWhiteLineAtSplitsAtAnyCutSpec) :=
  OpenClaim.holds_of_wide 4 Trym.f4 rfl rfl rfl rfl rfl rfl rfl ⟨rfl, rfl, rfl, rfl, rfl⟩ rfl rfl rfl rfl rfl (by kernel_rfl) Trym.func4 (by kernel_rfl)
    (of_decide_eq_true (by kernel_rfl)) (by unfold Func.isWrapper; first | (rw [if_pos (by decide +kernel)]; kernel_rfl) | (rw [if_neg (by decide +kernel)]; exact ⟨rfl, rfl⟩))
    (fun os started H enc _ => lifted os started H enc)

/-- ████ THE STATEMENT ████ -/
theorem proved : Rows.FnWhiteLineAtSplitsAtAnyCutSaid := over
#print axioms proved
end Go.Proofs.Qxb6616131aMods.fnWhiteLineAtSplitsAtAnyCut
