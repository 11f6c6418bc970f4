import Derived.Test.Qxb6615885aModsTime
import Derived.WalkSpells
import Derived.Deep.RegionLaw
import Derived.Deep.AppendLies
import Derived.Laws.Tables
namespace Go.Proofs.Qxb6615885aMods.Win
open Go.ChangeShapes Go.WideShapes Go.ChangeAt Go.RowKit
open Tm

theorem info56 : (Trym.prog.info? 56).map (fun i => (i.zero, i.size, i.bytes)) = some (some (.agg #[.pointer none, .int .u64 0, .int .i64 0, .pointer none]), 4, 32) := by kernel_rfl

theorem built59 : (Trym.prog.built 59 []).map (fun cs => (cs[35]?, cs.size)) = some (some (.slice none 0 0), 74) := by kernel_rfl
theorem built66 (a b : Int) : (Trym.prog.built 66 [(20, .agg #[.int .u64 a, .int .i64 b, .pointer none])]).map (fun cs => (cs[22]?, cs[23]?, cs[24]?, cs.size)) = some (some (.int .u64 a), some (.int .i64 b), some (.pointer none), 47) := by kernel_rfl

/-- A zero window's cells. -/
theorem zero59 : ∃ cs : Array Value, Trym.prog.built 59 [] = some cs ∧ cs[35]? = some (.slice none 0 0) ∧ cs.size = 74 := by
  obtain ⟨cs, h, e⟩ := Option.map_eq_some_iff.1 built59
  simp only [Prod.mk.injEq] at e
  exact ⟨cs, h, e.1, e.2⟩

/-- A question's cells, held until the time of the two halves. -/
theorem q66 (a b : Int) : ∃ cs : Array Value, Trym.prog.built 66 [(20, .agg #[.int .u64 a, .int .i64 b, .pointer none])] = some cs ∧ cs[22]? = some (.int .u64 a) ∧ cs[23]? = some (.int .i64 b) ∧ cs[24]? = some (.pointer none) := by
  obtain ⟨cs, h, e⟩ := Option.map_eq_some_iff.1 (built66 a b)
  simp only [Prod.mk.injEq] at e
  exact ⟨cs, h, e.1, e.2.1, e.2.2.1⟩

theorem wp_built59 (dst : Option Tmp) (ty : TypeId) (pos : String) (after : Array Edge) (a : Act) (w : World) (K : Act → World → Prop) (Q : Exit → Act → World → Prop) :
    Oper.wp Trym.prog { dst := dst, op := Op.build 59 #[], type := ty, pos := pos, after := after, guard := none } a w K Q = K (a.put dst (.agg ((Trym.prog.built 59 []).getD #[]))) w := by
  obtain ⟨cs, h, _⟩ := zero59
  have hr := run_build (P := Trym.prog) w 59 #[] cs h
  rw [h]
  unfold Oper.wp execOp
  simp only [Sem.run_bind, List.map_toArray, List.map_nil, hr, Result.andThen_ok, Option.getD_some]
  rfl

/-- An operation that is not run yet. -/
def later (o : Oper) (a : Act) (w : World) (K : Act → World → Prop) (Q : Exit → Act → World → Prop) : Prop := Oper.wp Trym.prog o a w K Q

theorem wp_built66 (x : Operand) (dst : Option Tmp) (ty : TypeId) (pos : String) (after : Array Edge) (a : Act) (w : World) (K : Act → World → Prop) (Q : Exit → Act → World → Prop) :
    Oper.wp Trym.prog { dst := dst, op := Op.build 66 #[(20, x)], type := ty, pos := pos, after := after, guard := none } a w K Q =
      (Trym.prog.built 66 [(20, a.eval x)]).elim (later { dst := dst, op := Op.build 66 #[(20, x)], type := ty, pos := pos, after := after, guard := none } a w K Q) (fun cs => K (a.put dst (.agg cs)) w) := by
  cases h : Trym.prog.built 66 [(20, a.eval x)] with
  | none => simp only [Option.elim_none, later]
  | some cs =>
    have hr := run_build (P := Trym.prog) w 66 #[(20, a.eval x)] cs h
    unfold Oper.wp execOp
    simp only [Sem.run_bind, List.map_toArray, List.map_cons, List.map_nil, hr, Result.andThen_ok, Option.elim_some]
    rfl
attribute [local go_sem ↓] wp_built59 wp_built66

/-- Block q is a question that is held until h. -/
def QB (w : World) (q : Nat) (h : Int) : Prop := ∃ cs : Array Value, w.heap[q]? = some (.cells cs 66 (0, 0)) ∧ cs[22]? = some (.int .u64 (ns h)) ∧ cs[23]? = some (.int .i64 (sc h)) ∧ cs[24]? = some (.pointer none)

/-- The four cells of entry i. -/
def Ent (xs : List Value) (q : Nat) (i : Nat) (u : Int) : Prop :=
  xs[i * 4]? = some (.pointer (some ⟨q, 0, none⟩)) ∧ xs[i * 4 + 1]? = some (.int .u64 (ns u)) ∧ xs[i * 4 + 2]? = some (.int .i64 (sc u)) ∧ xs[i * 4 + 3]? = some (.pointer none)

/-- The window that is being built at block B, k entries laid. -/
def Bld (B : Nat) (w wr : World) (us hs : List Int) (k : Nat) : Prop :=
  ∃ (ao : Option Addr) (cap : Nat) (xs : List Value) (Q : Nat → Nat),
    wr.cell? ⟨B, 35, none⟩ = some (.slice ao k cap) ∧ wr.frozen? ⟨B, 35, none⟩ = false ∧ B < wr.heap.size ∧
    wr.ownsRow (B + 1) 56 4 (.slice ao k cap) k xs ∧
    (∀ i, i < k → Ent xs (Q i) i (us.getD i 0) ∧ B < Q i ∧ QB wr (Q i) (hs.getD i 0)) ∧ Below B w wr

def Fits (zs : List Int) : Prop := ∀ i, -9223372036854775808 ≤ zs.getD i 0 ∧ zs.getD i 0 ≤ 9223372036854775807


theorem ownsRow_below {w w' : World} {base : Nat} {e : TypeId} {size : Nat} {v : Value} {n : Nat} {xs : List Value} (h : w.ownsRow base e size v n xs) (hb : Below w.heap.size w w') : w'.ownsRow base e size v n xs := by
  obtain ⟨h1, h2⟩ := h
  refine ⟨h1, ?_⟩
  rcases h2 with h2 | ⟨g, cap, cur, hv, hg, hh, r⟩
  · exact Or.inl h2
  · exact Or.inr ⟨g, cap, cur, hv, hg, (hb.block g (lt_of_block hh)).trans hh, r⟩

theorem QB.of_block {w w' : World} {q : Nat} {h : Int} (hq : QB w q h) (e : w'.heap[q]? = w.heap[q]?) : QB w' q h := by
  obtain ⟨cs, h1, h2⟩ := hq
  exact ⟨cs, e.trans h1, h2⟩

theorem QB.lt {w : World} {q : Nat} {h : Int} (hq : QB w q h) : q < w.heap.size := by
  obtain ⟨cs, h1, _⟩ := hq
  exact lt_of_block h1

/-- A question is no row of entries. -/
theorem QB.not_own {w : World} {q base : Nat} {h : Int} {ao : Option Addr} {k cap n : Nat} {xs : List Value} (hq : QB w q h) (hown : w.ownsRow base 56 4 (.slice ao k cap) n xs) : some q ≠ (Value.slice ao k cap).ownBlock := by
  obtain ⟨cs, h1, _⟩ := hq
  rcases hown.2 with ⟨hv, _⟩ | ⟨g, c, cur, hv, _, hg, _⟩
  · rw [hv]; simp [Value.ownBlock]
  · rw [hv]
    intro e
    have : q = g := by simpa [Value.ownBlock] using e
    subst this
    rw [h1] at hg
    simp at hg

theorem own_lt {w : World} {base : Nat} {ao : Option Addr} {k cap n : Nat} {xs : List Value} (hown : w.ownsRow base 56 4 (.slice ao k cap) n xs) {b : Nat} (hb : (Value.slice ao k cap).ownBlock = some b) : base ≤ b ∧ b < w.heap.size := by
  rcases hown.2 with ⟨hv, _⟩ | ⟨g, c, cur, hv, hbase, hg, _⟩
  · rw [hv] at hb; simp [Value.ownBlock] at hb
  · rw [hv] at hb
    have : g = b := by simpa [Value.ownBlock] using hb
    subst this
    exact ⟨hbase, lt_of_block hg⟩

theorem ent_old {xs news : List Value} {q i k : Nat} {u : Int} (h : Ent xs q i u) (hl : xs.length = k * 4) (hi : i < k) : Ent (xs ++ news) q i u := by
  obtain ⟨h1, h2, h3, h4⟩ := h
  refine ⟨?_, ?_, ?_, ?_⟩ <;> (rw [List.getElem?_append_left (by omega)]; assumption)

theorem ent_new {xs : List Value} {q k : Nat} {u : Int} (hl : xs.length = k * 4) : Ent (xs ++ [.pointer (some ⟨q, 0, none⟩), .int .u64 (ns u), .int .i64 (sc u), .pointer none]) q k u := by
  refine ⟨?_, ?_, ?_, ?_⟩
  · rw [List.getElem?_append_right (by omega), hl, Nat.sub_self]; rfl
  · rw [List.getElem?_append_right (by omega), hl, Nat.add_sub_cancel_left]; rfl
  · rw [List.getElem?_append_right (by omega), hl, Nat.add_sub_cancel_left]; rfl
  · rw [List.getElem?_append_right (by omega), hl, Nat.add_sub_cancel_left]; rfl

theorem bld_start (w : World) (cs : Array Value) (us hs : List Int) (h35 : cs[35]? = some (.slice none 0 0)) : Bld w.heap.size w (w.alloc (.cells cs 59)) us hs 0 := by
  refine ⟨none, 0, [], fun _ => 0, ?_, ?_, by simp, World.ownsRow_nil _ _ _ _, fun i hi => absurd hi (by omega), (Below.refl _ _).alloc (Nat.le_refl _) _⟩
  · rw [World.cell?_alloc_new]; exact h35
  · rw [frozen?_alloc_cells]; simp [World.frozen?]

/-- One round's work on the window that is being built. -/
theorem bld_step {B : Nat} {w wr W1 w2 w3 : World} {us hs : List Int} {k cap cap' q g : Nat} {ao : Option Addr} {xs : List Value} {Q : Nat → Nat} {h u : Int} {qc : Array Value} {o : Obj} {v : Value}
    (hents : ∀ i, i < k → Ent xs (Q i) i (us.getD i 0) ∧ B < Q i ∧ QB wr (Q i) (hs.getD i 0)) (hbel : Below B w wr) (hWl : B < wr.heap.size) (hown : wr.ownsRow (B + 1) 56 4 (.slice ao k cap) k xs)
    (d1 : Below wr.heap.size wr W1) (hq1 : W1.heap[q]? = some (.cells qc 66 (0, 0))) (hq2 : q < W1.heap.size) (hq3 : wr.heap.size ≤ q)
    (q22 : qc[22]? = some (.int .u64 (ns h))) (q23 : qc[23]? = some (.int .i64 (sc h))) (q24 : qc[24]? = some (.pointer none))
    (b2 : Below W1.drew.heap.size W1.drew w2)
    (hown3 : w3.ownsRow (B + 1) 56 4 (.slice (some ⟨g, 0, none⟩) (k + 1) cap') (k + 1) (xs ++ [.pointer (some ⟨q, 0, none⟩), .int .u64 (ns u), .int .i64 (sc u), .pointer none]))
    (hgrow : (w2.alloc o).grownBy w3 (Value.slice ao k cap).ownBlock) (hu : us.getD k 0 = u) (hh : hs.getD k 0 = h)
    (gW : w3.cell? ⟨B, 35, none⟩ = some v) (gF : w3.frozen? ⟨B, 35, none⟩ = false) :
    Bld B w (w3.setCell ⟨B, 35, none⟩ (.slice (some ⟨g, 0, none⟩) (k + 1) cap')) us hs (k + 1) := by
  have s1 := d1.size
  have s2 : W1.heap.size ≤ w2.heap.size := b2.size
  have s3 := hgrow.size
  rw [World.size_alloc] at s3
  have hl : xs.length = k * 4 := hown.1
  have old : ∀ b, b < W1.heap.size → some b ≠ (Value.slice ao k cap).ownBlock → b ≠ B → (w3.setCell ⟨B, 35, none⟩ (.slice (some ⟨g, 0, none⟩) (k + 1) cap')).heap[b]? = W1.heap[b]? := by
    intro b hb hne hB
    rw [Below.heap_setCell _ _ _ _ hB, hgrow.block b (by rw [World.size_alloc]; omega) hne, Below.heap_alloc _ _ _ (by omega)]
    exact b2.block b hb
  refine ⟨_, _, _, fun i => if i < k then Q i else q, World.cell?_setCell_same _ _ _ gW, (World.frozen?_setCell _ _ _ _).trans gF, by simp; omega, ownsRow_setCell_below hown3 (Nat.lt_succ_self B) _, fun i hi => ?_, ?_⟩
  · by_cases hik : i < k
    · obtain ⟨e1, e2, e3⟩ := hents i hik
      have hlt := e3.lt
      dsimp only
      rw [if_pos hik]
      exact ⟨ent_old e1 hl hik, e2, e3.of_block ((old (Q i) (by omega) (e3.not_own hown) (by omega)).trans (d1.block _ hlt))⟩
    · obtain rfl : i = k := by omega
      dsimp only
      rw [if_neg hik, hu, hh]
      have hne : some q ≠ (Value.slice ao i cap).ownBlock := fun e => by
        have := (own_lt hown e.symm).2
        omega
      exact ⟨ent_new hl, by omega, qc, (old q hq2 hne (by omega)).trans hq1, q22, q23, q24⟩
  · have c1 : Below B w W1 := hbel.trans (d1.mono (by omega))
    have c2 : Below B w w2 := (c1.drew).trans (b2.mono (by show B ≤ W1.heap.size; omega))
    have c3 : Below B w w3 := (c2.alloc (by omega) o).grown hgrow (by rw [World.size_alloc]; omega) (fun b hb => by have := (own_lt hown hb).1; omega)
    exact c3.setCell (Nat.le_refl _) _

set_option maxRecDepth 100000 in
set_option maxHeartbeats 1000000 in
/-- The statement 'w.held = append(w.held, heldAsking{q: q, until: zzAt(until[i])})', in a world that is a letter. -/
theorem window_any (bu ou bh oh n cu ch : Nat) (us hs : List Int) (w : World) (hn : n ≤ 65536) 
    (hbu : bu < w.heap.size) (hbh : bh < w.heap.size)
    (hu : ∀ i, i < n → w.cell? ⟨bu, ou + i, none⟩ = some (.int .i64 (us.getD i 0))) (hh : ∀ i, i < n → w.cell? ⟨bh, oh + i, none⟩ = some (.int .i64 (hs.getD i 0)))
    (fu : Fits us) (fh : Fits hs) :
    Calls Trym.prog 8 #[.slice (some ⟨bu, ou, none⟩) n cu, .slice (some ⟨bh, oh, none⟩) n ch] w fun e w' => e = .returned (.pointer (some ⟨w.heap.size, 0, none⟩)) ∧ Bld w.heap.size w w' us hs n := by
  obtain ⟨cs, hcs, h35, hsz⟩ := zero59
  obtain ⟨i0, hi0, hz0, hz1, hz2⟩ := info_parts info56
  go_enter Trym.func8, Trym.ntmps8
  go_wp2
  go_loopw [6] (fun i wr => ∃ k : Nat, k ≤ n ∧ i = .int .i64 k ∧ Bld w.heap.size w wr us hs k) (fun i _ => n - (intOf i).toNat)
  case atStart => exact ⟨0, Nat.zero_le _, rfl, bld_start w cs us hs h35⟩
  case round =>
    obtain ⟨k, hk, rfl, ao, cap, xs, Q, hW, hWf, hWl, hown, hents, hbel⟩ := hrel
    by_cases hlt : k < n
    · have cu' := (hbel.cell (p := ⟨bu, ou + k, none⟩) hbu).trans (hu k hlt)
      have ch' := (hbel.cell (p := ⟨bh, oh + k, none⟩) hbh).trans (hh k hlt)
      clear hu hh hcs
      obtain ⟨qc, hqc, q22, q23, q24⟩ := q66 (ns (hs.getD k 0)) (sc (hs.getD k 0))
      have fuk := fu k
      have fhk := fh k
      have HE : Hid (∀ i, i < k → Ent xs (Q i) i (us.getD i 0) ∧ w.heap.size < Q i ∧ QB wr (Q i) (hs.getD i 0)) := hents
      clear hents
      generalize hhk : hs.getD k 0 = h at *
      generalize huk : us.getD k 0 = u at *
      have HH : Hid (hs.getD k 0 = h) := hhk
      have HU : Hid (us.getD k 0 = u) := huk
      clear hhk huk
      obtain ⟨fu0, fu1⟩ := fuk
      obtain ⟨fh0, fh1⟩ := fhk
      go_wp2_with fail
      refine (at_any _ _ fh0 fh1).mono ?_
      rintro e w1 ⟨rfl, b1⟩
      go_wp2_with fail
      clear hqc
      have d1 : Below wr.heap.size wr (w1.alloc (.cells qc 66)) := b1.alloc b1.size _
      have hq1 : (w1.alloc (.cells qc 66)).heap[w1.heap.size]? = some (.cells qc 66 (0, 0)) := heap_alloc_new w1 _
      have hq2 : w1.heap.size < (w1.alloc (.cells qc 66)).heap.size := by simp
      have hq3 : wr.heap.size ≤ w1.heap.size := b1.size
      generalize w1.alloc (.cells qc 66) = W1 at *
      generalize w1.heap.size = q at *
      clear b1
      have eW := (d1.cell (p := ⟨w.heap.size, 35, none⟩) hWl).trans hW
      have eF := (d1.frozen (p := ⟨w.heap.size, 35, none⟩) hWl).trans hWf
      have eU := (d1.cell (p := ⟨bu, ou + k, none⟩) (by show bu < _; have := hbel.size; omega)).trans cu'
      have hown1 := ownsRow_below hown d1
      have hsz1 : w.heap.size < W1.heap.size := by have := d1.size; omega
      have hbu1 : bu < W1.heap.size := by omega
      have nown : (Value.slice ao k cap).ownBlock ≠ some w.heap.size := by
        rcases hown.2 with ⟨hv, _⟩ | ⟨g, c, cur, hv, hg, _⟩
        · rw [hv]; simp [Value.ownBlock]
        · rw [hv]; simp [Value.ownBlock]; omega
      have nownu : (Value.slice ao k cap).ownBlock ≠ some bu := by
        rcases hown.2 with ⟨hv, _⟩ | ⟨g, c, cur, hv, hg, _⟩
        · rw [hv]; simp [Value.ownBlock]
        · rw [hv]; simp [Value.ownBlock]; omega
      clear hW hWf cu' ch'
      have hk0 : (0 : Int) ≤ (k : Int) := Int.natCast_nonneg _
      have hk1 : (k : Int) < (n : Int) := by omega
      go_region_law (first | (refine step_append_lies _ (by rfl) _ _ _ (by rfl) (w.heap.size + 1) 56 i0 _ 4 32 Trym.underlying52 hi0 hz0 hz1 hz2 rfl (by omega) (.slice ao k cap) k xs (by rfl) ((ownsRow_below hown1.drew b2).alloc _) ⟨w2.heap.size, 0, none⟩ 1 1 [.pointer (some ⟨q, 0, none⟩), .int .u64 (ns u), .int .i64 (sc u), .pointer none] (by rfl) (by rfl) (World.news_of_block (cs := #[.pointer (some ⟨q, 0, none⟩), .int .u64 (ns u), .int .i64 (sc u), .pointer none]) (t := 56) (fr := (0, 0)) (heap_alloc_new w2 _)) (by simp [Value.oneCell']) (by omega) (by unfold maxLen; omega) (by omega) (by rw [World.size_alloc]; omega) (w2.heap.size + 1) (by simp) ?_; intro g cap' w3 hown3 hgrow hat hlt3; have gW := (hgrow.cell_far ⟨w.heap.size, 35, none⟩ (by rw [World.size_alloc]; exact Nat.lt_succ_of_lt hs2) (Ne.symm nown)); have gF := (hgrow.frozen_far ⟨w.heap.size, 35, none⟩ (by rw [World.size_alloc]; exact Nat.lt_succ_of_lt hs2) (Ne.symm nown))) | (go_simp; go_at_call 22; refine (at_any u _ fu0 fu1).mono ?_; rintro e w2 ⟨rfl, b2⟩; have fW := (b2.cell (p := ⟨w.heap.size, 35, none⟩) hsz1).trans eW; have fF := (b2.frozen (p := ⟨w.heap.size, 35, none⟩) hsz1).trans eF; have hs2 : w.heap.size < w2.heap.size := Nat.lt_of_lt_of_le hsz1 b2.size))
      all_goals
        have R := bld_step HE.out hbel hWl hown d1 hq1 hq2 hq3 q22 q23 q24 b2 hown3 hgrow HU.out HH.out (gW.trans ((World.cell?_alloc_lt _ _ _ hs2).trans fW)) (gF.trans ((frozen?_alloc_cells _ _ _ _).trans fF))
        clear HE hbel hWl hown d1 hq1 hq2 hq3 q22 q23 q24 b2 hown3 hgrow HU HH gW gF fW fF eW eF eU hown1 hat
        go_wp2
        go_roundw
        case rel => exact ⟨k + 1, by omega, by go_num, R⟩
        case measure => simp [intOf]; omega
    · obtain rfl : k = n := by omega
      go_wp2
      go_ret
      exact ⟨rfl, ao, cap, xs, Q, hW, hWf, hWl, hown, hents, hbel⟩
end Go.Proofs.Qxb6615885aMods.Win
