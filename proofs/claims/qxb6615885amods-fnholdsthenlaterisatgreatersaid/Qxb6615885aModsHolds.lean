/-
  The contract of '(*window).holds' (23): a window that holds the entries from j on; the entries past or out of date at the front are dropped.
-/
import Derived.Test.Qxb6615885aModsWindow
import Derived.Deep.RegionHeld3
namespace Go.Proofs.Qxb6615885aMods.Win
open Go.ChangeShapes Go.WideShapes Go.ChangeAt Go.RowKit
open Tm

theorem hide {p : Prop} (h : p) : Hid p := h
theorem unhide {p : Prop} (h : Hid p) : p := h

/-- Outside the blocks from lo to hi the world w' is as w was. -/
structure Apart (lo hi : Nat) (w w' : World) : Prop where
  os : w'.os = w.os
  tape : w'.tape = w.tape
  output : w'.output = w.output
  size : w.heap.size ≤ w'.heap.size
  block : ∀ k, k < w.heap.size → (k < lo ∨ hi ≤ k) → w'.heap[k]? = w.heap[k]?

theorem Apart.refl (lo hi : Nat) (w : World) : Apart lo hi w w := ⟨rfl, rfl, rfl, Nat.le_refl _, fun _ _ _ => rfl⟩
theorem Apart.below {lo hi : Nat} {a w w' : World} (h : Apart lo hi a w) (k : Below w.heap.size w w') : Apart lo hi a w' :=
  ⟨k.os.trans h.os, k.tape.trans h.tape, k.output.trans h.output, Nat.le_trans h.size k.size, fun i hi hh => (k.block i (Nat.lt_of_lt_of_le hi h.size)).trans (h.block i hi hh)⟩
theorem Apart.setCell {lo hi : Nat} {a w : World} (h : Apart lo hi a w) {p : Addr} (h1 : lo ≤ p.block) (h2 : p.block < hi) (v : Value) : Apart lo hi a (w.setCell p v) :=
  ⟨h.os, h.tape, h.output, by rw [World.size_setCell]; exact h.size, fun i hi hh => (Below.heap_setCell _ _ _ _ (by omega)).trans (h.block i hi hh)⟩
theorem Apart.cell {lo hi : Nat} {w w' : World} (h : Apart lo hi w w') {p : Addr} (hp : p.block < w.heap.size) (hh : p.block < lo ∨ hi ≤ p.block) : w'.cell? p = w.cell? p := World.cell?_of_block (w := w) (h.block p.block hp hh)
theorem Apart.frozen {lo hi : Nat} {w w' : World} (h : Apart lo hi w w') {p : Addr} (hp : p.block < w.heap.size) (hh : p.block < lo ∨ hi ≤ p.block) : w'.frozen? p = w.frozen? p := World.frozen?_of_block (w := w) (h.block p.block hp hh)
theorem Apart.toBelow {lo hi B : Nat} {w w' : World} (h : Apart lo hi w w') (hB : B ≤ lo) (hs : B ≤ w.heap.size) : Below B w w' := ⟨h.os, h.tape, h.output, h.size, fun k hk => h.block k (by omega) (Or.inl (by omega))⟩

/-- Entry i of the row at block g, its question at block q. -/
structure Entry (w : World) (lo hi B g q i : Nat) (u h : Int) : Prop where
  e0 : w.cell? ⟨g, i * 4, none⟩ = some (.pointer (some ⟨q, 0, none⟩))
  e1 : w.cell? ⟨g, i * 4 + 1, none⟩ = some (.int .u64 (ns u))
  e2 : w.cell? ⟨g, i * 4 + 2, none⟩ = some (.int .i64 (sc u))
  e3 : w.cell? ⟨g, i * 4 + 3, none⟩ = some (.pointer none)
  c0 : w.cell? ⟨q, 22, none⟩ = some (.int .u64 (ns h))
  c1 : w.cell? ⟨q, 23, none⟩ = some (.int .i64 (sc h))
  c2 : w.cell? ⟨q, 24, none⟩ = some (.pointer none)
  lq : lo ≤ q
  hq : q < hi
  qg : q ≠ g
  qB : q ≠ B

/-- An entry hangs on its own seven cells alone. -/
theorem Entry.same {w w' : World} {lo hi B g q i : Nat} {u h : Int} (E : Entry w lo hi B g q i u h) (hg : ∀ o, i * 4 ≤ o → o < i * 4 + 4 → w'.cell? ⟨g, o, none⟩ = w.cell? ⟨g, o, none⟩) (hq : ∀ o, w'.cell? ⟨q, o, none⟩ = w.cell? ⟨q, o, none⟩) : Entry w' lo hi B g q i u h :=
  ⟨(hg _ (by omega) (by omega)).trans E.e0, (hg _ (by omega) (by omega)).trans E.e1, (hg _ (by omega) (by omega)).trans E.e2, (hg _ (by omega) (by omega)).trans E.e3, (hq _).trans E.c0, (hq _).trans E.c1, (hq _).trans E.c2, E.lq, E.hq, E.qg, E.qB⟩

/-- The length of what the window at block B holds. -/
def heldLen (B : Nat) (w : World) : Nat := match w.cell? ⟨B, 35, none⟩ with | some (.slice _ n _) => n | _ => 0

theorem heldLen_of {B n cap : Nat} {w : World} {ao : Option Addr} (h : w.cell? ⟨B, 35, none⟩ = some (.slice ao n cap)) : heldLen B w = n := by unfold heldLen; rw [h]

/-- The window at block B, its blocks all between lo and hi, holds m entries, from j on. -/
structure HeldAt (lo hi B : Nat) (us hs : List Int) (j m : Nat) (w : World) (ao : Option Addr) (cap g : Nat) (Q : Nat → Nat) : Prop where
  lB : lo ≤ B
  hB : B < hi
  top : hi ≤ w.heap.size
  cell : w.cell? ⟨B, 35, none⟩ = some (.slice ao m cap)
  free : w.frozen? ⟨B, 35, none⟩ = false
  room : m ≤ cap
  row : 0 < m → ao = some ⟨g, j * 4, none⟩ ∧ lo ≤ g ∧ g < hi ∧ g ≠ B ∧ ∀ o, w.frozen? ⟨g, o, none⟩ = false
  ents : ∀ i, i < m → Entry w lo hi B g (Q (j + i)) (j + i) (us.getD (j + i) 0) (hs.getD (j + i) 0)

def Held (lo hi B : Nat) (us hs : List Int) (j m : Nat) (w : World) : Prop := ∃ ao cap g Q, HeldAt lo hi B us hs j m w ao cap g Q

/-- It stays while none of its blocks turns. -/
theorem HeldAt.same {lo hi B j m cap g : Nat} {us hs : List Int} {w w' : World} {ao : Option Addr} {Q : Nat → Nat} (H : HeldAt lo hi B us hs j m w ao cap g Q) (hb : ∀ k, lo ≤ k → k < hi → w'.heap[k]? = w.heap[k]?) (hs' : w.heap.size ≤ w'.heap.size) : HeldAt lo hi B us hs j m w' ao cap g Q := by
  have hc : ∀ k o, lo ≤ k → k < hi → w'.cell? ⟨k, o, none⟩ = w.cell? ⟨k, o, none⟩ := fun k o h1 h2 => World.cell?_of_block (w := w) (a := ⟨k, o, none⟩) (hb k h1 h2)
  have hf : ∀ k o, lo ≤ k → k < hi → w'.frozen? ⟨k, o, none⟩ = w.frozen? ⟨k, o, none⟩ := fun k o h1 h2 => World.frozen?_of_block (w := w) (a := ⟨k, o, none⟩) (hb k h1 h2)
  refine ⟨H.lB, H.hB, Nat.le_trans H.top hs', (hc _ _ H.lB H.hB).trans H.cell, (hf _ _ H.lB H.hB).trans H.free, H.room, fun hm => ?_, fun i hi' => ?_⟩
  · obtain ⟨r1, r2, r3, r4, r5⟩ := H.row hm
    exact ⟨r1, r2, r3, r4, fun o => (hf _ _ r2 r3).trans (r5 o)⟩
  · obtain ⟨r1, r2, r3, r4, r5⟩ := H.row (by omega)
    exact (H.ents i hi').same (fun o _ _ => hc _ _ r2 r3) (fun o => hc _ _ (H.ents i hi').lq (H.ents i hi').hq)

theorem Held.below {lo hi B j m : Nat} {us hs : List Int} {w w' : World} (H : Held lo hi B us hs j m w) (hb : Below w.heap.size w w') : Held lo hi B us hs j m w' := by
  obtain ⟨ao, cap, g, Q, H⟩ := H
  exact ⟨ao, cap, g, Q, H.same (fun k _ h2 => hb.block k (Nat.lt_of_lt_of_le h2 H.top)) hb.size⟩

theorem Held.apart {lo hi lo' hi' B j m : Nat} {us hs : List Int} {w w' : World} (H : Held lo hi B us hs j m w) (hb : Apart lo' hi' w w') (hd : hi ≤ lo' ∨ hi' ≤ lo) : Held lo hi B us hs j m w' := by
  obtain ⟨ao, cap, g, Q, H⟩ := H
  exact ⟨ao, cap, g, Q, H.same (fun k h1 h2 => hb.block k (Nat.lt_of_lt_of_le h2 H.top) (by omega)) hb.size⟩

/-- What was built is held. -/
theorem Bld.held {B n : Nat} {w w' : World} {us hs : List Int} (h : Bld B w w' us hs n) : Held B w'.heap.size B us hs 0 n w' := by
  obtain ⟨ao, cap, xs, Q, hW, hWf, hWl, hown, hents, hbel⟩ := h
  rcases hown.2 with ⟨hv, h0⟩ | ⟨g, c, cur, hv, hg, hh, h1, h2, h3, h4⟩
  · subst h0
    exact ⟨ao, cap, 0, Q, Nat.le_refl _, hWl, Nat.le_refl _, hW, hWf, Nat.zero_le _, fun h => absurd h (by omega), fun i hi => absurd hi (by omega)⟩
  · have hv' := hv
    simp only [Value.slice.injEq] at hv'
    obtain ⟨ha, _, hcap⟩ := hv'
    subst ha hcap
    have hglt := lt_of_block hh
    have hcell : ∀ j v, xs[j]? = some v → w'.cell? ⟨g, j, none⟩ = some v := fun j v hx => by
      rw [← h4, List.getElem?_take] at hx
      split at hx
      · simp [World.cell?, hh]; simpa using hx
      · cases hx
    refine ⟨_, cap, g, Q, Nat.le_refl _, hWl, Nat.le_refl _, hW, hWf, h1, fun _ => ⟨by simp, by omega, hglt, by omega, fun o => by simp [World.frozen?, hh]⟩, fun i hi => ?_⟩
    rw [Nat.zero_add]
    obtain ⟨⟨a0, a1, a2, a3⟩, a4, a5⟩ := hents i hi
    have hqlt := a5.lt
    have hne : Q i ≠ g := fun e => a5.not_own hown (by simp [Value.ownBlock, e])
    obtain ⟨qc, b0, b1, b2, b3⟩ := a5
    exact ⟨hcell _ _ a0, hcell _ _ a1, hcell _ _ a2, hcell _ _ a3, by simp [World.cell?, b0, b1], by simp [World.cell?, b0, b2], by simp [World.cell?, b0, b3], by omega, hqlt, hne, by omega⟩

theorem set_far (w : World) (p q : Addr) (v : Value) (h : p.block ≠ q.block ∨ p.off ≠ q.off) : (w.setCell p v).cell? q = w.cell? q :=
  World.cell?_setCell_other _ _ _ _ (by rintro rfl; rcases h with h | h <;> exact h rfl)

/-- The front entry dropped. -/
theorem HeldAt.drop {lo hi B j m cap g : Nat} {us hs : List Int} {w : World} {Q : Nat → Nat} {ao ao' : Option Addr} (H : HeldAt lo hi B us hs j (m + 1) w ao cap g Q) (v0 v1 v2 v3 : Value) (hao : 0 < m → ao' = some ⟨g, (j + 1) * 4, none⟩) :
    HeldAt lo hi B us hs (j + 1) m (((((w.setCell ⟨g, j * 4, none⟩ v0).setCell ⟨g, j * 4 + 1, none⟩ v1).setCell ⟨g, j * 4 + 2, none⟩ v2).setCell ⟨g, j * 4 + 3, none⟩ v3).setCell ⟨B, 35, none⟩ (.slice ao' m (cap - 1))) ao' (cap - 1) g Q := by
  obtain ⟨r1, r2, r3, r4, r5⟩ := H.row (by omega)
  have hB : ∀ (x : World) o v, (x.setCell ⟨g, o, none⟩ v).cell? ⟨B, 35, none⟩ = x.cell? ⟨B, 35, none⟩ := fun x o v => set_far _ _ _ _ (Or.inl r4)
  have hq : ∀ q, q ≠ g → q ≠ B → ∀ o, (((((w.setCell ⟨g, j * 4, none⟩ v0).setCell ⟨g, j * 4 + 1, none⟩ v1).setCell ⟨g, j * 4 + 2, none⟩ v2).setCell ⟨g, j * 4 + 3, none⟩ v3).setCell ⟨B, 35, none⟩ (.slice ao' m (cap - 1))).cell? ⟨q, o, none⟩ = w.cell? ⟨q, o, none⟩ := fun q h1 h2 o =>
    (set_far _ _ _ _ (Or.inl h2.symm)).trans ((set_far _ _ _ _ (Or.inl h1.symm)).trans ((set_far _ _ _ _ (Or.inl h1.symm)).trans ((set_far _ _ _ _ (Or.inl h1.symm)).trans (set_far _ _ _ _ (Or.inl h1.symm)))))
  have hg : ∀ o, j * 4 + 4 ≤ o → (((((w.setCell ⟨g, j * 4, none⟩ v0).setCell ⟨g, j * 4 + 1, none⟩ v1).setCell ⟨g, j * 4 + 2, none⟩ v2).setCell ⟨g, j * 4 + 3, none⟩ v3).setCell ⟨B, 35, none⟩ (.slice ao' m (cap - 1))).cell? ⟨g, o, none⟩ = w.cell? ⟨g, o, none⟩ := fun o ho =>
    (set_far _ _ _ _ (Or.inl r4.symm)).trans ((set_far _ _ _ _ (Or.inr (by show j * 4 + 3 ≠ o; omega))).trans ((set_far _ _ _ _ (Or.inr (by show j * 4 + 2 ≠ o; omega))).trans ((set_far _ _ _ _ (Or.inr (by show j * 4 + 1 ≠ o; omega))).trans (set_far _ _ _ _ (Or.inr (by show j * 4 ≠ o; omega))))))
  have hroom := H.room
  refine ⟨H.lB, H.hB, by simpa using H.top, World.cell?_setCell_same _ _ _ (u := .slice ao (m + 1) cap) (by rw [hB, hB, hB, hB]; exact H.cell), by simpa using H.free, by omega, fun hm => ⟨hao hm, r2, r3, r4, fun o => by simpa using r5 o⟩, fun i hi' => ?_⟩
  have E := H.ents (1 + i) (by omega)
  rw [← Nat.add_assoc] at E
  exact E.same (fun o h1 _ => hg o (by omega)) (fun o => hq _ E.qg E.qB o)

/-- Entry i is current at t. -/
def cur (us hs : List Int) (t : Int) (i : Nat) : Bool := (hs.getD i 0 == us.getD i 0) && decide (t < us.getD i 0)

/-- How many of the m entries from j on are dropped at t. -/
def skip (us hs : List Int) (t : Int) : Nat → Nat → Nat
  | _, 0 => 0
  | j, m + 1 => if cur us hs t j then 0 else 1 + skip us hs t (j + 1) m

theorem skip_le (us hs : List Int) (t : Int) : ∀ m j, skip us hs t j m ≤ m
  | 0, _ => Nat.le_refl _
  | m + 1, j => by
    unfold skip
    have := skip_le us hs t m (j + 1)
    split <;> omega

/-- What a round that drops leaves. -/
theorem round_drop {lo hi B j m cap g N : Nat} {us hs : List Int} {w x : World} {Q : Nat → Nat} {ao ao' : Option Addr} {a0 a1 a2 : Value} (HX : HeldAt lo hi B us hs j (m + 1) x ao cap g Q) (v0 v1 v2 v3 : Value) (hao : 0 < m → ao' = some ⟨g, (j + 1) * 4, none⟩)
    (hap : Apart lo hi w x) (hiw : hi ≤ N) (hN : N < x.heap.size) (n0 : x.cell? ⟨N, 0, none⟩ = some a0) (n1 : x.cell? ⟨N, 1, none⟩ = some a1) (n2 : x.cell? ⟨N, 2, none⟩ = some a2) (y : World)
    (hy : y = ((((x.setCell ⟨g, j * 4, none⟩ v0).setCell ⟨g, j * 4 + 1, none⟩ v1).setCell ⟨g, j * 4 + 2, none⟩ v2).setCell ⟨g, j * 4 + 3, none⟩ v3).setCell ⟨B, 35, none⟩ (.slice ao' m (cap - 1))) :
    Held lo hi B us hs (j + 1) m y ∧ Apart lo hi w y ∧ N < y.heap.size ∧ y.cell? ⟨N, 0, none⟩ = some a0 ∧ y.cell? ⟨N, 1, none⟩ = some a1 ∧ y.cell? ⟨N, 2, none⟩ = some a2 ∧ heldLen B y = m := by
  obtain ⟨r1, r2, r3, r4, r5⟩ := HX.row (by omega)
  have hB := HX.hB
  have far : ∀ o, y.cell? ⟨N, o, none⟩ = x.cell? ⟨N, o, none⟩ := fun o => by
    rw [hy]
    exact (set_far _ _ _ _ (Or.inl (by show B ≠ N; omega))).trans ((set_far _ _ _ _ (Or.inl (by show g ≠ N; omega))).trans ((set_far _ _ _ _ (Or.inl (by show g ≠ N; omega))).trans ((set_far _ _ _ _ (Or.inl (by show g ≠ N; omega))).trans (set_far _ _ _ _ (Or.inl (by show g ≠ N; omega))))))
  have H2 := HX.drop v0 v1 v2 v3 hao
  rw [← hy] at H2
  refine ⟨⟨_, _, _, _, H2⟩, ?_, ?_, (far 0).trans n0, (far 1).trans n1, (far 2).trans n2, heldLen_of H2.cell⟩
  · rw [hy]
    exact ((((hap.setCell (p := ⟨g, _, none⟩) r2 r3 _).setCell (p := ⟨g, _, none⟩) r2 r3 _).setCell (p := ⟨g, _, none⟩) r2 r3 _).setCell (p := ⟨g, _, none⟩) r2 r3 _).setCell (p := ⟨B, _, none⟩) HX.lB HX.hB _
  · rw [hy]; simpa using hN

set_option maxRecDepth 100000 in
set_option maxHeartbeats 1000000 in
theorem holds_any (lo hi B j m : Nat) (us hs : List Int) (t : Int) (w : World) (H : Held lo hi B us hs j m w) (_hm : m ≤ 65536) :
    Calls Trym.prog 23 #[.pointer (some ⟨B, 0, none⟩), .agg #[.int .u64 (ns t), .int .i64 (sc t), .pointer none]] w fun e w' => e = .returned (.bool (decide (skip us hs t j m < m))) ∧ Held lo hi B us hs (j + skip us hs t j m) (m - skip us hs t j m) w' ∧ Apart lo hi w w' := by
  have hiw : hi ≤ w.heap.size := by obtain ⟨_, _, _, _, H⟩ := H; exact H.top
  go_enter Trym.func23, Trym.ntmps23
  go_wp2
  go_loopw [4] (fun r wr => r = .bool false ∧ ∃ j' m', j' + m' = j + m ∧ skip us hs t j m + j = skip us hs t j' m' + j' ∧ Held lo hi B us hs j' m' wr ∧ Apart lo hi w wr ∧ w.heap.size < wr.heap.size ∧
      wr.cell? ⟨w.heap.size, 0, none⟩ = some (.int .u64 (ns t)) ∧ wr.cell? ⟨w.heap.size, 1, none⟩ = some (.int .i64 (sc t)) ∧ wr.cell? ⟨w.heap.size, 2, none⟩ = some (.pointer none)) (fun _ wr => heldLen B wr)
  case atStart =>
    refine ⟨rfl, j, m, rfl, rfl, H.below ((Below.refl _ _).alloc (Nat.le_refl _) _), (Apart.refl _ _ _).below ((Below.refl _ _).alloc (Nat.le_refl _) _), by simp, by go_simp, by go_simp, by go_simp⟩
  case round =>
    obtain ⟨rfl, j', m', hjm, hsk, H', hap, hsz, n0, n1, n2⟩ := hrel
    have HS : Hid (skip us hs t j m + j = skip us hs t j' m' + j') := hsk
    have HJ : Hid (j' + m' = j + m) := hjm
    clear hsk hjm
    rcases m' with _ | m'
    · obtain ⟨ao, cap, g, Q, H1⟩ := H'
      have hW := H1.cell
      have hw2 : B < wr.heap.size := World.block_lt_of_cell? wr _ hW
      have hs0 : skip us hs t j m = m := by
        have h1 := HS.out
        have h2 := HJ.out
        have h3 : skip us hs t j' 0 = 0 := rfl
        omega
      have hret : (false : Bool) = decide (skip us hs t j m < m) := by rw [hs0]; simp
      have hend : Held lo hi B us hs (j + skip us hs t j m) (m - skip us hs t j m) wr := by
        have h2 := HJ.out
        rw [hs0, Nat.sub_self, show j + m = j' by omega]
        exact ⟨_, _, _, _, H1⟩
      have HR := hide hret
      have HE := hide hend
      clear H1 hs0 hret hend
      go_wp2
      go_ret
      exact ⟨ret_bool (unhide HR), unhide HE, hap⟩
    · obtain ⟨ao, cap, g, Q, H1⟩ := H'
      have E := H1.ents 0 (by omega)
      obtain ⟨r1, r2, r3, r4, r5⟩ := H1.row (by omega)
      have hW := H1.cell
      have hF := H1.free
      have hroom := H1.room
      have hw2 : B < wr.heap.size := World.block_lt_of_cell? wr _ hW
      subst r1
      rw [Nat.add_zero] at E
      obtain ⟨e0, e1, e2, e3, c0, c1, c2, lq, hq, qg, qB⟩ := E
      have l2 : g < wr.heap.size := World.block_lt_of_cell? wr _ e0
      have l3 : Q j' < wr.heap.size := World.block_lt_of_cell? wr _ c0
      have HH : Hid (HeldAt lo hi B us hs j' (m' + 1) wr (some ⟨g, j' * 4, none⟩) cap g Q) := H1
      have HC : Hid (cur us hs t j' = ((hs.getD j' 0 == us.getD j' 0) && decide (t < us.getD j' 0))) := rfl
      clear H1
      generalize hs.getD j' 0 = h at *
      generalize us.getD j' 0 = u at *
      generalize hqq : Q j' = q at *
      clear hqq
      have hlo : (0 : Int) < ((m' + 1 : Nat) : Int) := by omega
      have nbu := ns_bd u
      have nbh := ns_bd h
      have nbt := ns_bd t
      go_wp2
      have d1 : Below wr.heap.size wr (wr.alloc (.cells #[.pointer (some ⟨q, 0, none⟩), .int .u64 (ns u), .int .i64 (sc u), .pointer none] 56)) := (Below.refl _ _).alloc (Nat.le_refl _) _
      have k0 : (wr.alloc (.cells #[.pointer (some ⟨q, 0, none⟩), .int .u64 (ns u), .int .i64 (sc u), .pointer none] 56)).cell? ⟨wr.heap.size, 0, none⟩ = some (.pointer (some ⟨q, 0, none⟩)) := by go_simp
      have k1 : (wr.alloc (.cells #[.pointer (some ⟨q, 0, none⟩), .int .u64 (ns u), .int .i64 (sc u), .pointer none] 56)).cell? ⟨wr.heap.size, 1, none⟩ = some (.int .u64 (ns u)) := by go_simp
      have k2 : (wr.alloc (.cells #[.pointer (some ⟨q, 0, none⟩), .int .u64 (ns u), .int .i64 (sc u), .pointer none] 56)).cell? ⟨wr.heap.size, 2, none⟩ = some (.int .i64 (sc u)) := by go_simp
      have k3 : (wr.alloc (.cells #[.pointer (some ⟨q, 0, none⟩), .int .u64 (ns u), .int .i64 (sc u), .pointer none] 56)).cell? ⟨wr.heap.size, 3, none⟩ = some (.pointer none) := by go_simp
      have ks : wr.heap.size < (wr.alloc (.cells #[.pointer (some ⟨q, 0, none⟩), .int .u64 (ns u), .int .i64 (sc u), .pointer none] 56)).heap.size := by simp
      generalize wr.alloc (.cells #[.pointer (some ⟨q, 0, none⟩), .int .u64 (ns u), .int .i64 (sc u), .pointer none] 56) = V at *
      have x0 := (d1.cell (p := ⟨q, 22, none⟩) l3).trans c0
      have x1 := (d1.cell (p := ⟨q, 23, none⟩) l3).trans c1
      have x2 := (d1.cell (p := ⟨q, 24, none⟩) l3).trans c2
      have y0 := (d1.cell (p := ⟨w.heap.size, 0, none⟩) hsz).trans n0
      have y1 := (d1.cell (p := ⟨w.heap.size, 1, none⟩) hsz).trans n1
      have y2 := (d1.cell (p := ⟨w.heap.size, 2, none⟩) hsz).trans n2
      have z1 : q < V.heap.size := by omega
      have z2 : w.heap.size < V.heap.size := by omega
      clear c0 c1 c2 hW e0 e1 e2 e3
      by_cases heq : h = u
      · subst heq
        have heqB : (sc h == sc h && ns h == ns h) = true := by simp
        go_region_held3 (fun w' => w'.cell? ⟨wr.heap.size, 0, none⟩ = some (.pointer (some ⟨q, 0, none⟩)) ∧ w'.cell? ⟨wr.heap.size, 1, none⟩ = some (.int .u64 (ns h)) ∧ w'.cell? ⟨wr.heap.size, 2, none⟩ = some (.int .i64 (sc h)) ∧ w'.cell? ⟨wr.heap.size, 3, none⟩ = some (.pointer none) ∧
            w'.cell? ⟨q, 22, none⟩ = some (.int .u64 (ns h)) ∧ w'.cell? ⟨q, 23, none⟩ = some (.int .i64 (sc h)) ∧ w'.cell? ⟨q, 24, none⟩ = some (.pointer none) ∧
            w'.cell? ⟨w.heap.size, 0, none⟩ = some (.int .u64 (ns t)) ∧ w'.cell? ⟨w.heap.size, 1, none⟩ = some (.int .i64 (sc t)) ∧ w'.cell? ⟨w.heap.size, 2, none⟩ = some (.pointer none))
          (first
            | (go_keep; done)
            | (go_split_ands
               refine ⟨?_, ?_, ?_, ?_, ?_, ?_, ?_, ?_, ?_, ?_⟩ <;> first
               | (refine (b3.cell ?_).trans (by assumption); have h9 := b2.size; rw [World.size_drew] at h9; simp only []; omega)
               | (refine (b2.cell ?_).trans (by assumption); rw [World.size_drew]; simp only []; omega)))
          ((first
            | (go_at_call 28; refine (equal_any _ _ _ _ _ nbh.1 nbh.2 nbh.1 nbh.2).mono ?_; rintro e w2 ⟨rfl, b2⟩; rw [heqB])
            | (go_at_call 29; refine (after_any _ _ _ _ _ nbh.1 nbh.2 nbt.1 nbt.2).mono ?_; rintro e w3 ⟨rfl, b3⟩; rw [aft_halves])))
        have bX : Below wr.heap.size wr w3 := ((d1.drew).trans (b2.mono (by rw [World.size_drew]; exact d1.size))).trans (b3.mono (by have h9 := b2.size; rw [World.size_drew] at h9; have := d1.size; omega))
        clear b2 b3 d1 k0 k1 k2 k3 ks x0 x1 x2 y0 y1 y2 z1 z2
        by_cases haf : t < h
        · have hcur : cur us hs t j' = true := by rw [HC.out]; simp [haf]
          have hs0 : skip us hs t j m + j = j' := by
            have h1 := HS.out
            have h3 : skip us hs t j' (m' + 1) = 0 := by unfold skip; rw [if_pos hcur]
            omega
          have hret : (true : Bool) = decide (skip us hs t j m < m) := by
            have h2 := HJ.out
            symm; exact decide_eq_true (by omega)
          have hend : Held lo hi B us hs (j + skip us hs t j m) (m - skip us hs t j m) w3 := by
            have h2 := HJ.out
            rw [show j + skip us hs t j m = j' by omega, show m - skip us hs t j m = m' + 1 by omega]
            exact Held.below ⟨_, _, _, _, HH.out⟩ bX
          have hap3 := hap.below bX
          have HR := hide hret
          have HE := hide hend
          clear hs0 hret hend hcur bX HH HC HS HJ
          go_wp2
          go_ret
          exact ⟨ret_bool (unhide HR), unhide HE, hap3⟩
        · have hcur : cur us hs t j' = false := by rw [HC.out]; simp [haf]
          have hst : skip us hs t j m + j = skip us hs t (j' + 1) m' + (j' + 1) := by
            have h1 := HS.out
            have h3 : skip us hs t j' (m' + 1) = 1 + skip us hs t (j' + 1) m' := by rw [skip, if_neg (by rw [hcur]; simp)]
            omega
          have HT := hide hst
          have HX := HH.out.same (fun k _ h2 => bX.block k (Nat.lt_of_lt_of_le h2 HH.out.top)) bX.size
          have HHX := hide HX
          have tW := HX.cell
          have tF := HX.free
          have tG := (HX.row (by omega)).2.2.2.2
          have tE := HX.ents 0 (by omega)
          rw [Nat.add_zero] at tE
          obtain ⟨e0, e1, e2, e3, _, _, _, _, _, _, _⟩ := tE
          have hap3 := hap.below bX
          have lB := HX.lB
          have hB := HX.hB
          have s3 := bX.size
          have hw3 : B < w3.heap.size := by omega
          have hg3 : g < w3.heap.size := by omega
          have n0' := (bX.cell (p := ⟨w.heap.size, 0, none⟩) hsz).trans n0
          have n1' := (bX.cell (p := ⟨w.heap.size, 1, none⟩) hsz).trans n1
          have n2' := (bX.cell (p := ⟨w.heap.size, 2, none⟩) hsz).trans n2
          have HL := hide (heldLen_of HH.out.cell)
          clear HX bX HH HC HS hst hcur hap n0 n1 n2
          have hBg : (B = g) = False := by simp; omega
          have hgB : (g = B) = False := by simp; omega
          by_cases hc1 : cap = 1
          · subst hc1
            obtain rfl : m' = 0 := by omega
            go_wp2
            go_roundw
            case rel =>
              have R := round_drop (unhide HHX) (.pointer none) (.int .u64 0) (.int .i64 0) (.pointer none) (ao' := some ⟨g, j' * 4, none⟩) (fun h => absurd h (by omega)) hap3 hiw (by omega) n0' n1' n2' _ rfl
              exact ⟨rfl, j' + 1, 0, by have := HJ.out; omega, unhide HT, R.1, R.2.1, R.2.2.1, R.2.2.2.1, R.2.2.2.2.1, R.2.2.2.2.2.1⟩
            case measure =>
              have R := round_drop (unhide HHX) (.pointer none) (.int .u64 0) (.int .i64 0) (.pointer none) (ao' := some ⟨g, j' * 4, none⟩) (fun h => absurd h (by omega)) hap3 hiw (by omega) n0' n1' n2' _ rfl
              have h1 := R.2.2.2.2.2.2
              have h2 := unhide HL
              rw [h2]
              exact Nat.lt_of_le_of_lt (Nat.le_of_eq h1) (by omega)
          · go_wp2
            go_roundw
            case rel =>
              have R := round_drop (unhide HHX) (.pointer none) (.int .u64 0) (.int .i64 0) (.pointer none) (ao' := some ⟨g, j' * 4 + 4, none⟩) (fun _ => by rw [Nat.add_mul]) hap3 hiw (by omega) n0' n1' n2' _ rfl
              exact ⟨rfl, j' + 1, m', by have := HJ.out; omega, unhide HT, R.1, R.2.1, R.2.2.1, R.2.2.2.1, R.2.2.2.2.1, R.2.2.2.2.2.1⟩
            case measure =>
              have R := round_drop (unhide HHX) (.pointer none) (.int .u64 0) (.int .i64 0) (.pointer none) (ao' := some ⟨g, j' * 4 + 4, none⟩) (fun _ => by rw [Nat.add_mul]) hap3 hiw (by omega) n0' n1' n2' _ rfl
              have h1 := R.2.2.2.2.2.2
              have h2 := unhide HL
              rw [h2]
              exact Nat.lt_of_le_of_lt (Nat.le_of_eq h1) (by omega)
      · have heqB : (sc h == sc u && ns h == ns u) = false := by rw [eq_halves]; simp [heq]
        first | (go_region_with (first | (go_at_call 28; refine (equal_any _ _ _ _ _ nbh.1 nbh.2 nbu.1 nbu.2).mono ?_; rintro e w3 ⟨rfl, b2⟩; rw [heqB]))) | fail
        all_goals
          have bX : Below wr.heap.size wr w3 := (d1.drew).trans (b2.mono (by rw [World.size_drew]; exact d1.size))
          clear b2 d1 k0 k1 k2 k3 ks x0 x1 x2 y0 y1 y2 z1 z2
          have hcur : cur us hs t j' = false := by rw [HC.out]; simp [heq]
          have hst : skip us hs t j m + j = skip us hs t (j' + 1) m' + (j' + 1) := by
            have h1 := HS.out
            have h3 : skip us hs t j' (m' + 1) = 1 + skip us hs t (j' + 1) m' := by rw [skip, if_neg (by rw [hcur]; simp)]
            omega
          have HT := hide hst
          have HX := HH.out.same (fun k _ h2 => bX.block k (Nat.lt_of_lt_of_le h2 HH.out.top)) bX.size
          have HHX := hide HX
          have tW := HX.cell
          have tF := HX.free
          have tG := (HX.row (by omega)).2.2.2.2
          have tE := HX.ents 0 (by omega)
          rw [Nat.add_zero] at tE
          obtain ⟨e0, e1, e2, e3, _, _, _, _, _, _, _⟩ := tE
          have hap3 := hap.below bX
          have lB := HX.lB
          have hB := HX.hB
          have s3 := bX.size
          have hw3 : B < w3.heap.size := by omega
          have hg3 : g < w3.heap.size := by omega
          have n0' := (bX.cell (p := ⟨w.heap.size, 0, none⟩) hsz).trans n0
          have n1' := (bX.cell (p := ⟨w.heap.size, 1, none⟩) hsz).trans n1
          have n2' := (bX.cell (p := ⟨w.heap.size, 2, none⟩) hsz).trans n2
          have HL := hide (heldLen_of HH.out.cell)
          clear HX bX HH HC HS hst hcur hap n0 n1 n2
          have hBg : (B = g) = False := by simp; omega
          have hgB : (g = B) = False := by simp; omega
          by_cases hc1 : cap = 1
          · subst hc1
            obtain rfl : m' = 0 := by omega
            go_wp2
            go_roundw
            case rel =>
              have R := round_drop (unhide HHX) (.pointer none) (.int .u64 0) (.int .i64 0) (.pointer none) (ao' := some ⟨g, j' * 4, none⟩) (fun h => absurd h (by omega)) hap3 hiw (by omega) n0' n1' n2' _ rfl
              exact ⟨rfl, j' + 1, 0, by have := HJ.out; omega, unhide HT, R.1, R.2.1, R.2.2.1, R.2.2.2.1, R.2.2.2.2.1, R.2.2.2.2.2.1⟩
            case measure =>
              have R := round_drop (unhide HHX) (.pointer none) (.int .u64 0) (.int .i64 0) (.pointer none) (ao' := some ⟨g, j' * 4, none⟩) (fun h => absurd h (by omega)) hap3 hiw (by omega) n0' n1' n2' _ rfl
              have h1 := R.2.2.2.2.2.2
              have h2 := unhide HL
              rw [h2]
              exact Nat.lt_of_le_of_lt (Nat.le_of_eq h1) (by omega)
          · go_wp2
            go_roundw
            case rel =>
              have R := round_drop (unhide HHX) (.pointer none) (.int .u64 0) (.int .i64 0) (.pointer none) (ao' := some ⟨g, j' * 4 + 4, none⟩) (fun _ => by rw [Nat.add_mul]) hap3 hiw (by omega) n0' n1' n2' _ rfl
              exact ⟨rfl, j' + 1, m', by have := HJ.out; omega, unhide HT, R.1, R.2.1, R.2.2.1, R.2.2.2.1, R.2.2.2.2.1, R.2.2.2.2.2.1⟩
            case measure =>
              have R := round_drop (unhide HHX) (.pointer none) (.int .u64 0) (.int .i64 0) (.pointer none) (ao' := some ⟨g, j' * 4 + 4, none⟩) (fun _ => by rw [Nat.add_mul]) hap3 hiw (by omega) n0' n1' n2' _ rfl
              have h1 := R.2.2.2.2.2.2
              have h2 := unhide HL
              rw [h2]
              exact Nat.lt_of_le_of_lt (Nat.le_of_eq h1) (by omega)
end Go.Proofs.Qxb6615885aMods.Win
