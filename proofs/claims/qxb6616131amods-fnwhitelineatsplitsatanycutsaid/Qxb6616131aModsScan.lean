/-
  Contracts of the scanner's functions: at (24), breakAt (23), whiteLineAt (20), ZZwhiteLineAt (13), ZZnewYamlScanner (14); of the laws' own: blankOnToBreak (16), containsBreak (15), cloneBytes (12), the bounds on lengths (11, 17). The plain notion: 'wl g i m': from byte i on, m bytes left: the first byte that is neither a space nor a tab is a line break, or there is none.
-/
import Derived.Test.Qxb6616131aModsRows
import Derived.WalkKit
import Derived.ProofKit
import Derived.OpenShut
import Derived.BigQuiet
import Derived.Deep.QuietTactic
import Derived.WalkSpells
import Derived.WalkSmall
import Derived.Deep.OwnRows
namespace Go.Proofs.Qxb6616131aMods.Scan
open Go.ChangeShapes Go.WideShapes Go.ChangeAt Go.RowKit

theorem hide {p : Prop} (h : p) : Hid p := h
theorem unhide {p : Prop} (h : Hid p) : p := h
theorem ret_bool {a b : Bool} (h : a = b) : Ending.returned (.bool a) = .returned (.bool b) := by rw [h]
theorem ret_int {k : IntKind} {a b : Int} (h : a = b) : Ending.returned (.int k a) = .returned (.int k b) := by rw [h]

def brk (c : Int) : Bool := c == 13 || c == 10
def blk (c : Int) : Bool := c == 32 || c == 9

def wl (g : Nat → Int) : Nat → Nat → Bool
  | _, 0 => true
  | i, m + 1 => if brk (g i) then true else if blk (g i) then wl g (i + 1) m else false

/-- The text: n bytes, at block b from offset o on. -/
structure Txt (w : World) (ao : Option Addr) (n b o : Nat) (g : Nat → Int) : Prop where
  adr : 0 < n → ao = some ⟨b, o, none⟩
  txt : ∀ i, i < n → w.cell? ⟨b, o + i, none⟩ = some (.int .u8 (g i))

/-- The scanner at block B, over n bytes, at place p. -/
structure Scn (w : World) (B : Nat) (ao : Option Addr) (n cap p b o : Nat) (g : Nat → Int) : Prop where
  src : w.cell? ⟨B, 0, none⟩ = some (.slice ao n cap)
  pos : w.cell? ⟨B, 1, none⟩ = some (.int .i64 p)
  T : Txt w ao n b o g

theorem Txt.drewN {w : World} {ao : Option Addr} {n b o : Nat} {g : Nat → Int} (T : Txt w ao n b o g) (c : Nat) : Txt (w.drewN c) ao n b o g := ⟨T.adr, T.txt⟩
theorem Scn.drewN {w : World} {ao : Option Addr} {B n cap p b o : Nat} {g : Nat → Int} (S : Scn w B ao n cap p b o g) (c : Nat) : Scn (w.drewN c) B ao n cap p b o g := ⟨S.src, S.pos, S.T.drewN c⟩

theorem at_in (w : World) (B n cap p k b o : Nat) (ao : Option Addr) (g : Nat → Int) (S : Scn w B ao n cap p b o g) (hn : n ≤ 1048576) (hk : p + k < n) (v : Int) (hv : g (p + k) = v) :
    Calls Trym.prog 24 #[.pointer (some ⟨B, 0, none⟩), .int .i64 k] w fun e w' => e = .returned (.int .u8 v) ∧ ∃ c, w' = w.drewN c := by
  obtain ⟨h0, h1, hT⟩ := S
  obtain rfl := hT.adr (by omega)
  have hc := hT.txt (p + k) hk
  have hl : B < w.heap.size := World.block_lt_of_cell? w _ h0
  have hlb : b < w.heap.size := World.block_lt_of_cell? w _ hc
  rw [hv] at hc
  clear hT hv
  have p0 : (0 : Int) ≤ (p : Int) + (k : Int) := by omega
  have p1 : (p : Int) + (k : Int) < (n : Int) := by omega
  go_enter Trym.func24, Trym.ntmps24
  go_wp2
  go_quiet (fail)
  go_wp2
  go_quiet (fail)
  go_wp2
  go_ret
  exact ⟨rfl, _, World.drewN_drewN _ _ _⟩

theorem break_in (w : World) (B n cap p k b o : Nat) (ao : Option Addr) (g : Nat → Int) (S : Scn w B ao n cap p b o g) (hn : n ≤ 1048576) (hk : p + k < n) (v : Int) (hv : g (p + k) = v) (r : Bool) (hr : brk v = r) :
    Calls Trym.prog 23 #[.pointer (some ⟨B, 0, none⟩), .int .i64 k] w fun e w' => e = .returned (.bool r) ∧ ∃ c, w' = w.drewN c := by
  have ha := at_in w B n cap p k b o ao g S hn hk v hv
  have HA := hide ha
  have HR := hide hr
  clear ha S hv hr
  by_cases h13 : (v == 13) = true
  · go_enter Trym.func23, Trym.ntmps23
    go_wp2_with fail
    refine (unhide HA).mono ?_
    rintro e w1 ⟨rfl, c, rfl⟩
    go_wp2_with fail
    go_ret
    exact ⟨ret_bool (by rw [← unhide HR]; unfold brk; rw [h13]; rfl), _, rfl⟩
  · have h13' : (v == 13) = false := by simpa using h13
    clear h13
    go_enter Trym.func23, Trym.ntmps23
    go_wp2_with fail
    refine (unhide HA).mono ?_
    rintro e w1 ⟨rfl, c, rfl⟩
    go_wp2_with fail
    go_ret
    exact ⟨ret_bool (by rw [← unhide HR]; unfold brk; rw [h13']; rfl), _, rfl⟩

theorem more {w x : World} (h : ∃ c, x = w.drewN c) (n : Nat) : ∃ c, x.drewN n = w.drewN c := by
  obtain ⟨c, rfl⟩ := h
  exact ⟨_, World.drewN_drewN _ _ _⟩

theorem wl_zero (g : Nat → Int) (i : Nat) : wl g i 0 = true := rfl
theorem wl_brk {g : Nat → Int} {i m : Nat} (h : brk (g i) = true) : wl g i m = true := by
  cases m with
  | zero => rfl
  | succ m => rw [wl, if_pos h]
theorem wl_step {g : Nat → Int} {i m : Nat} (hm : 0 < m) (h : brk (g i) = false) (h2 : blk (g i) = true) : wl g i m = wl g (i + 1) (m - 1) := by
  obtain ⟨k, rfl⟩ : ∃ k, m = k + 1 := ⟨m - 1, by omega⟩
  rw [wl, if_neg (by rw [h]; simp), if_pos h2]; rfl
theorem wl_stop {g : Nat → Int} {i m : Nat} (hm : 0 < m) (h : brk (g i) = false) (h2 : blk (g i) = false) : wl g i m = false := by
  obtain ⟨k, rfl⟩ : ∃ k, m = k + 1 := ⟨m - 1, by omega⟩
  rw [wl, if_neg (by rw [h]; simp), if_neg (by rw [h2]; simp)]

set_option maxHeartbeats 1000000 in
theorem white_any (w : World) (B n cap p k b o : Nat) (ao : Option Addr) (g : Nat → Int) (S : Scn w B ao n cap p b o g) (hn : n ≤ 1048576) (hk : p + k ≤ 9223372036854775807) :
    Calls Trym.prog 20 #[.pointer (some ⟨B, 0, none⟩), .int .i64 k] w fun e w' => e = .returned (.bool (wl g (p + k) (n - (p + k)))) ∧ ∃ c, w' = w.drewN c := by
  have h0 := S.src
  have h1 := S.pos
  have hl : B < w.heap.size := World.block_lt_of_cell? w _ h0
  have HS := hide S
  clear S
  go_enter Trym.func20, Trym.ntmps20
  go_wp2
  go_loopw [1] (fun i wr => ∃ q : Nat, i = .int .i64 q ∧ p + q ≤ 9223372036854775807 ∧ wl g (p + k) (n - (p + k)) = wl g (p + q) (n - (p + q)) ∧ ∃ c, wr = w.drewN c) (fun i _ => n - (p + (intOf i).toNat))
  case atStart => exact ⟨k, rfl, hk, rfl, 0, rfl⟩
  case round =>
    obtain ⟨q, rfl, hq, hw, hcw⟩ := hrel
    have HW := hide hw
    have HX := hide hcw
    have SR : Scn wr B ao n cap p b o g := by
      obtain ⟨c, rfl⟩ := hcw
      exact (unhide HS).drewN c
    have r0 := SR.src
    have r1 := SR.pos
    have rl : B < wr.heap.size := World.block_lt_of_cell? wr _ r0
    have HSR := hide SR
    clear hw hcw SR
    by_cases hlt : p + q < n
    · have p0 : (0 : Int) ≤ (p : Int) + (q : Int) := by omega
      have p1 : (p : Int) + (q : Int) < (n : Int) := by omega
      have hB := fun x r hr => break_in (wr.drewN x) B n cap p q b o ao g ((unhide HSR).drewN x) hn hlt _ rfl r hr
      have hA := fun x => at_in (wr.drewN x) B n cap p q b o ao g ((unhide HSR).drewN x) hn hlt _ rfl
      have HB := hide hB
      have HA := hide hA
      have hst := @wl_step g (p + q) (n - (p + q)) (by omega)
      have hsp := @wl_stop g (p + q) (n - (p + q)) (by omega)
      have hbk := @wl_brk g (p + q) (n - (p + q))
      have HST := hide hst
      have HSP := hide hsp
      have HBK := hide hbk
      clear hA hB hst hsp hbk
      generalize g (p + q) = v at *
      cases hb : brk v
      · have HB' := hide (fun x => unhide HB x false hb)
        cases hbl : blk v
        · have h2 : (v == 32) = false ∧ (v == 9) = false := by simpa [blk] using hbl
          have h32 : (v != 32) = true := by simp [bne, h2.1]
          have h9 : (v != 9) = true := by simp [bne, h2.2]
          have HR := hide ((unhide HW).trans (unhide HSP hb hbl))
          clear HST HSP HBK HB HW h2 hb hbl
          go_wp2
          go_quiet ((go_at_call 23; exact Calls.quiet_of (unhide HB' _)))
          go_wp2_with fail
          refine (unhide HA _).mono ?_
          rintro e w2 ⟨rfl, c2, rfl⟩
          go_wp2
          go_ret
          exact ⟨ret_bool (unhide HR).symm, more (unhide HX) _⟩
        · have HR := hide ((unhide HW).trans ((unhide HST hb hbl).trans (by rw [show p + q + 1 = p + (q + 1) by omega, show n - (p + q) - 1 = n - (p + (q + 1)) by omega])))
          clear HST HSP HBK HB HW hb
          by_cases h32 : (v == 32) = true
          · have h32' : (v != 32) = false := by simp [bne, h32]
            clear h32 hbl
            go_wp2
            go_quiet ((go_at_call 23; exact Calls.quiet_of (unhide HB' _)))
            go_wp2_with fail
            refine (unhide HA _).mono ?_
            rintro e w2 ⟨rfl, c2, rfl⟩
            go_wp2
            go_roundw
            case rel => exact ⟨q + 1, by go_num, by omega, unhide HR, more (unhide HX) _⟩
            case measure => simp [intOf]; omega
          · have h32' : (v != 32) = true := by simpa [bne] using h32
            have h9' : (v != 9) = false := by
              have : (v == 9) = true := by simpa [blk, h32] using hbl
              simp [bne, this]
            clear h32 hbl
            go_wp2
            go_quiet ((go_at_call 23; exact Calls.quiet_of (unhide HB' _)))
            go_wp2_with fail
            refine (unhide HA _).mono ?_
            rintro e w2 ⟨rfl, c2, rfl⟩
            go_wp2
            go_roundw
            case rel => exact ⟨q + 1, by go_num, by omega, unhide HR, more (unhide HX) _⟩
            case measure => simp [intOf]; omega
      · have HB' := hide (fun x => unhide HB x true hb)
        have HR := hide ((unhide HW).trans (unhide HBK hb))
        clear HST HSP HBK HB HW hb HA
        go_wp2
        go_quiet ((go_at_call 23; exact Calls.quiet_of (unhide HB' _)))
        go_wp2
        go_ret
        exact ⟨ret_bool (unhide HR).symm, more (unhide HX) _⟩
    · have p1 : decide ((p : Int) + (q : Int) < (n : Int)) = false := decide_eq_false (by omega)
      have hr : wl g (p + k) (n - (p + k)) = true := by rw [unhide HW, show n - (p + q) = 0 by omega]; rfl
      have HR := hide hr
      clear hr HW
      go_wp2
      go_quiet (fail)
      go_wp2
      go_ret
      exact ⟨ret_bool (unhide HR).symm, more (unhide HX) _⟩

theorem zzwhite_any (w : World) (B n cap p k b o : Nat) (ao : Option Addr) (g : Nat → Int) (S : Scn w B ao n cap p b o g) (hn : n ≤ 1048576) (hk : p + k ≤ 9223372036854775807) :
    Calls Trym.prog 13 #[.pointer (some ⟨B, 0, none⟩), .int .i64 k] w fun e w' => e = .returned (.bool (wl g (p + k) (n - (p + k)))) ∧ ∃ c, w' = w.drewN c := by
  have h := hide (white_any w B n cap p k b o ao g S hn hk)
  clear S
  go_enter Trym.func13, Trym.ntmps13
  go_wp2_with fail
  refine (unhide h).mono ?_
  rintro e w1 ⟨rfl, c, rfl⟩
  go_wp2_with fail
  go_ret
  exact ⟨rfl, _, rfl⟩

theorem new_any (ao : Option Addr) (n cap : Nat) (p x y : Int) (w : World) :
    Calls Trym.prog 14 #[.slice ao n cap, .int .i64 p, .int .i64 x, .int .i64 y] w fun e w' => e = .returned (.pointer (some ⟨w.heap.size, 0, none⟩)) ∧ w'.cell? ⟨w.heap.size, 0, none⟩ = some (.slice ao n cap) ∧ w'.cell? ⟨w.heap.size, 1, none⟩ = some (.int .i64 p) ∧ w.heap.size < w'.heap.size ∧ Below w.heap.size w w' := by
  go_enter Trym.func14, Trym.ntmps14
  go_wp2
  go_ret
  exact ⟨rfl, by go_simp, by go_simp, by simp, (Below.refl _ _).alloc (Nat.le_refl _) _⟩

theorem bytes17 (ao : Option Addr) (n cap : Nat) (x y : Int) (w : World) (hn : n ≤ 9223372036854775807) :
    Calls Trym.prog 17 #[.slice ao n cap, .int .i64 x, .int .i64 y] w fun e w' => e = .returned (.bool (decide (n ≤ 1048576))) ∧ w' = w := by
  by_cases k0 : 1048576 < n
  · go_enter Trym.func17, Trym.ntmps17
    go_wp2
    go_ret
    exact ⟨ret_bool (by symm; rw [decide_eq_false_iff_not]; omega), rfl⟩
  · go_enter Trym.func17, Trym.ntmps17
    go_wp2
    go_ret
    exact ⟨ret_bool (by symm; exact decide_eq_true (by omega)), rfl⟩

theorem bytes11 (ao : Option Addr) (n cap : Nat) (x y z : Int) (w : World) (hn : n ≤ 9223372036854775807) :
    Calls Trym.prog 11 #[.slice ao n cap, .int .i64 x, .int .i64 y, .int .i64 z] w fun e w' => e = .returned (.bool (decide (n ≤ 1048576))) ∧ w' = w := by
  by_cases k0 : 1048576 < n
  · go_enter Trym.func11, Trym.ntmps11
    go_wp2
    go_ret
    exact ⟨ret_bool (by symm; rw [decide_eq_false_iff_not]; omega), rfl⟩
  · go_enter Trym.func11, Trym.ntmps11
    go_wp2
    go_ret
    exact ⟨ret_bool (by symm; exact decide_eq_true (by omega)), rfl⟩

/-- blankOnToBreak. -/
theorem blank_any (w : World) (ao : Option Addr) (n cap i b o : Nat) (g : Nat → Int) (T : Txt w ao n b o g) (hn : n ≤ 1048576) (hi : i ≤ 9223372036854775807) :
    Calls Trym.prog 16 #[.slice ao n cap, .int .i64 i] w fun e w' => e = .returned (.bool (wl g i (n - i))) ∧ w' = w := by
  go_enter Trym.func16, Trym.ntmps16
  go_wp2
  go_loop [5] (fun s => ∃ q : Nat, s = .int .i64 q ∧ q ≤ 9223372036854775807 ∧ wl g i (n - i) = wl g q (n - q)) (fun s => n - (intOf s).toNat)
  case atStart => exact ⟨i, rfl, hi, rfl⟩
  case round =>
    obtain ⟨q, rfl, hq, hw⟩ := hrel
    have HW := hide hw
    clear hw
    by_cases hlt : q < n
    · obtain rfl := T.adr (by omega)
      have hc := T.txt q hlt
      have hst := @wl_step g q (n - q) (by omega)
      have hsp := @wl_stop g q (n - q) (by omega)
      have hbk := @wl_brk g q (n - q)
      have HST := hide hst
      have HSP := hide hsp
      have HBK := hide hbk
      clear T hst hsp hbk
      generalize g q = v at *
      by_cases h32 : (v == 32) = true
      · have e : v = 32 := by simpa using h32
        have HR := hide ((unhide HW).trans ((unhide HST (by rw [e]; rfl) (by rw [e]; rfl)).trans (by rw [Nat.sub_sub])))
        clear HST HSP HBK HW e
        go_wp2
        go_round
        case rel => exact ⟨q + 1, by go_num, by omega, unhide HR⟩
        case measure => simp [intOf]; omega
      · have h32' : (v == 32) = false := by simpa using h32
        by_cases h9 : (v == 9) = true
        · have e : v = 9 := by simpa using h9
          have HR := hide ((unhide HW).trans ((unhide HST (by rw [e]; rfl) (by rw [e]; rfl)).trans (by rw [Nat.sub_sub])))
          clear HST HSP HBK HW e h32
          go_wp2
          go_round
          case rel => exact ⟨q + 1, by go_num, by omega, unhide HR⟩
          case measure => simp [intOf]; omega
        · have h9' : (v == 9) = false := by simpa using h9
          have hbl : blk v = false := by unfold blk; rw [h32', h9']; rfl
          by_cases h10 : (v == 10) = true
          · have HR := hide ((unhide HW).trans (unhide HBK (by unfold brk; rw [h10]; simp)))
            clear HST HSP HBK HW h32 h9 hbl
            go_wp2
            go_ret
            exact ⟨ret_bool (unhide HR).symm, rfl⟩
          · have h10' : (v == 10) = false := by simpa using h10
            by_cases h13 : (v == 13) = true
            · have HR := hide ((unhide HW).trans (unhide HBK (by unfold brk; rw [h13]; rfl)))
              clear HST HSP HBK HW h32 h9 h10 hbl
              go_wp2
              go_ret
              exact ⟨ret_bool (unhide HR).symm, rfl⟩
            · have h13' : (v == 13) = false := by simpa using h13
              have HR := hide ((unhide HW).trans (unhide HSP (by unfold brk; rw [h13', h10']; rfl) hbl))
              clear HST HSP HBK HW h32 h9 h10 h13 hbl
              go_wp2
              go_ret
              exact ⟨ret_bool (unhide HR).symm, rfl⟩
    · have HR := hide ((unhide HW).trans (show wl g q (n - q) = true by rw [show n - q = 0 by omega]; rfl))
      clear HW T
      go_wp2
      go_ret
      exact ⟨ret_bool (unhide HR).symm, rfl⟩

/-- Is there a break among the m bytes from i on? -/
def cb (g : Nat → Int) : Nat → Nat → Bool
  | _, 0 => false
  | i, m + 1 => if brk (g i) then true else cb g (i + 1) m

theorem cb_step {g : Nat → Int} {i m : Nat} (hm : 0 < m) (h : brk (g i) = false) : cb g i m = cb g (i + 1) (m - 1) := by
  obtain ⟨k, rfl⟩ : ∃ k, m = k + 1 := ⟨m - 1, by omega⟩
  rw [cb, if_neg (by rw [h]; simp)]; rfl
theorem cb_brk {g : Nat → Int} {i m : Nat} (hm : 0 < m) (h : brk (g i) = true) : cb g i m = true := by
  obtain ⟨k, rfl⟩ : ∃ k, m = k + 1 := ⟨m - 1, by omega⟩
  rw [cb, if_pos h]

/-- containsBreak. -/
theorem cont_any (w : World) (ao : Option Addr) (n cap b o : Nat) (g : Nat → Int) (T : Txt w ao n b o g) (hn : n ≤ 1048576) :
    Calls Trym.prog 15 #[.slice ao n cap] w fun e w' => e = .returned (.bool (cb g 0 n)) ∧ w' = w := by
  go_enter Trym.func15, Trym.ntmps15
  go_wp2
  go_loop [3] (fun s => ∃ q : Nat, s = .int .i64 q ∧ q ≤ n ∧ cb g 0 n = cb g q (n - q)) (fun s => n - (intOf s).toNat)
  case atStart => exact ⟨0, rfl, Nat.zero_le _, rfl⟩
  case round =>
    obtain ⟨q, rfl, hq, hw⟩ := hrel
    have HW := hide hw
    clear hw
    by_cases hlt : q < n
    · obtain rfl := T.adr (by omega)
      have hc := T.txt q hlt
      have HST := hide (@cb_step g q (n - q) (by omega))
      have HBK := hide (@cb_brk g q (n - q) (by omega))
      clear T
      generalize g q = v at *
      by_cases h10 : (v == 10) = true
      · have HR := hide ((unhide HW).trans (unhide HBK (by unfold brk; rw [h10]; simp)))
        clear HST HBK HW
        go_wp2
        go_ret
        exact ⟨ret_bool (unhide HR).symm, rfl⟩
      · have h10' : (v == 10) = false := by simpa using h10
        by_cases h13 : (v == 13) = true
        · have HR := hide ((unhide HW).trans (unhide HBK (by unfold brk; rw [h13]; rfl)))
          clear HST HBK HW h10
          go_wp2
          go_ret
          exact ⟨ret_bool (unhide HR).symm, rfl⟩
        · have h13' : (v == 13) = false := by simpa using h13
          have HR := hide ((unhide HW).trans ((unhide HST (by unfold brk; rw [h13', h10']; rfl)).trans (by rw [Nat.sub_sub])))
          clear HST HBK HW h10 h13
          go_wp2
          go_round
          case rel => exact ⟨q + 1, by go_num, by omega, unhide HR⟩
          case measure => simp [intOf]; omega
    · have HR := hide ((unhide HW).trans (show cb g q (n - q) = false by rw [show n - q = 0 by omega]; rfl))
      clear HW T
      go_wp2
      go_ret
      exact ⟨ret_bool (unhide HR).symm, rfl⟩

theorem info5 : (Trym.prog.info? 5).map (fun i => (i.zero, i.size, i.bytes)) = some (some (.int .u8 0), 1, 1) := by kernel_rfl

theorem clone_nil (n cap : Nat) (w : World) :
    Calls Trym.prog 12 #[.slice none n cap] w fun e w' => e = .returned (.slice none 0 0) ∧ w' = w := by
  have hnil := fun (w : World) => Lib.run_eql_slice_nil (P := Trym.prog) w 29 5 none n cap 0 0 Trym.underlying29
  go_enter Trym.func12, Trym.ntmps12
  go_wp2
  go_ret
  exact ⟨rfl, rfl⟩

set_option maxHeartbeats 1000000 in
theorem clone_any (x : Addr) (n cap : Nat) (zs : List Int) (w : World) (hn : n ≤ 1048576) (h : ∀ i, i < n → w.cell? (x.add i) = some (.int .u8 (zs.getD i 0))) :
    Calls Trym.prog 12 #[.slice (some x) n cap] w fun e w' => e = .returned (.slice (some ⟨w.heap.size, 0, none⟩) n n) ∧ Txt w' (some ⟨w.heap.size, 0, none⟩) n w.heap.size 0 (fun i => zs.getD i 0) ∧ w.heap.size < w'.heap.size ∧ Below w.heap.size w w' := by
  have hnil := fun (w : World) => Lib.run_eql_slice_nil (P := Trym.prog) w 29 5 (some x) n cap 0 0 Trym.underlying29
  have hmk := fun (w : World) => run_make_row' (P := Trym.prog) 29 5 (.int .u8 0) 1 Trym.underlying29 info5 rfl .i64 .i64 n (by omega) (by omega) w
  have H := hide h
  clear h
  go_enter Trym.func12, Trym.ntmps12
  go_wp2
  clear hnil hmk
  go_loopw [4] (fun s wr => ∃ q : Nat, s = .int .i64 q ∧ q ≤ n ∧ (∃ f, wr.rowIs w.heap.size 5 n f ∧ ∀ i, i < q → f i = .int .u8 (zs.getD i 0)) ∧ Below w.heap.size w wr) (fun s _ => n - (intOf s).toNat)
  case atStart => exact ⟨0, rfl, Nat.zero_le _, ⟨_, World.rowIs_made _ _ _ _, fun i hi => absurd hi (by omega)⟩, (Below.refl _ _).alloc (Nat.le_refl _) _⟩
  case round =>
    obtain ⟨q, rfl, hq, ⟨f, hrow, hf⟩, hbel⟩ := hrel
    by_cases hlt : q < n
    · have hc0 := unhide H q hlt
      have hc00 := unhide H 0 (by omega)
      obtain ⟨b, off, spot⟩ := x
      have hsp : spot = none := by simpa [Addr.add] using World.cell?_spot hc00
      subst hsp
      have hb2 : b < w.heap.size := by simpa [Addr.add] using World.block_lt_of_cell? w _ hc00
      have hbl := World.block_lt_of_cell? w _ hc0
      have hcell := (hbel.cell hbl).trans hc0
      rw [Go.WideShapes.add_plain] at hcell
      have hdst := hrow.cell hlt
      have hfr := hrow.frozen q
      have hlw := hrow.lt
      have HR := hide hrow
      have HF := hide hf
      clear hc0 hc00 hbl hrow hf H
      generalize hv : zs.getD q 0 = v at *
      have HV := hide hv
      clear hv
      go_wp2
      go_roundw
      case rel =>
        refine ⟨q + 1, by go_num, by omega, ⟨_, (unhide HR).set q (.int .u8 v), fun i hi => ?_⟩, hbel.setCell (Nat.le_refl _) _⟩
        by_cases hiq : i = q
        · rw [if_pos hiq, hiq, unhide HV]
        · rw [if_neg hiq]; exact unhide HF i (by omega)
      case measure => simp [intOf]; omega
    · obtain rfl : q = n := by omega
      go_wp2
      go_ret
      exact ⟨rfl, ⟨fun _ => rfl, fun i hi => by rw [Nat.zero_add, hrow.cell hi, hf i hi]⟩, hrow.lt, hbel⟩
end Go.Proofs.Qxb6616131aMods.Scan
