/- FnSealSizes: names of content ciphers, the right ones and others. -/
import Derived.Test.YtamakjdeejokpaaGreatLook
import Derived.Test.YtamakjdeejokpaaGreatOpened
import Derived.BigRegion
namespace Go.Proofs.YtamakjdeejokpaaGreat
open Go.RowKit
set_option linter.unusedVariables false

def L1 : List UInt8 := [65, 49, 50, 56, 67, 66, 67, 45, 72, 83, 50, 53, 54]
def L2 : List UInt8 := [65, 49, 57, 50, 67, 66, 67, 45, 72, 83, 51, 56, 52]
def L3 : List UInt8 := [65, 50, 53, 54, 67, 66, 67, 45, 72, 83, 53, 49, 50]
def keyB (b1 b2 b3 : Bool) : Int := if b1 then 32 else if b2 then 48 else if b3 then 64 else 0
def tagB (b1 b2 b3 : Bool) : Int := if b1 then 16 else if b2 then 24 else if b3 then 32 else 0
def kindB (b1 b2 b3 : Bool) : Int := if b1 then 0 else if b2 then 1 else if b3 then 2 else 0

set_option maxRecDepth 100000 in
set_option maxHeartbeats 1000000 in
theorem shape (s : ByteArray) (w : World) (b1 b2 b3 : Bool) (h1 : (s.toList == L1) = b1) (h2 : (s.toList == L2) = b2) (h3 : (s.toList == L3) = b3) :
    Calls Tryz.prog 6 #[.string s] w fun e w' => e = .returned (.tuple #[.int .i64 (keyB b1 b2 b3), .int .i64 (tagB b1 b2 b3), .int .i64 (kindB b1 b2 b3), .bool (b1 || b2 || b3)]) ∧ w = w' := by
  unfold L1 at h1
  unfold L2 at h2
  unfold L3 at h3
  cases b1 <;> cases b2 <;> cases b3
  all_goals
    go_enter Tryz.func6, Tryz.ntmps6
    go_wp2
    (try simp only [Exit.inBlock, Exit.then])
    refine bodyPost_ret (results_tmp4 rfl _ _ _) rfl ?_
    exact ⟨rfl, rfl⟩

set_option maxRecDepth 100000 in
set_option maxHeartbeats 1000000 in
theorem newAES_yes (s : ByteArray) (w : World) (b1 b2 b3 : Bool) (h1 : (s.toList == L1) = b1) (h2 : (s.toList == L2) = b2) (h3 : (s.toList == L3) = b3) (hb : (b1 || b2 || b3) = true) :
    Calls Tryz.prog 12 #[.string s] w fun e w' => 
      ∃ g o, e = .returned (.tuple #[.pointer (some ⟨g, 0, none⟩), .nilIface]) ∧ w.heap.size ≤ g ∧ Row w' g 46 [.nilFunc, o, .int .i64 (keyB b1 b2 b3), .int .i64 (tagB b1 b2 b3)] ∧ Below w.heap.size w w' := by
  unfold L1 at h1
  unfold L2 at h2
  unfold L3 at h3
  cases b1 <;> cases b2 <;> cases b3
  case false.false.false => cases hb
  all_goals
    clear hb
    go_enter Tryz.func12, Tryz.ntmps12
    go_wp2
    go_ret2
    exact ⟨w.heap.size + 1, _, rfl, by omega, Row.new _ _ _ _ (by simp), ((Below.refl _ _).alloc (Nat.le_refl _) _).alloc (by simp) _⟩

set_option maxRecDepth 100000 in
set_option maxHeartbeats 1000000 in
theorem newAES_no (s : ByteArray) (w : World) (h1 : (s.toList == L1) = false) (h2 : (s.toList == L2) = false) (h3 : (s.toList == L3) = false) :
    Calls Tryz.prog 12 #[.string s] w fun e w' => ∃ v, e = .returned (.tuple #[.pointer none, .iface 61 v]) ∧ Below w.heap.size w w' := by
  unfold L1 at h1
  unfold L2 at h2
  unfold L3 at h3
  go_enter Tryz.func12, Tryz.ntmps12
  go_wp2
  go_ret2
  exact ⟨_, rfl, by repeat (first | exact Below.refl _ _ | refine below_alloc ?_ _ | refine Below.drew ?_)⟩

set_option maxRecDepth 100000 in
set_option maxHeartbeats 1000000 in
theorem filled (v : Value) (xs : List Int) (n : Nat) (w : World) (h : Bs w v xs) (hn : n ≤ 1000) (hl : xs.length ≤ 1000) :
    Calls Tryz.prog 8 #[v, .int .i64 n] w fun e w' => ∃ g, e = .returned (.slice (some ⟨g, 0, none⟩) n n) ∧ Below w.heap.size w w' := by
  obtain ⟨p, c, rfl, hc, hnn, hx⟩ := id h
  have Hx := Lib.hid hx
  clear hx h hnn
  go_enter Tryz.func8, Tryz.ntmps8
  go_wp2_with (refine wpl_make rfl _ _ 22 rfl 5 (.int .u8 0) 1 Tryz.underlying22 (by kernel_rfl) rfl _ _ _ n rfl rfl ?c1 ?c2 ?c3 ?_)
  case c1 => omega
  case c2 => omega
  case c3 => unfold maxLen; omega
  intro g w1 hg hrow hsz hb1
  have hgw : w.heap.size ≤ g := Nat.le_of_eq hg.symm
  have Hrow := Lib.hid hrow
  clear hg hsz hrow
  go_wp2_with fail
  go_loopw [11] (fun t wr => ∃ (k : Nat) (cur : List Value), k ≤ n ∧ t = .int .i64 k ∧ cur.length = n ∧ Hid (Row wr g 5 cur) ∧ Below w.heap.size w wr) (fun t _ => n - (intOf t).toNat)
  case atStart => exact ⟨0, _, by omega, rfl, by simp, Hrow, hb1⟩
  case round =>
    obtain ⟨k, cur, hk, rfl, hcl, hrow, hbr⟩ := hrel
    have Hcl := Lib.hid hcl
    clear hcl
    by_cases hlt : k < n
    · obtain ⟨v0, hv0⟩ : ∃ v0, cur[k]? = some v0 := ⟨cur[k]'(by rw [Hcl.out]; exact hlt), by simp⟩
      have hcell : wr.cell? ⟨g, k, none⟩ = some v0 := by rw [hrow.out.cell, hv0]
      have hfr := hrow.out.unfrozen k
      have Hbr := Lib.hid hbr
      clear hbr hv0
      by_cases hpos : 0 < xs.length
      · obtain ⟨b, o, hpe, hcx⟩ := Hx.out hpos
        have hmod := Nat.mod_lt k hpos
        have hcb := hcx (k % xs.length) hmod
        have hcb2 : wr.cell? ⟨b, o + k % xs.length, none⟩ = some (.int .u8 (xs.getD (k % xs.length) 0)) := by
          rw [Hbr.out.cell (World.block_lt_of_cell? w _ hcb)]; exact hcb
        have hlt2 := World.block_lt_of_cell? w _ hcb
        subst hpe
        have hp : (0 : Int) < xs.length := by omega
        have hne : ((xs.length : Int) == 0) = false := beq_eq_false_iff_ne.2 (by omega)
        clear hcb hcx
        go_wp2
        go_region
        all_goals
          go_wp2
          go_roundw
          case rel => exact ⟨k + 1, _, by omega, by go_num, by rw [List.length_set]; exact Hcl.out, hrow.out.set k _, (Hbr.out.setCell hgw _).drew⟩
          case measure => simp [intOf]; omega
      · have hp : ¬ (0 : Int) < xs.length := by omega
        go_wp2
        go_roundw
        case rel => exact ⟨k + 1, cur, by omega, by go_num, Hcl.out, hrow, Hbr.out⟩
        case measure => simp [intOf]; omega
    · have hge : n ≤ k := by omega
      have Hbr := Lib.hid hbr
      clear hbr
      go_wp2
      go_ret
      exact ⟨_, rfl, Hbr.out⟩
set_option maxRecDepth 100000 in
set_option maxHeartbeats 1000000 in
theorem sizes_yes (s : ByteArray) (w : World) (b1 b2 b3 : Bool) (h1 : (s.toList == L1) = b1) (h2 : (s.toList == L2) = b2) (h3 : (s.toList == L3) = b3) (hb : (b1 || b2 || b3) = true) :
    Calls Tryz.prog 5 #[.string s] w fun e w' => 
      e = .returned (.tuple #[.int .i64 (keyB b1 b2 b3), .int .i64 (tagB b1 b2 b3), .bool true]) ∧ Below w.heap.size w w' := by
  have Hn := Lib.hid (newAES_yes s w b1 b2 b3 h1 h2 h3 hb)
  generalize keyB b1 b2 b3 = kb at *
  generalize tagB b1 b2 b3 = tb at *
  clear h1 h2 h3 hb
  have q1 := fun (w : World) => run_neq_nil_nil (P := Tryz.prog) w 37 Tryz.underlying37
  go_enter Tryz.func5, Tryz.ntmps5
  go_wp2_with (go_at_call 12; refine Hn.out.mono ?_; rintro e w1 ⟨g, o, rfl, hg, hrow, hb1⟩)
  have hc0 : w1.cell? ⟨g, 0, none⟩ = some .nilFunc := by rw [hrow.cell]; rfl
  have hc1 : w1.cell? ⟨g, 1, none⟩ = some o := by rw [hrow.cell]; rfl
  have hc2 : w1.cell? ⟨g, 2, none⟩ = some (.int .i64 kb) := by rw [hrow.cell]; rfl
  have hc3 : w1.cell? ⟨g, 3, none⟩ = some (.int .i64 tb) := by rw [hrow.cell]; rfl
  have hgl := hrow.lt
  have Hrow := Lib.hid hrow
  clear hrow
  go_region_with (first
    | (go_at_call 13; refine (keySize _ _ _ _ _).mono ?_; rintro e w' ⟨rfl, rfl⟩)
    | (go_at_call 14; refine (tagSize _ _ _ _ _).mono ?_; rintro e w' ⟨rfl, rfl⟩))
  all_goals (try go_wp2)
  all_goals go_ret3
  all_goals exact ⟨rfl, by repeat (first | exact hb1 | refine below_alloc ?_ _ | refine Below.drew ?_)⟩


set_option maxRecDepth 100000 in
set_option maxHeartbeats 1000000 in
theorem sizes_no (s : ByteArray) (w : World) (h1 : (s.toList == L1) = false) (h2 : (s.toList == L2) = false) (h3 : (s.toList == L3) = false) :
    Calls Tryz.prog 5 #[.string s] w fun e w' => e = .returned (.tuple #[.int .i64 0, .int .i64 0, .bool false]) ∧ Below w.heap.size w w' := by
  have Hn := Lib.hid (newAES_no s w h1 h2 h3)
  clear h1 h2 h3
  have q1 := fun (w : World) (x : Value) => run_neq_held_nil (P := Tryz.prog) w 37 61 x Tryz.underlying37
  go_enter Tryz.func5, Tryz.ntmps5
  go_wp2_with (go_at_call 12; refine Hn.out.mono ?_; rintro e w1 ⟨v, rfl, hb1⟩)
  go_ret3
  exact ⟨rfl, hb1⟩

set_option maxRecDepth 100000 in
set_option maxHeartbeats 1000000 in
theorem sealed_no (s : ByteArray) (v1 v3 v4 : Value) (p : Option Addr) (n c : Nat) (w : World) (h1 : (s.toList == L1) = false) (h2 : (s.toList == L2) = false) (h3 : (s.toList == L3) = false) :
    Calls Tryz.prog 7 #[.string s, v1, .slice p n c, v3, v4] w fun e w' => e = .returned (.tuple #[.slice none 0 0, .slice none 0 0, .slice none 0 0, .bool false]) ∧ Below w.heap.size w w' := by
  have Hn := Lib.hid (newAES_no s (w.alloc (.cells #[.slice p n c] 22)) h1 h2 h3)
  clear h1 h2 h3
  have q1 := fun (w : World) (x : Value) => run_neq_held_nil (P := Tryz.prog) w 37 61 x Tryz.underlying37
  go_enter Tryz.func7, Tryz.ntmps7
  go_wp2_with (go_at_call 12; refine Hn.out.mono ?_; rintro e w1 ⟨v, rfl, hb1⟩)
  (try simp only [Exit.inBlock, Exit.then])
  refine bodyPost_ret (results_tmp4 rfl _ _ _) rfl ?_
  exact ⟨rfl, ((Below.refl _ _).alloc (Nat.le_refl _) _).trans (hb1.mono (by simp))⟩

set_option maxRecDepth 100000 in
set_option maxHeartbeats 1000000 in
theorem opened_no (s : ByteArray) (v1 v2 v3 v4 v5 : Value) (w : World) (h1 : (s.toList == L1) = false) (h2 : (s.toList == L2) = false) (h3 : (s.toList == L3) = false) :
    Calls Tryz.prog 9 #[.string s, v1, v2, v3, v4, v5] w fun e w' => e = .returned (.tuple #[.slice none 0 0, .bool false]) ∧ Below w.heap.size w w' := by
  have Hn := Lib.hid (newAES_no s w h1 h2 h3)
  clear h1 h2 h3
  have q1 := fun (w : World) (x : Value) => run_neq_held_nil (P := Tryz.prog) w 37 61 x Tryz.underlying37
  go_enter Tryz.func9, Tryz.ntmps9
  go_wp2_with (go_at_call 12; refine Hn.out.mono ?_; rintro e w1 ⟨v, rfl, hb1⟩)
  go_ret2
  exact ⟨rfl, hb1⟩

set_option maxRecDepth 100000 in
set_option maxHeartbeats 2000000 in
theorem law_sizes (s : ByteArray) (v : Value) (xs : List Int) (w : World) (h : Bs w v xs) (hs : s.size ≤ maxLen) :
    Calls Tryz.prog 3 #[.string s, v] w fun e w' => e = .returned (.bool true) ∧ Below w.heap.size w w' := by
  obtain ⟨p, c, rfl, hc, hn, hx⟩ := id h
  clear hx hn
  by_cases h1 : 2147483647 < s.size
  · have t1 : (2147483647 : Int) < s.size := by omega
    clear h
    go_enter Tryz.func3, Tryz.ntmps3
    go_wp2
    go_ret
    exact ⟨rfl, Below.refl _ _⟩
  have t1 : ¬ (2147483647 : Int) < s.size := by omega
  by_cases h2 : 2147483647 < xs.length
  · have t2 : (2147483647 : Int) < xs.length := by omega
    clear h
    go_enter Tryz.func3, Tryz.ntmps3
    go_wp2
    go_ret
    exact ⟨rfl, Below.refl _ _⟩
  have t2 : ¬ (2147483647 : Int) < xs.length := by omega
  by_cases h3 : 100 < s.size
  · have t3 : (100 : Int) < s.size := by omega
    clear h
    go_enter Tryz.func3, Tryz.ntmps3
    go_wp2_with (go_at_call 4; refine (awake _).mono ?_; rintro e w1 ⟨rfl, hb1⟩)
    go_ret
    exact ⟨rfl, hb1⟩
  have t3 : ¬ (100 : Int) < s.size := by omega
  by_cases h4 : 100 < xs.length
  · have t4 : (100 : Int) < xs.length := by omega
    clear h
    go_enter Tryz.func3, Tryz.ntmps3
    go_wp2_with (go_at_call 4; refine (awake _).mono ?_; rintro e w1 ⟨rfl, hb1⟩)
    go_ret
    exact ⟨rfl, hb1⟩
  have t4 : ¬ (100 : Int) < xs.length := by omega
  obtain ⟨b1, e1⟩ : ∃ b, (s.toList == L1) = b := ⟨_, rfl⟩
  obtain ⟨b2, e2⟩ : ∃ b, (s.toList == L2) = b := ⟨_, rfl⟩
  obtain ⟨b3, e3⟩ : ∃ b, (s.toList == L3) = b := ⟨_, rfl⟩
  have Hsh := fun w => Lib.hid (shape s w b1 b2 b3 e1 e2 e3)
  by_cases hb : (b1 || b2 || b3) = true
  · have Hsz := Lib.hid (sizes_yes s w b1 b2 b3 e1 e2 e3 hb)
    rw [hb] at Hsh
    generalize keyB b1 b2 b3 = kb at *
    generalize tagB b1 b2 b3 = tb at *
    clear e1 e2 e3 hb h
    go_enter Tryz.func3, Tryz.ntmps3
    go_wp2_with (first
      | (go_at_call 5; refine Hsz.out.mono ?_; rintro e w1 ⟨rfl, hb1⟩)
      | (go_at_call 6; refine (Hsh _).out.mono ?_; rintro e w2 ⟨rfl, rfl⟩)
      | (go_at_call 4; refine (awake _).mono ?_; rintro e w3 ⟨rfl, hb3⟩))
    go_ret
    exact ⟨rfl, hb1.trans (hb3.mono hb1.size)⟩
  · have f1 : b1 = false := by cases b1 <;> simp_all
    have f2 : b2 = false := by cases b2 <;> simp_all
    have f3 : b3 = false := by cases b3 <;> simp_all
    subst f1 f2 f3
    have Hsz := Lib.hid (sizes_no s w e1 e2 e3)
    have Hse := fun w v1 v3 v4 p n c => Lib.hid (sealed_no s v1 v3 v4 p n c w e1 e2 e3)
    have Hop := fun w v1 v2 v3 v4 v5 => Lib.hid (opened_no s v1 v2 v3 v4 v5 w e1 e2 e3)
    have Hfl := fun (w' : World) (hb : Below w.heap.size w w') (n : Nat) (hn : n ≤ 1000) => Lib.hid (filled _ xs n w' (h.below hb) hn (by omega))
    clear e1 e2 e3 hb h
    go_enter Tryz.func3, Tryz.ntmps3
    go_wp2_with (first
      | (go_at_call 5; refine Hsz.out.mono ?_; rintro e w1 ⟨rfl, hb1⟩)
      | (go_at_call 6; refine (Hsh _).out.mono ?_; rintro e w2 ⟨rfl, rfl⟩))
    go_wp2_with fail
    refine (Hfl _ hb1 32 (by omega)).out.mono ?_
    rintro e w3 ⟨g3, rfl, hc3⟩
    have hd3 := Below.trans hb1 (hc3.mono (Below.size hb1))
    clear hc3
    go_wp2_with fail
    refine (Hfl _ hd3 16 (by omega)).out.mono ?_
    rintro e w4 ⟨g4, rfl, hc4⟩
    have hd4 := Below.trans hd3 (hc4.mono (Below.size hd3))
    clear hc4
    go_wp2_with fail
    refine (Hse _ _ _ _ _ _ _).out.mono ?_
    rintro e w5 ⟨rfl, hc5⟩
    have hd5 := hd4.trans (hc5.mono hd4.size)
    clear hc5
    go_wp2_with fail
    refine (Hfl _ hd5 32 (by omega)).out.mono ?_
    rintro e w6 ⟨g6, rfl, hc6⟩
    have hd6 := Below.trans hd5 (hc6.mono (Below.size hd5))
    clear hc6
    go_wp2_with fail
    refine (Hfl _ hd6 16 (by omega)).out.mono ?_
    rintro e w7 ⟨g7, rfl, hc7⟩
    have hd7 := Below.trans hd6 (hc7.mono (Below.size hd6))
    clear hc7
    go_wp2_with fail
    refine (Hfl _ hd7 16 (by omega)).out.mono ?_
    rintro e w8 ⟨g8, rfl, hc8⟩
    have hd8 := Below.trans hd7 (hc8.mono (Below.size hd7))
    clear hc8
    go_wp2_with fail
    refine (Hfl _ hd8 16 (by omega)).out.mono ?_
    rintro e w9 ⟨g9, rfl, hc9⟩
    have hd9 := Below.trans hd8 (hc9.mono (Below.size hd8))
    clear hc9
    go_wp2_with fail
    refine (Hop _ _ _ _ _ _).out.mono ?_
    rintro e w10 ⟨rfl, hc10⟩
    have hd10 := hd9.trans (hc10.mono hd9.size)
    clear hc10
    go_wp2_with (go_at_call 4; refine (awake _).mono ?_; rintro e w11 ⟨rfl, hb11⟩)
    go_ret
    exact ⟨rfl, hd10.trans (hb11.mono hd10.size)⟩
end Go.Proofs.YtamakjdeejokpaaGreat
