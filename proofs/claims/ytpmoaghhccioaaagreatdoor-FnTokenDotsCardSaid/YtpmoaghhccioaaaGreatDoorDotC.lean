/- slices.Grow, slices.Concat: of bytes. -/
import Derived.Test.YtpmoaghhccioaaaGreatDoorDotA
import Derived.Test.YtpmoaghhccioaaaGreatDoorSpecKit
import Derived.Lib.AppendZeros
import Derived.IntWalk
namespace Go.Proofs.YtpmoaghhccioaaaGreatDoor
open Go.RowKit
set_option linter.unusedVariables false

set_option maxRecDepth 100000 in
set_option maxHeartbeats 1000000 in
theorem grow (n : Nat) (h0 : 0 < n) (hn : n ≤ 10000000) (w : World) :
    Calls Tryz.prog 16 #[.slice none 0 0, .int .i64 n] w fun e w' => (∃ v, e = .returned v ∧ w'.ownsRow w.heap.size 5 1 v 0 []) ∧ Below w.heap.size w w' := by
  obtain ⟨i0, hi, hz0, hz1, hz2⟩ := info_parts (P := Tryz.prog) (e := 5) (z := .int .u8 0) (size := 1) (bytes := 1) (by kernel_rfl)
  have hr : ∀ ty, (Builtin.append_ #[25, 3] ty #[.slice none 0 0, .int .i64 n]).run Tryz.prog w = .ok (.slice (some ⟨w.heap.size, 0, none⟩) n (grownCap w n 0 5)) (w.drew.alloc (.cells (Builtin.zeroCells (Value.int .u8 0).cells n ++ Builtin.zeroCells (Value.int .u8 0).cells (grownCap w n 0 5 - n)) 5)) := fun ty =>
    Lib.run_append_nil_zeros w 25 3 ty 5 i0 (.int .u8 0) .i64 .i64 Tryz.underlying25 Tryz.underlying3 hi hz0 n h0 (by omega) (by omega) (by rw [hz2]; omega)
  have hge := grownCap_ge w n 0 5
  have hle := grownCap_le_maxLen w n 0 5 (by unfold maxLen; omega)
  have HZ := Lib.hid (show (Builtin.zeroCells (Value.int .u8 0).cells n ++ Builtin.zeroCells (Value.int .u8 0).cells (grownCap w n 0 5 - n)).size = grownCap w n 0 5 by
    simp only [Array.size_append, size_zeroCells]
    have : (Value.int .u8 0).cells.size = 1 := rfl
    rw [this]; omega)
  generalize Builtin.zeroCells (Value.int .u8 0).cells n ++ Builtin.zeroCells (Value.int .u8 0).cells (grownCap w n 0 5 - n) = Z at hr HZ
  generalize grownCap w n 0 5 = cap at hr hge hle HZ
  have HR := Lib.hid hr
  have hge := Lib.hid hge
  have hle := Lib.hid hle
  clear hr hi hz0 hz1 hz2
  have hnI : ¬ ((n : Int) < 0) := by omega
  have hnI0 : (0 : Int) < n := by omega
  have hcap0 : ¬ cap = 0 := by have := hge.out; omega
  go_enter Tryz.func16, Tryz.ntmps16
  go_wp2_with (at_builtin; refine Lib.wpList_append_run _ rfl _ _ _ _ rfl _ _ rfl rfl _ _ (HR.out _) ?_)
  go_ret
  refine ⟨⟨_, rfl, ?_⟩, ?_⟩
  · exact World.ownsRow_made w.drew Z cap (Nat.le_refl _) hle.out (by rw [HZ.out, Nat.mul_one])
  · exact (below_drewN (Below.refl w.heap.size w) 1).alloc (Nat.le_refl _) _

/-- The first k parts, one behind the other. -/
def cc (P : Nat → List Int) : Nat → List Int
  | 0 => []
  | k + 1 => cc P k ++ P k
theorem cc_len (P : Nat → List Int) (n : Nat) (hP : ∀ i, i < n → (P i).length ≤ 65536) : ∀ k, k ≤ n → (cc P k).length ≤ k * 65536
  | 0, _ => by simp [cc]
  | k + 1, h => by
    have ih := cc_len P n hP k (by omega)
    have := hP k (by omega)
    simp only [cc, List.length_append]
    omega

set_option maxRecDepth 100000 in
set_option maxHeartbeats 2000000 in
theorem concat (p : Option Addr) (n c : Nat) (A : Nat → Option Addr) (C : Nat → Nat) (P : Nat → List Int) (w : World) (h : Parts w p n A C P) (hn : n ≤ 100) (hP : ∀ i, i < n → (P i).length ≤ 65536) (hpos : 0 < (cc P n).length) :
    Calls Tryz.prog 11 #[.slice p n c] w fun e w' => (∃ v, e = .returned v ∧ Bs w' v (cc P n)) ∧ Below w.heap.size w w' := by
  have H := Lib.hid h
  have HP := Lib.hid hP
  have HL := Lib.hid (cc_len P n hP)
  clear h hP
  have hn0 : 0 < n := by
    rcases Nat.eq_zero_or_pos n with h | h
    · subst h; simp [cc] at hpos
    · exact h
  obtain ⟨b, o, rfl, hbl, hc⟩ := H.out.cell hn0
  have HC := Lib.hid hc
  have hpos := Lib.hid hpos
  clear hc
  go_enter Tryz.func11, Tryz.ntmps11
  go_wp2_with fail
  go_loopw [3, 11] (fun s i wr => ∃ k : Nat, k ≤ n ∧ s = .int .i64 ((cc P k).length : Nat) ∧ i = .int .i64 k ∧ w = wr) (fun _ i _ => n - (intOf i).toNat)
  case atStart => exact ⟨0, by omega, rfl, rfl, rfl⟩
  case round =>
    obtain ⟨k, hk, rfl, rfl, rfl⟩ := hrel
    by_cases hkn : k < n
    · have c0 := HC.out k hkn
      have hkI : (k : Int) < n := by omega
      have hL := HL.out (k + 1) (by omega)
      have e1 : ((cc P (k + 1)).length : Int) = (cc P k).length + (P k).length := by simp [cc]
      have E1 := Lib.hid e1
      have hw : IntKind.i64.wrap (((cc P k).length : Int) + (P k).length) = ((cc P k).length : Int) + (P k).length := IntWalk.i64_in _ (by omega)
      have hneg : ¬ (((cc P k).length : Int) + (P k).length < 0) := by omega
      clear hL e1
      go_wp2_with fail
      refine ⟨⟨k + 1, by omega, ?_, by go_num, trivial⟩, by simp [intOf]; omega⟩
      rw [E1.out]
    · obtain rfl : k = n := by omega
      have hL := HL.out k (Nat.le_refl _)
      have hL := Lib.hid (show (cc P k).length ≤ 10000000 by omega)
      go_wp2_with fail
      go_at_call 16
      refine (grow _ hpos.out hL.out _).mono ?_
      rintro e w1 ⟨⟨v, rfl, ov⟩, b1⟩
      have OV := Lib.hid (own_lower ov (Nat.le_refl _))
      have B1 := Lib.hid b1
      clear ov b1
      go_wp2_with fail
      go_loopw [6, 27] (fun v i wr => ∃ (m : Nat), m ≤ k ∧ i = .int .i64 m ∧ Hid (wr.ownsRow w.heap.size 5 1 v (cc P m).length (cs8 (cc P m))) ∧ Hid (Below w.heap.size w wr)) (fun _ i _ => k - (intOf i).toNat)
      case atStart => exact ⟨0, by omega, rfl, OV, B1⟩
      case round =>
        obtain ⟨m, hm, rfl, hO, hB⟩ := hrel
        obtain ⟨a, c', rfl⟩ := own_slice hO.out
        by_cases hmk : m < k
        · have hgo := run_appendG (P := Tryz.prog) 25 25 w.heap.size 5 Tryz.underlying25 (by kernel_rfl) _ _ _ hO.out _ _ ((H.out.bs m hmk).below hB.out) (by have := HL.out (m + 1) (by omega); simp [cc] at this; omega) hB.out.size
          obtain ⟨v', w', hr, ho, hg⟩ := hgo
          have HR := Lib.hid hr
          have HO := Lib.hid ho
          have HG := Lib.hid hg
          have hge := Lib.hid (own_ge hO.out)
          have c0 : wr.cell? ⟨b, o + m, none⟩ = some (.slice (A m) (P m).length (C m)) := by rw [hB.out.cell (p := ⟨b, o + m, none⟩) hbl]; exact HC.out m hmk
          have hmI : (m : Int) < k := by omega
          clear hr ho hg
          go_wp2_with (at_builtin; refine Lib.wpList_append_run _ rfl _ _ _ _ rfl _ _ rfl rfl _ _ HR.out ?_)
          refine ⟨⟨m + 1, by omega, by go_num, Lib.hid ?_, Lib.hid (hB.out.grown HG.out hB.out.size (fun x hx => hge.out x hx))⟩, by simp [intOf]; omega⟩
          have := HO.out
          simp only [cc, List.length_append]
          rw [cs8_append] at this
          exact this
        · obtain rfl : m = k := by omega
          go_wp2_with fail
          go_ret
          exact ⟨⟨_, rfl, Bs.own hO.out⟩, hB.out⟩
end Go.Proofs.YtpmoaghhccioaaaGreatDoor
