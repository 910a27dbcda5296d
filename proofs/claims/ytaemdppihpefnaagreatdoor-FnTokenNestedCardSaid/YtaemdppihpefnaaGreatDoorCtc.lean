/- crypto/subtle.ConstantTimeCompare at equal bytes. -/
import Derived.Test.YtaemdppihpefnaaGreatDoorOff
import Derived.Test.YtaemdppihpefnaaGreatDoorProg
import Derived.Laws.Externs
import Derived.Laws.BitsAllLaws
import Derived.BigRegion
import Derived.Deep.QuietTactic
import Derived.BigQuiet
import Derived.LoopTactic
import Derived.Outline
namespace Go.Proofs.YtaemdppihpefnaaGreatDoor
open Go.RowKit
set_option linter.unusedVariables false

theorem xor_self8 (z : Int) (h : 0 ≤ z ∧ z < 256) : bits .or .u8 0 (bits .xor .u8 z z) = 0 := by
  have h1 := u8_xor z z h.1 h.2 h.1 h.2
  rw [h1, Nat.xor_self]
  rfl

set_option maxRecDepth 100000 in
set_option maxHeartbeats 1000000 in
theorem byteEq (w : World) :
    Calls Tryz.prog 252 #[.int .u8 0, .int .u8 0] w fun e w' => e = .returned (.int .i64 1) ∧ w = w' := by
  have hb : (callFunc 253 #[.bool true]).run Tryz.prog w = .ok (.value (.int .u8 1)) w := by
    have h : (Extern.find Tryz.f253).isSome = true := by kernel_rfl
    rw [run_callFunc_extern Tryz.func253 (by kernel_rfl) (by kernel_rfl) (by kernel_rfl) (Option.some_get h).symm]
    have e : ((Extern.find Tryz.f253).get h #[.bool true]).run Tryz.prog w = .ok (.int .u8 1) w := by kernel_rfl
    rw [e]; rfl
  go_enter Tryz.func252, Tryz.ntmps252
  go_wp2_with fail
  go_ret
  exact ⟨rfl, rfl⟩

set_option maxRecDepth 100000 in
set_option maxHeartbeats 4000000 in
theorem ctc71 (v1 v2 : Value) (xs : List Int) (w : World) (h1 : Bs w v1 xs) (h2 : Bs w v2 xs) (hb : Byt xs) (hl : xs.length ≤ 65536) :
    Calls Tryz.prog 251 #[v1, v2] w fun e w' => e = .returned (.int .i64 1) ∧ ∃ n, w' = w.drewN n := by
  obtain ⟨p, c, rfl, _, _, hx⟩ := id h1
  obtain ⟨q, d, rfl, _, _, hy⟩ := id h2
  have Hx := Lib.hid hx
  have Hy := Lib.hid hy
  have Hb := Lib.hid hb
  clear h1 h2 hx hy hb
  go_enter Tryz.func251, Tryz.ntmps251
  go_wp2_with fail
  go_loopw [5, 6] (fun v i wr => ∃ k n : Nat, k ≤ xs.length ∧ v = .int .u8 0 ∧ i = .int .i64 k ∧ wr = w.drewN n) (fun _ i _ => xs.length - (intOf i).toNat)
  case atStart => exact ⟨0, 0, by omega, rfl, rfl, rfl⟩
  case round =>
    obtain ⟨k, n, hk, rfl, rfl, rfl⟩ := hrel
    by_cases hlt : k < xs.length
    · obtain ⟨b1, o1, rfl, hx⟩ := Hx.out (by omega)
      obtain ⟨b2, o2, rfl, hy⟩ := Hy.out (by omega)
      have c1 : (w.drewN n).cell? ⟨b1, o1 + k, none⟩ = some (.int .u8 (xs.getD k 0)) := hx k hlt
      have c2 : (w.drewN n).cell? ⟨b2, o2 + k, none⟩ = some (.int .u8 (xs.getD k 0)) := hy k hlt
      have hxor := xor_self8 (xs.getD k 0) (Hb.out.at hlt)
      have hki : (k : Int) < xs.length := by omega
      clear hx hy
      generalize xs.getD k 0 = z at *
      generalize hwn : w.drewN n = wn at *
      have Hwn := Lib.hid hwn
      clear hwn
      go_wp2_with fail
      go_quiet (fail)
      go_wp2_with fail
      refine ⟨⟨k + 1, n + nq, by omega, rfl, by go_num, ?_⟩, by simp [intOf]; omega⟩
      rw [← Hwn.out]
      simp only [World.drewN, Nat.add_assoc]
    · obtain rfl : k = xs.length := by omega
      go_wp2_with (go_at_call 252; refine (byteEq _).mono ?_; rintro e w' ⟨rfl, rfl⟩)
      go_ret
      exact ⟨rfl, n, rfl⟩

set_option maxRecDepth 100000 in
theorem ctc (v1 v2 : Value) (xs : List Int) (w : World) (h1 : Bs w v1 xs) (h2 : Bs w v2 xs) (hb : Byt xs) (hl : xs.length ≤ 65536) :
    Calls Tryz.prog 250 #[v1, v2] w fun e w' => e = .returned (.int .i64 1) ∧ ∃ n, w' = w.drewN n := by
  have G := Lib.hid (ctc71 v1 v2 xs w h1 h2 hb hl)
  clear h1 h2 hb
  go_enter Tryz.func250, Tryz.ntmps250
  go_wp2_with (go_at_call 251; refine G.out.mono ?_; rintro e w' ⟨rfl, n, rfl⟩)
  go_ret
  exact ⟨rfl, n, rfl⟩
end Go.Proofs.YtaemdppihpefnaaGreatDoor
