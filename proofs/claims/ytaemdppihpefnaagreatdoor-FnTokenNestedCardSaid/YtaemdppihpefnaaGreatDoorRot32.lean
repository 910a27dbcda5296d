/- bits.RotateLeft32: a word turned, in the walk's own spelling. -/
import Derived.Test.YtaemdppihpefnaaGreatDoorBytes
import Derived.Deep.QuietTactic
import Derived.BigQuiet
namespace Go.Proofs.YtaemdppihpefnaaGreatDoor
open Go.RowKit
set_option linter.unusedVariables false

/-- By how many places a word is turned to the left. -/
def rotBy32 (k : Int) : Int := bits .and .u64 (IntKind.u64.wrap k) 31
/-- A word of 32 bits, turned. -/
def rot32 (x k : Int) : Int := bits .or .u32 (IntKind.u32.wrap (x * 2 ^ (rotBy32 k).toNat)) (x / 2 ^ (32 - rotBy32 k).toNat)

set_option maxRecDepth 100000 in
set_option maxHeartbeats 1000000 in
theorem rot32_any (x k : Int) (w : World) (hk : 1 ≤ rotBy32 k ∧ rotBy32 k ≤ 31) :
    Calls Tryz.prog 272 #[.int .u32 x, .int .i64 k] w fun e w' => e = .returned (.int .u32 (rot32 x k)) ∧ w = w' := by
  obtain ⟨h1, h2⟩ := hk
  unfold rot32
  obtain ⟨s, hs⟩ : ∃ s, rotBy32 k = s := ⟨_, rfl⟩
  rw [hs] at h1 h2 ⊢
  unfold rotBy32 at hs
  have Hw := Lib.hid (IntKind.wrap_u32 (x * 2 ^ s.toNat)) 
  go_enter Tryz.func272, Tryz.ntmps272
  go_wp2
  go_ret
  exact ⟨by first | rfl | (rw [Hw.out]; rfl), rfl⟩
theorem rot32_q (x k : Int) (w : World) (hk : 1 ≤ rotBy32 k ∧ rotBy32 k ≤ 31) :
    Calls Tryz.prog 272 #[.int .u32 x, .int .i64 k] w fun e w' => e = .returned (.int .u32 (rot32 x k)) ∧ w' = w :=
  (rot32_any x k w hk).mono fun _ _ h => ⟨h.1, h.2.symm⟩
end Go.Proofs.YtaemdppihpefnaaGreatDoor
