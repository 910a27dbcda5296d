/- bits.RotateLeft64: a word turned, in the walk's own spelling. -/
import Derived.Test.YtaemdppihpefnaaGreatDoorBytes
import Derived.Deep.QuietTactic
import Derived.BigQuiet
namespace Go.Proofs.YtaemdppihpefnaaGreatDoor
open Go.RowKit
set_option linter.unusedVariables false

/-- By how many places a word is turned to the left. -/
def rotBy64 (k : Int) : Int := bits .and .u64 (IntKind.u64.wrap k) 63
/-- A word of 64 bits, turned. -/
def rot64 (x k : Int) : Int := bits .or .u64 (IntKind.u64.wrap (x * 2 ^ (rotBy64 k).toNat)) (x / 2 ^ (64 - rotBy64 k).toNat)

set_option maxRecDepth 100000 in
set_option maxHeartbeats 1000000 in
theorem rot64_any (x k : Int) (w : World) (hk : 1 ≤ rotBy64 k ∧ rotBy64 k ≤ 63) :
    Calls Tryz.prog 284 #[.int .u64 x, .int .i64 k] w fun e w' => e = .returned (.int .u64 (rot64 x k)) ∧ w = w' := by
  obtain ⟨h1, h2⟩ := hk
  unfold rot64
  obtain ⟨s, hs⟩ : ∃ s, rotBy64 k = s := ⟨_, rfl⟩
  rw [hs] at h1 h2 ⊢
  unfold rotBy64 at hs
  go_enter Tryz.func284, Tryz.ntmps284
  go_wp2
  go_ret
  exact ⟨rfl, rfl⟩
theorem rot64_q (x k : Int) (w : World) (hk : 1 ≤ rotBy64 k ∧ rotBy64 k ≤ 63) :
    Calls Tryz.prog 284 #[.int .u64 x, .int .i64 k] w fun e w' => e = .returned (.int .u64 (rot64 x k)) ∧ w' = w :=
  (rot64_any x k w hk).mono fun _ _ h => ⟨h.1, h.2.symm⟩
end Go.Proofs.YtaemdppihpefnaaGreatDoor
