/- The gate of the block function of SHA-512. -/
import Derived.Test.YtaemdppihpefnaaGreatDoorBlock512
namespace Go.Proofs.YtaemdppihpefnaaGreatDoor
open Go.RowKit
set_option linter.unusedVariables false

set_option maxRecDepth 100000 in
set_option maxHeartbeats 1000000 in
/-- The gate of the block function. -/
theorem gate512 (K : List Int) (hK : K.length = 80) (g : Nat) (s : S8) (rest : List Value) (v : Value) (ps : List Int) (w : World)
    (hrow : Row w g 263 (cs64 (words8 s) ++ rest)) (hkt : Row w 9 385 (cs64 K)) (hp : Bs w v ps) (hm : ps.length % 128 = 0) (hbig : ps.length ≤ maxLen) :
    Calls Tryz.prog 280 #[.pointer (some ⟨g, 0, none⟩), v] w fun e w' => e = .returned (.tuple #[]) ∧ Row w' g 263 (cs64 (words8 (comp64 K ps s)) ++ rest) ∧ But g w w' := by
  have hb := Lib.hid (block512 K hK g s rest v ps w hrow hkt hp hm hbig)
  clear hrow hkt hp hm hbig
  go_enter Tryz.func280, Tryz.ntmps280
  go_wp2_with (go_at_call 283; refine hb.out.mono ?_; rintro e w1 ⟨rfl, hr, hbt⟩)
  go_end0
  exact ⟨rfl, hr, hbt⟩

end Go.Proofs.YtaemdppihpefnaaGreatDoor
