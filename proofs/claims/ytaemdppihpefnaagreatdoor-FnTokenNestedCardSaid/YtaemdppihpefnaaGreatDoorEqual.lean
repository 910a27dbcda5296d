/- bytes.Equal, at every slice. -/
import Derived.Test.YtaemdppihpefnaaGreatDoorBase
import Derived.Test.YtaemdppihpefnaaGreatDoorProg
namespace Go.Proofs.YtaemdppihpefnaaGreatDoor
open Go.RowKit

set_option maxHeartbeats 400000 in
/-- bytes.Equal: whether the bytes are the same. -/
theorem equal (v1 v2 : Value) (xs ys : List Int) (w : World) (h1 : Bs w v1 xs) (h2 : Bs w v2 ys) (hx : Byt xs) (hy : Byt ys) :
   Calls Tryz.prog 12 #[v1, v2] w fun e w' => e = .returned (.bool (decide (xs = ys))) ∧ w = w' := by
  have hcv1 := h1.convert Tryz.underlying22 Tryz.underlying5 Tryz.underlying9
  have hcv2 := h2.convert Tryz.underlying22 Tryz.underlying5 Tryz.underlying9
  clear h1 h2
  rw [← str_beq xs ys hx hy]
  clear hx hy
  go_enter Tryz.func12, Tryz.ntmps12
  go_wp2
  go_ret
  exact ⟨rfl, rfl⟩
end Go.Proofs.YtaemdppihpefnaaGreatDoor
