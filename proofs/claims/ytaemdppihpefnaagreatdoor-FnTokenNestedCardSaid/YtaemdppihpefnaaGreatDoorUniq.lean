/- hmac.New's look whether two hashes are one (a closure that defers a recover). -/
import Derived.Test.YtaemdppihpefnaaGreatDoorHk
import Derived.Recover
import Derived.StillTailTactics
import Derived.Outline
namespace Go.Proofs.YtaemdppihpefnaaGreatDoor
open Go.RowKit
set_option linter.unusedVariables false

theorem caught (w : World) :
    CallsD Tryz.prog 148 #[] .returning w fun e u' w' => e = .returned (.tuple #[]) ∧ u' = .returning ∧ w' = w := by
  refine callsD_of_wpS Tryz.func148 rfl fun c₀ cs hu => ?_
  apply wpS_region
  simp [wpOpsS, go_sem, recoverD, hu, Tryz.ntmps148, bodyPostS, results, Tryz.results148]
  cases c₀
  simp_all

set_option maxRecDepth 100000 in
set_option maxHeartbeats 1000000 in
theorem uniq (T : TypeId) (V U B G1 G2 : Nat) (w : World) (hne : G1 ≠ G2) (hV : w.cell? ⟨V, 0, none⟩ = some (.pointer (some ⟨B, 0, none⟩)))
    (h2 : w.cell? ⟨B, 2, none⟩ = some (.iface T (.pointer (some ⟨G1, 0, none⟩)))) (h3 : w.cell? ⟨B, 3, none⟩ = some (.iface T (.pointer (some ⟨G2, 0, none⟩))))
    (hcmp : ∀ wx : World, wx.heap = w.heap → (binOp .eql 207 (.iface T (.pointer (some ⟨G1, 0, none⟩))) (.iface T (.pointer (some ⟨G2, 0, none⟩)))).run Tryz.prog wx = .ok (.bool false) wx) :
    Calls Tryz.prog 147 #[.pointer (some ⟨V, 0, none⟩), .pointer (some ⟨U, 0, none⟩)] w fun e w' => e = .returned (.tuple #[]) ∧ ∃ n, w' = w.drewN n := by
  go_enter_defers Tryz.func147, Tryz.ntmps147
  go_wp2_with fail
  go_still_tail 8, (by kernel_rfl)
  change wpList _ _ _ _ _ w.drew
  have hc := hcmp w.drew rfl
  obtain ⟨wd, hwd⟩ : ∃ wd : World, wd = w.drew := ⟨_, rfl⟩
  rw [← hwd] at hc ⊢
  have Hwd := Lib.hid hwd
  clear hcmp hwd
  go_wp2_with fail
  refine leaves_cons (f := 148) (args := #[]) (by simp) (by simp [go_sem]) ?_
  refine (caught _).mono ?_
  rintro e u' w'' ⟨rfl, rfl, rfl⟩
  simp [Leaves, settle, results, Tryz.results147, go_sem]
  exact ⟨1, Hwd.out⟩
end Go.Proofs.YtaemdppihpefnaaGreatDoor
