/- bytes.Clone, at every slice. -/
import Derived.Test.YtaemdppihpefnaaGreatDoorBase
import Derived.Test.YtaemdppihpefnaaGreatDoorProg
namespace Go.Proofs.YtaemdppihpefnaaGreatDoor
open Go.RowKit

set_option maxHeartbeats 400000 in
/-- bytes.Clone: a slice of the same bytes in new memory (nil of nil). -/
theorem clone (v : Value) (xs : List Int) (w : World) (h : Bs w v xs) (hbig : xs.length ≤ 140737488355328) :
   Calls Tryz.prog 7 #[v] w fun e w' => ∃ v', e = .returned v' ∧ w'.ownsRow w.heap.size 5 1 v' xs.length (cs8 xs) ∧ Below w.heap.size w w' := by
  obtain ⟨p, c, rfl, hc, hn, hx⟩ := id h
  have q22 := fun (w : World) (a : Option Addr) (n c n' c' : Nat) => Lib.run_eql_slice_nil (P := Tryz.prog) w 22 5 a n c n' c' Tryz.underlying22
  cases p with
  | none =>
    have hz : xs = [] := List.eq_nil_of_length_eq_zero (by have := hn rfl; omega)
    subst hz
    clear hx hc hn h
    go_enter Tryz.func7, Tryz.ntmps7
    go_wp2
    go_ret
    exact ⟨_, rfl, World.ownsRow_nil _ _ _ _, Below.refl _ _⟩
  | some a =>
    have Hn := (h.below ((Below.refl w.heap.size w).alloc (Nat.le_refl _) (.cells #[] 5))).cells.2
    clear hx hn h
    go_enter Tryz.func7, Tryz.ntmps7
    obtain ⟨i0, hi, hz0, hz1, hz2⟩ := info_parts (P := Tryz.prog) (e := 5) (z := .int .u8 0) (size := 1) (bytes := 1) (by kernel_rfl)
    go_wp2_with (at_builtin; refine wpList_append_own _ rfl _ _ 22 rfl w.heap.size 5 i0 (.int .u8 0) 1 1 Tryz.underlying22 hi hz0 hz1 hz2 rfl (by decide) _ _ _ rfl (World.ownsRow_made w #[] 0 (Nat.le_refl _) (by decide) rfl) a xs.length c (cs8 xs) rfl (by simp [cs8]) ?c1 ?c2 ?c3 ?c4 ?c5 ?_)
    case c1 => exact Hn
    case c2 => exact one_cs8 xs
    case c3 => unfold maxLen; omega
    case c4 => omega
    case c5 => simp
    intro v' w1 hown hgrow _
    go_wp2
    go_ret
    refine ⟨_, rfl, ?_, ((Below.refl _ _).alloc (Nat.le_refl _) _).grown hgrow (by simp) (by intro k hk; simp [Value.ownBlock] at hk; omega)⟩
    first | exact hown | (rw [Nat.zero_add, List.nil_append] at hown; exact hown)

end Go.Proofs.YtaemdppihpefnaaGreatDoor
