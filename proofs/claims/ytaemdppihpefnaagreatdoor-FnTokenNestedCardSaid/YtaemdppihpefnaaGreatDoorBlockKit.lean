/- Words for the block functions: eight words, rows of words. -/
import Derived.Test.YtaemdppihpefnaaGreatDoorBase
namespace Go.Proofs.YtaemdppihpefnaaGreatDoor
open Go.RowKit
set_option linter.unusedVariables false

/-- The cells of some words. -/
def cs32 (xs : List Int) : List Value := xs.map (Value.int .u32)
theorem length_cs32 (xs : List Int) : (cs32 xs).length = xs.length := by simp [cs32]
theorem get_cs32 (xs : List Int) (i : Nat) (hi : i < xs.length) : (cs32 xs)[i]? = some (.int .u32 (xs.getD i 0)) := by simp [cs32, List.getD, hi]
def cs64 (xs : List Int) : List Value := xs.map (Value.int .u64)
theorem length_cs64 (xs : List Int) : (cs64 xs).length = xs.length := by simp [cs64]
theorem get_cs64 (xs : List Int) (i : Nat) (hi : i < xs.length) : (cs64 xs)[i]? = some (.int .u64 (xs.getD i 0)) := by simp [cs64, List.getD, hi]

theorem row_drewN {w : World} {g : Nat} {t : TypeId} {cur : List Value} (h : Row w g t cur) (n : Nat) : Row (w.drewN n) g t cur := h
theorem row_drew {w : World} {g : Nat} {T : TypeId} {cur : List Value} (h : Row w g T cur) : Row w.drew g T cur := h
theorem row_start (w : World) (cs : Array Value) (t : TypeId) (n : Nat) (xs : List Value) (h : cs.toList = xs) : Row ((w.alloc (.cells cs t)).drewN n) w.heap.size t xs := by
  subst h; exact row_drewN (Row.new w cs t _ rfl) n
theorem below_start (w : World) (o : Obj) (n : Nat) : Below w.heap.size w ((w.alloc o).drewN n) := below_drewN ((Below.refl _ _).alloc (Nat.le_refl _) _) n
theorem set32 {w : World} {g : Nat} {t : TypeId} {Y : List Int} (h : Row w g t (cs32 Y)) (k : Nat) (z : Int) : Row ((w.setCell ⟨g, k, none⟩ (.int .u32 z)).drew) g t (cs32 (Y.set k z)) := by
  have := h.set k (.int .u32 z)
  unfold cs32 at *
  rw [List.map_set]
  exact this
theorem set64 {w : World} {g : Nat} {t : TypeId} {Y : List Int} (h : Row w g t (cs64 Y)) (k : Nat) (z : Int) : Row ((w.setCell ⟨g, k, none⟩ (.int .u64 z)).drew) g t (cs64 (Y.set k z)) := by
  have := h.set k (.int .u64 z)
  unfold cs64 at *
  rw [List.map_set]
  exact this
/-- Eight words. -/
structure S8 where
  (a b c d e f g h : Int)
def words8 (s : S8) : List Int := [s.a, s.b, s.c, s.d, s.e, s.f, s.g, s.h]
theorem set8 {w : World} {g : Nat} {T : TypeId} {x0 x1 x2 x3 x4 x5 x6 x7 : Value} {rest : List Value} (h : Row w g T (x0 :: x1 :: x2 :: x3 :: x4 :: x5 :: x6 :: x7 :: rest)) (y0 y1 y2 y3 y4 y5 y6 y7 : Value) :
    Row (((((((((w.setCell ⟨g, 0, none⟩ y0).setCell ⟨g, 1, none⟩ y1).setCell ⟨g, 2, none⟩ y2).setCell ⟨g, 3, none⟩ y3).setCell ⟨g, 4, none⟩ y4).setCell ⟨g, 5, none⟩ y5).setCell ⟨g, 6, none⟩ y6).setCell ⟨g, 7, none⟩ y7).drew) g T (y0 :: y1 :: y2 :: y3 :: y4 :: y5 :: y6 :: y7 :: rest) := by
  have h0 := h.set 0 y0
  have h1 := h0.set 1 y1
  have h2 := h1.set 2 y2
  have h3 := h2.set 3 y3
  have h4 := h3.set 4 y4
  have h5 := h4.set 5 y5
  have h6 := h5.set 6 y6
  have h7 := h6.set 7 y7
  simp only [List.set_cons_zero, List.set_cons_succ] at h7
  exact row_drew h7
end Go.Proofs.YtaemdppihpefnaaGreatDoor
