/- The digest of SHA-256: anew, and the gate of its block function. -/
import Derived.Test.YtaemdppihpefnaaGreatDoorBlock256
import Derived.Test.YtaemdppihpefnaaGreatDoorPut
namespace Go.Proofs.YtaemdppihpefnaaGreatDoor
open Go.RowKit
set_option linter.unusedVariables false

def init32 : S8 := ⟨1779033703, 3144134277, 1013904242, 2773480762, 1359893119, 2600822924, 528734635, 1541459225⟩
/-- The cells of a digest: eight words, the waiting bytes, their number, the length. -/
def dig32 (s : S8) (x : List Int) (nx len : Int) : List Value := cs32 (words8 s) ++ (cs8 x ++ [.int .i64 nx, .int .u64 len, .bool false])

theorem dig_nx (s : S8) (x : List Int) (nx len m : Int) (hx : x.length = 64) : (dig32 s x nx len).set 72 (.int .i64 m) = dig32 s x m len := by
  have hxl : (cs8 x).length = 64 := by simp [cs8, hx]
  unfold dig32
  rw [List.set_append_right _ _ (by simp [cs32, words8]), List.set_append_right _ _ (by simp [cs32, words8, hxl])]
  simp [cs32, words8, hxl]
theorem dig_len (s : S8) (x : List Int) (nx len m : Int) (hx : x.length = 64) : (dig32 s x nx len).set 73 (.int .u64 m) = dig32 s x nx m := by
  have hxl : (cs8 x).length = 64 := by simp [cs8, hx]
  unfold dig32
  rw [List.set_append_right _ _ (by simp [cs32, words8]), List.set_append_right _ _ (by simp [cs32, words8, hxl])]
  simp [cs32, words8, hxl]

theorem dig_eight (s t : S8) (x : List Int) (nx len : Int) : ((((((((dig32 s x nx len).set 0 (.int .u32 t.a)).set 1 (.int .u32 t.b)).set 2 (.int .u32 t.c)).set 3 (.int .u32 t.d)).set 4 (.int .u32 t.e)).set 5 (.int .u32 t.f)).set 6 (.int .u32 t.g)).set 7 (.int .u32 t.h) = dig32 t x nx len := rfl

set_option maxRecDepth 100000 in
set_option maxHeartbeats 1000000 in
theorem reset256 (g : Nat) (s : S8) (x : List Int) (nx len : Int) (w : World) (hx : x.length = 64) (h : Row w g 259 (dig32 s x nx len)) :
    Calls Tryz.prog 121 #[.pointer (some ⟨g, 0, none⟩)] w fun e w' => e = .returned (.tuple #[]) ∧ Row w' g 259 (dig32 init32 x 0 0) ∧ Only g w w' := by
  have a0 : w.cell? ⟨g, 0, none⟩ = some (.int .u32 s.a) := by rw [h.cell]; rfl
  have a1 : w.cell? ⟨g, 1, none⟩ = some (.int .u32 s.b) := by rw [h.cell]; rfl
  have a2 : w.cell? ⟨g, 2, none⟩ = some (.int .u32 s.c) := by rw [h.cell]; rfl
  have a3 : w.cell? ⟨g, 3, none⟩ = some (.int .u32 s.d) := by rw [h.cell]; rfl
  have a4 : w.cell? ⟨g, 4, none⟩ = some (.int .u32 s.e) := by rw [h.cell]; rfl
  have a5 : w.cell? ⟨g, 5, none⟩ = some (.int .u32 s.f) := by rw [h.cell]; rfl
  have a6 : w.cell? ⟨g, 6, none⟩ = some (.int .u32 s.g) := by rw [h.cell]; rfl
  have a7 : w.cell? ⟨g, 7, none⟩ = some (.int .u32 s.h) := by rw [h.cell]; rfl
  have hxl : (cs8 x).length = 64 := by simp [cs8, hx]
  have d1 : (dig32 s x nx len)[72]? = some (.int .i64 nx) := by
    unfold dig32
    rw [List.getElem?_append_right (by simp [cs32, words8]), List.getElem?_append_right (by simp [cs32, words8, hxl])]
    simp [cs32, words8, hxl]
  have d2 : (dig32 s x nx len)[73]? = some (.int .u64 len) := by
    unfold dig32
    rw [List.getElem?_append_right (by simp [cs32, words8]), List.getElem?_append_right (by simp [cs32, words8, hxl])]
    simp [cs32, words8, hxl]
  have d3 : (dig32 s x nx len)[74]? = some (.bool false) := by
    unfold dig32
    rw [List.getElem?_append_right (by simp [cs32, words8]), List.getElem?_append_right (by simp [cs32, words8, hxl])]
    simp [cs32, words8, hxl]
  have b1 : w.cell? ⟨g, 72, none⟩ = some (.int .i64 nx) := by rw [h.cell, d1]
  have b2 : w.cell? ⟨g, 73, none⟩ = some (.int .u64 len) := by rw [h.cell, d2]
  have b3 : w.cell? ⟨g, 74, none⟩ = some (.bool false) := by rw [h.cell, d3]
  have f0 := h.unfrozen 0
  have f1 := h.unfrozen 1
  have f2 := h.unfrozen 2
  have f3 := h.unfrozen 3
  have f4 := h.unfrozen 4
  have f5 := h.unfrozen 5
  have f6 := h.unfrozen 6
  have f7 := h.unfrozen 7
  have f8 := h.unfrozen 72
  have f9 := h.unfrozen 73
  have H := Lib.hid h
  clear h d1 d2 d3
  go_enter Tryz.func121, Tryz.ntmps121
  go_wp2
  go_end0
  have key : ∀ w' : World, Row w' g 259 (dig32 init32 x nx len) → Row ((w'.setCell ⟨g, 72, none⟩ (.int .i64 0)).setCell ⟨g, 73, none⟩ (.int .u64 0)) g 259 (dig32 init32 x 0 0) := by
    intro w' h'
    have r2 := (h'.set 72 (.int .i64 0)).set 73 (.int .u64 0)
    rw [dig_nx _ _ _ _ _ hx, dig_len _ _ _ _ _ hx] at r2
    exact r2
  refine ⟨rfl, key _ ?_, ?_⟩
  · have r1 := ((((((((H.out.set 0 (.int .u32 1779033703)).set 1 (.int .u32 3144134277)).set 2 (.int .u32 1013904242)).set 3 (.int .u32 2773480762)).set 4 (.int .u32 1359893119)).set 5 (.int .u32 2600822924)).set 6 (.int .u32 528734635)).set 7 (.int .u32 1541459225))
    rw [dig_eight s ⟨1779033703, 3144134277, 1013904242, 2773480762, 1359893119, 2600822924, 528734635, 1541459225⟩ x nx len] at r1
    exact r1
  · exact (((((((((Only.set _ _ _ _).tr (Only.set _ _ _ _)).tr (Only.set _ _ _ _)).tr (Only.set _ _ _ _)).tr (Only.set _ _ _ _)).tr (Only.set _ _ _ _)).tr (Only.set _ _ _ _)).tr (Only.set _ _ _ _)).tr (Only.set _ _ _ _)).tr (Only.set _ _ _ _)

set_option maxRecDepth 100000 in
set_option maxHeartbeats 1000000 in
/-- The gate of the block function. -/
theorem gate256 (K : List Int) (hK : K.length = 64) (g : Nat) (s : S8) (rest : List Value) (v : Value) (ps : List Int) (w : World)
    (hrow : Row w g 259 (cs32 (words8 s) ++ rest)) (hkt : Row w 8 380 (cs32 K)) (hp : Bs w v ps) (hm : ps.length % 64 = 0) (hbig : ps.length ≤ maxLen) :
    Calls Tryz.prog 266 #[.pointer (some ⟨g, 0, none⟩), v] w fun e w' => e = .returned (.tuple #[]) ∧ Row w' g 259 (cs32 (words8 (comp32 K ps s)) ++ rest) ∧ But g w w' := by
  have hb := Lib.hid (block256 K hK g s rest v ps w hrow hkt hp hm hbig)
  clear hrow hkt hp hm hbig
  go_enter Tryz.func266, Tryz.ntmps266
  go_wp2_with (go_at_call 271; refine hb.out.mono ?_; rintro e w1 ⟨rfl, hr, hbt⟩)
  go_end0
  exact ⟨rfl, hr, hbt⟩

set_option maxRecDepth 100000 in
set_option maxHeartbeats 1000000 in
/-- A new digest lies in a new block. -/
theorem new256 (w : World) :
    Calls Tryz.prog 88 #[] w fun e w' => e = .returned (.pointer (some ⟨w.heap.size, 0, none⟩)) ∧ Row w' w.heap.size 259 (dig32 init32 (List.replicate 64 0) 0 0) ∧ Below w.heap.size w w' ∧ w'.heap.size = w.heap.size + 1 := by
  go_enter Tryz.func88, Tryz.ntmps88
  have hz : Tryz.zeroCells259 = (dig32 ⟨0, 0, 0, 0, 0, 0, 0, 0⟩ (List.replicate 64 0) 0 0).toArray := by kernel_rfl
  have hr0 := Row.alloc w (dig32 ⟨0, 0, 0, 0, 0, 0, 0, 0⟩ (List.replicate 64 0) 0 0) 259
  rw [← hz] at hr0
  have hr := Lib.hid (reset256 w.heap.size ⟨0, 0, 0, 0, 0, 0, 0, 0⟩ (List.replicate 64 0) 0 0 _ (by simp) hr0)
  clear hr0 hz
  go_wp2_with (go_at_call 121; refine hr.out.mono ?_; rintro e w1 ⟨rfl, hq, ho⟩)
  go_ret
  exact ⟨rfl, hq, ((Below.refl _ _).alloc (Nat.le_refl _) _).trans (ho.below (Nat.le_refl _)), by rw [ho.size]; simp⟩

set_option maxRecDepth 100000 in
theorem blockSize256 (v : Value) (w : World) :
    Calls Tryz.prog 258 #[v] w fun e w' => e = .returned (.int .i64 64) ∧ w = w' := by
  go_enter Tryz.func258, Tryz.ntmps258
  go_wp2
  go_ret
  exact ⟨rfl, rfl⟩
end Go.Proofs.YtaemdppihpefnaaGreatDoor
