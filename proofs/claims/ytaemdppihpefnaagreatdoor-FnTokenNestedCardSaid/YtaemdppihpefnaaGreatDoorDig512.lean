/- The digest of SHA-512 and SHA-384: anew. -/
import Derived.Test.YtaemdppihpefnaaGreatDoorBlockKit
import Derived.Test.YtaemdppihpefnaaGreatDoorPut
namespace Go.Proofs.YtaemdppihpefnaaGreatDoor
open Go.RowKit
set_option linter.unusedVariables false

def init64_512 : S8 := ⟨7640891576956012808, 13503953896175478587, 4354685564936845355, 11912009170470909681, 5840696475078001361, 11170449401992604703, 2270897969802886507, 6620516959819538809⟩
def init64_384 : S8 := ⟨14680500436340154072, 7105036623409894663, 10473403895298186519, 1526699215303891257, 7436329637833083697, 10282925794625328401, 15784041429090275239, 5167115440072839076⟩
/-- The cells of a digest: eight words, the waiting bytes, their number, the length, the size. -/
def dig64 (s : S8) (x : List Int) (nx len sz : Int) : List Value := cs64 (words8 s) ++ (cs8 x ++ [.int .i64 nx, .int .u64 len, .int .i64 sz])
theorem dig64_nx (s : S8) (x : List Int) (nx len sz m : Int) (hx : x.length = 128) : (dig64 s x nx len sz).set 136 (.int .i64 m) = dig64 s x m len sz := by
  have hxl : (cs8 x).length = 128 := by simp [cs8, hx]
  unfold dig64
  rw [List.set_append_right _ _ (by simp [cs64, words8]), List.set_append_right _ _ (by simp [cs64, words8, hxl])]
  simp [cs64, words8, hxl]
theorem dig64_len (s : S8) (x : List Int) (nx len sz m : Int) (hx : x.length = 128) : (dig64 s x nx len sz).set 137 (.int .u64 m) = dig64 s x nx m sz := by
  have hxl : (cs8 x).length = 128 := by simp [cs8, hx]
  unfold dig64
  rw [List.set_append_right _ _ (by simp [cs64, words8]), List.set_append_right _ _ (by simp [cs64, words8, hxl])]
  simp [cs64, words8, hxl]
theorem dig64_eight (s t : S8) (x : List Int) (nx len sz : Int) : ((((((((dig64 s x nx len sz).set 0 (.int .u64 t.a)).set 1 (.int .u64 t.b)).set 2 (.int .u64 t.c)).set 3 (.int .u64 t.d)).set 4 (.int .u64 t.e)).set 5 (.int .u64 t.f)).set 6 (.int .u64 t.g)).set 7 (.int .u64 t.h) = dig64 t x nx len sz := rfl

set_option maxRecDepth 100000 in
set_option maxHeartbeats 1000000 in
theorem reset512 (g : Nat) (s : S8) (x : List Int) (nx len : Int) (w : World) (hx : x.length = 128) (h : Row w g 263 (dig64 s x nx len 64)) :
    Calls Tryz.prog 122 #[.pointer (some ⟨g, 0, none⟩)] w fun e w' => e = .returned (.tuple #[]) ∧ Row w' g 263 (dig64 init64_512 x 0 0 64) ∧ Only g w w' := by
  have a0 : w.cell? ⟨g, 0, none⟩ = some (.int .u64 s.a) := by rw [h.cell]; rfl
  have a1 : w.cell? ⟨g, 1, none⟩ = some (.int .u64 s.b) := by rw [h.cell]; rfl
  have a2 : w.cell? ⟨g, 2, none⟩ = some (.int .u64 s.c) := by rw [h.cell]; rfl
  have a3 : w.cell? ⟨g, 3, none⟩ = some (.int .u64 s.d) := by rw [h.cell]; rfl
  have a4 : w.cell? ⟨g, 4, none⟩ = some (.int .u64 s.e) := by rw [h.cell]; rfl
  have a5 : w.cell? ⟨g, 5, none⟩ = some (.int .u64 s.f) := by rw [h.cell]; rfl
  have a6 : w.cell? ⟨g, 6, none⟩ = some (.int .u64 s.g) := by rw [h.cell]; rfl
  have a7 : w.cell? ⟨g, 7, none⟩ = some (.int .u64 s.h) := by rw [h.cell]; rfl
  have hxl : (cs8 x).length = 128 := by simp [cs8, hx]
  have d0 : (dig64 s x nx len 64)[136]? = some (.int .i64 nx) := by
    unfold dig64
    rw [List.getElem?_append_right (by simp [cs64, words8]), List.getElem?_append_right (by simp [cs64, words8, hxl])]
    simp [cs64, words8, hxl]
  have b0 : w.cell? ⟨g, 136, none⟩ = some (.int .i64 nx) := by rw [h.cell, d0]
  have d1 : (dig64 s x nx len 64)[137]? = some (.int .u64 len) := by
    unfold dig64
    rw [List.getElem?_append_right (by simp [cs64, words8]), List.getElem?_append_right (by simp [cs64, words8, hxl])]
    simp [cs64, words8, hxl]
  have b1 : w.cell? ⟨g, 137, none⟩ = some (.int .u64 len) := by rw [h.cell, d1]
  have d2 : (dig64 s x nx len 64)[138]? = some (.int .i64 64) := by
    unfold dig64
    rw [List.getElem?_append_right (by simp [cs64, words8]), List.getElem?_append_right (by simp [cs64, words8, hxl])]
    simp [cs64, words8, hxl]
  have b2 : w.cell? ⟨g, 138, none⟩ = some (.int .i64 64) := by rw [h.cell, d2]
  have f0 := h.unfrozen 0
  have f1 := h.unfrozen 1
  have f2 := h.unfrozen 2
  have f3 := h.unfrozen 3
  have f4 := h.unfrozen 4
  have f5 := h.unfrozen 5
  have f6 := h.unfrozen 6
  have f7 := h.unfrozen 7
  have f8 := h.unfrozen 136
  have f9 := h.unfrozen 137
  have H := Lib.hid h
  clear h d0 d1 d2
  go_enter Tryz.func122, Tryz.ntmps122
  go_wp2
  go_end0
  have key : ∀ w' : World, Row w' g 263 (dig64 init64_512 x nx len 64) → Row ((w'.setCell ⟨g, 136, none⟩ (.int .i64 0)).setCell ⟨g, 137, none⟩ (.int .u64 0)) g 263 (dig64 init64_512 x 0 0 64) := by
    intro w' h'
    have r2 := (h'.set 136 (.int .i64 0)).set 137 (.int .u64 0)
    rw [dig64_nx _ _ _ _ _ _ hx, dig64_len _ _ _ _ _ _ hx] at r2
    exact r2
  refine ⟨rfl, key _ ?_, ?_⟩
  · have r1 := ((((((((H.out.set 0 (.int .u64 7640891576956012808)).set 1 (.int .u64 13503953896175478587)).set 2 (.int .u64 4354685564936845355)).set 3 (.int .u64 11912009170470909681)).set 4 (.int .u64 5840696475078001361)).set 5 (.int .u64 11170449401992604703)).set 6 (.int .u64 2270897969802886507)).set 7 (.int .u64 6620516959819538809))
    rw [dig64_eight s ⟨7640891576956012808, 13503953896175478587, 4354685564936845355, 11912009170470909681, 5840696475078001361, 11170449401992604703, 2270897969802886507, 6620516959819538809⟩ x nx len 64] at r1
    exact r1
  · exact ((((((((((Only.set _ _ _ _).tr (Only.set _ _ _ _)).tr (Only.set _ _ _ _)).tr (Only.set _ _ _ _)).tr (Only.set _ _ _ _)).tr (Only.set _ _ _ _)).tr (Only.set _ _ _ _)).tr (Only.set _ _ _ _)).tr (Only.set _ _ _ _)).tr (Only.set _ _ _ _))

set_option maxRecDepth 100000 in
set_option maxHeartbeats 1000000 in
theorem reset384 (g : Nat) (s : S8) (x : List Int) (nx len : Int) (w : World) (hx : x.length = 128) (h : Row w g 263 (dig64 s x nx len 48)) :
    Calls Tryz.prog 122 #[.pointer (some ⟨g, 0, none⟩)] w fun e w' => e = .returned (.tuple #[]) ∧ Row w' g 263 (dig64 init64_384 x 0 0 48) ∧ Only g w w' := by
  have a0 : w.cell? ⟨g, 0, none⟩ = some (.int .u64 s.a) := by rw [h.cell]; rfl
  have a1 : w.cell? ⟨g, 1, none⟩ = some (.int .u64 s.b) := by rw [h.cell]; rfl
  have a2 : w.cell? ⟨g, 2, none⟩ = some (.int .u64 s.c) := by rw [h.cell]; rfl
  have a3 : w.cell? ⟨g, 3, none⟩ = some (.int .u64 s.d) := by rw [h.cell]; rfl
  have a4 : w.cell? ⟨g, 4, none⟩ = some (.int .u64 s.e) := by rw [h.cell]; rfl
  have a5 : w.cell? ⟨g, 5, none⟩ = some (.int .u64 s.f) := by rw [h.cell]; rfl
  have a6 : w.cell? ⟨g, 6, none⟩ = some (.int .u64 s.g) := by rw [h.cell]; rfl
  have a7 : w.cell? ⟨g, 7, none⟩ = some (.int .u64 s.h) := by rw [h.cell]; rfl
  have hxl : (cs8 x).length = 128 := by simp [cs8, hx]
  have d0 : (dig64 s x nx len 48)[136]? = some (.int .i64 nx) := by
    unfold dig64
    rw [List.getElem?_append_right (by simp [cs64, words8]), List.getElem?_append_right (by simp [cs64, words8, hxl])]
    simp [cs64, words8, hxl]
  have b0 : w.cell? ⟨g, 136, none⟩ = some (.int .i64 nx) := by rw [h.cell, d0]
  have d1 : (dig64 s x nx len 48)[137]? = some (.int .u64 len) := by
    unfold dig64
    rw [List.getElem?_append_right (by simp [cs64, words8]), List.getElem?_append_right (by simp [cs64, words8, hxl])]
    simp [cs64, words8, hxl]
  have b1 : w.cell? ⟨g, 137, none⟩ = some (.int .u64 len) := by rw [h.cell, d1]
  have d2 : (dig64 s x nx len 48)[138]? = some (.int .i64 48) := by
    unfold dig64
    rw [List.getElem?_append_right (by simp [cs64, words8]), List.getElem?_append_right (by simp [cs64, words8, hxl])]
    simp [cs64, words8, hxl]
  have b2 : w.cell? ⟨g, 138, none⟩ = some (.int .i64 48) := by rw [h.cell, d2]
  have f0 := h.unfrozen 0
  have f1 := h.unfrozen 1
  have f2 := h.unfrozen 2
  have f3 := h.unfrozen 3
  have f4 := h.unfrozen 4
  have f5 := h.unfrozen 5
  have f6 := h.unfrozen 6
  have f7 := h.unfrozen 7
  have f8 := h.unfrozen 136
  have f9 := h.unfrozen 137
  have H := Lib.hid h
  clear h d0 d1 d2
  go_enter Tryz.func122, Tryz.ntmps122
  go_wp2
  go_end0
  have key : ∀ w' : World, Row w' g 263 (dig64 init64_384 x nx len 48) → Row ((w'.setCell ⟨g, 136, none⟩ (.int .i64 0)).setCell ⟨g, 137, none⟩ (.int .u64 0)) g 263 (dig64 init64_384 x 0 0 48) := by
    intro w' h'
    have r2 := (h'.set 136 (.int .i64 0)).set 137 (.int .u64 0)
    rw [dig64_nx _ _ _ _ _ _ hx, dig64_len _ _ _ _ _ _ hx] at r2
    exact r2
  refine ⟨rfl, key _ ?_, ?_⟩
  · have r1 := ((((((((H.out.set 0 (.int .u64 14680500436340154072)).set 1 (.int .u64 7105036623409894663)).set 2 (.int .u64 10473403895298186519)).set 3 (.int .u64 1526699215303891257)).set 4 (.int .u64 7436329637833083697)).set 5 (.int .u64 10282925794625328401)).set 6 (.int .u64 15784041429090275239)).set 7 (.int .u64 5167115440072839076))
    rw [dig64_eight s ⟨14680500436340154072, 7105036623409894663, 10473403895298186519, 1526699215303891257, 7436329637833083697, 10282925794625328401, 15784041429090275239, 5167115440072839076⟩ x nx len 48] at r1
    exact r1
  · exact ((((((((((Only.set _ _ _ _).tr (Only.set _ _ _ _)).tr (Only.set _ _ _ _)).tr (Only.set _ _ _ _)).tr (Only.set _ _ _ _)).tr (Only.set _ _ _ _)).tr (Only.set _ _ _ _)).tr (Only.set _ _ _ _)).tr (Only.set _ _ _ _)).tr (Only.set _ _ _ _))

set_option maxRecDepth 100000 in
set_option maxHeartbeats 1000000 in
theorem new512 (w : World) :
    Calls Tryz.prog 94 #[] w fun e w' => e = .returned (.pointer (some ⟨w.heap.size, 0, none⟩)) ∧ Row w' w.heap.size 263 (dig64 init64_512 (List.replicate 128 0) 0 0 64) ∧ Below w.heap.size w w' ∧ w'.heap.size = w.heap.size + 1 := by
  go_enter Tryz.func94, Tryz.ntmps94
  have hz : Tryz.zeroCells263.setIfInBounds 138 (Value.int .i64 64) = (dig64 ⟨0, 0, 0, 0, 0, 0, 0, 0⟩ (List.replicate 128 0) 0 0 64).toArray := by kernel_rfl
  have hr0 := Row.alloc w (dig64 ⟨0, 0, 0, 0, 0, 0, 0, 0⟩ (List.replicate 128 0) 0 0 64) 263
  rw [← hz] at hr0
  have hr := Lib.hid (reset512 w.heap.size ⟨0, 0, 0, 0, 0, 0, 0, 0⟩ (List.replicate 128 0) 0 0 _ (by simp) hr0)
  clear hr0 hz
  go_wp2_with (go_at_call 122; refine hr.out.mono ?_; rintro e w1 ⟨rfl, hq, ho⟩)
  go_ret
  exact ⟨rfl, hq, ((Below.refl _ _).alloc (Nat.le_refl _) _).trans (ho.below (Nat.le_refl _)), by rw [ho.size]; simp⟩

set_option maxRecDepth 100000 in
set_option maxHeartbeats 1000000 in
theorem new384 (w : World) :
    Calls Tryz.prog 91 #[] w fun e w' => e = .returned (.pointer (some ⟨w.heap.size, 0, none⟩)) ∧ Row w' w.heap.size 263 (dig64 init64_384 (List.replicate 128 0) 0 0 48) ∧ Below w.heap.size w w' ∧ w'.heap.size = w.heap.size + 1 := by
  go_enter Tryz.func91, Tryz.ntmps91
  have hz : Tryz.zeroCells263.setIfInBounds 138 (Value.int .i64 48) = (dig64 ⟨0, 0, 0, 0, 0, 0, 0, 0⟩ (List.replicate 128 0) 0 0 48).toArray := by kernel_rfl
  have hr0 := Row.alloc w (dig64 ⟨0, 0, 0, 0, 0, 0, 0, 0⟩ (List.replicate 128 0) 0 0 48) 263
  rw [← hz] at hr0
  have hr := Lib.hid (reset384 w.heap.size ⟨0, 0, 0, 0, 0, 0, 0, 0⟩ (List.replicate 128 0) 0 0 _ (by simp) hr0)
  clear hr0 hz
  go_wp2_with (go_at_call 122; refine hr.out.mono ?_; rintro e w1 ⟨rfl, hq, ho⟩)
  go_ret
  exact ⟨rfl, hq, ((Below.refl _ _).alloc (Nat.le_refl _) _).trans (ho.below (Nat.le_refl _)), by rw [ho.size]; simp⟩

set_option maxRecDepth 100000 in
theorem blockSize512 (v : Value) (w : World) :
    Calls Tryz.prog 273 #[v] w fun e w' => e = .returned (.int .i64 128) ∧ w = w' := by
  go_enter Tryz.func273, Tryz.ntmps273
  go_wp2
  go_ret
  exact ⟨rfl, rfl⟩
end Go.Proofs.YtaemdppihpefnaaGreatDoor
