/- The digest of SHA-256: anew, and the gate of its block function. -/
import Derived.Test.YtaemdppihpefnaaGreatDoorBlock256
import Derived.Test.YtaemdppihpefnaaGreatDoorHashKit
import Derived.Laws.BitsAllLaws
import Derived.StillTailTactics
import Derived.Deep.LoopGhost
import Derived.Deep.DeepCutAuto
import Derived.Outline
namespace Go.Proofs.YtaemdppihpefnaaGreatDoor
open Go.RowKit
set_option linter.unusedVariables false

def init32 : S8 := ⟨1779033703, 3144134277, 1013904242, 2773480762, 1359893119, 2600822924, 528734635, 1541459225⟩
/-- The cells of a digest: eight words, the waiting bytes, their number, the length. -/
def dig32 (s : S8) (x : List Int) (nx len : Int) : List Value := cs32 (words8 s) ++ (cs8 x ++ [.int .i64 nx, .int .u64 len, .bool false])

theorem dig_nx (s : S8) (x : List Int) (nx len m : Int) (hx : x.length = 64) : (dig32 s x nx len).set 72 (.int .i64 m) = dig32 s x m len := by
  have hxl : (cs8 x).length = 64 := by simp [cs8, hx]
  unfold dig32
  rw [List.set_append_right _ _ (by simp [cs32, words8]), List.set_append_right _ _ (by simp [cs32, words8, hxl])]
  simp [cs32, words8, hxl]
theorem dig_len (s : S8) (x : List Int) (nx len m : Int) (hx : x.length = 64) : (dig32 s x nx len).set 73 (.int .u64 m) = dig32 s x nx m := by
  have hxl : (cs8 x).length = 64 := by simp [cs8, hx]
  unfold dig32
  rw [List.set_append_right _ _ (by simp [cs32, words8]), List.set_append_right _ _ (by simp [cs32, words8, hxl])]
  simp [cs32, words8, hxl]

theorem dig_eight (s t : S8) (x : List Int) (nx len : Int) : ((((((((dig32 s x nx len).set 0 (.int .u32 t.a)).set 1 (.int .u32 t.b)).set 2 (.int .u32 t.c)).set 3 (.int .u32 t.d)).set 4 (.int .u32 t.e)).set 5 (.int .u32 t.f)).set 6 (.int .u32 t.g)).set 7 (.int .u32 t.h) = dig32 t x nx len := rfl

set_option maxRecDepth 100000 in
set_option maxHeartbeats 1000000 in
theorem reset256 (g : Nat) (s : S8) (x : List Int) (nx len : Int) (w : World) (hx : x.length = 64) (h : Row w g 259 (dig32 s x nx len)) :
    Calls Tryz.prog 121 #[.pointer (some ⟨g, 0, none⟩)] w fun e w' => e = .returned (.tuple #[]) ∧ Row w' g 259 (dig32 init32 x 0 0) ∧ Only g w w' := by
  have a0 : w.cell? ⟨g, 0, none⟩ = some (.int .u32 s.a) := by rw [h.cell]; rfl
  have a1 : w.cell? ⟨g, 1, none⟩ = some (.int .u32 s.b) := by rw [h.cell]; rfl
  have a2 : w.cell? ⟨g, 2, none⟩ = some (.int .u32 s.c) := by rw [h.cell]; rfl
  have a3 : w.cell? ⟨g, 3, none⟩ = some (.int .u32 s.d) := by rw [h.cell]; rfl
  have a4 : w.cell? ⟨g, 4, none⟩ = some (.int .u32 s.e) := by rw [h.cell]; rfl
  have a5 : w.cell? ⟨g, 5, none⟩ = some (.int .u32 s.f) := by rw [h.cell]; rfl
  have a6 : w.cell? ⟨g, 6, none⟩ = some (.int .u32 s.g) := by rw [h.cell]; rfl
  have a7 : w.cell? ⟨g, 7, none⟩ = some (.int .u32 s.h) := by rw [h.cell]; rfl
  have hxl : (cs8 x).length = 64 := by simp [cs8, hx]
  have d1 : (dig32 s x nx len)[72]? = some (.int .i64 nx) := by
    unfold dig32
    rw [List.getElem?_append_right (by simp [cs32, words8]), List.getElem?_append_right (by simp [cs32, words8, hxl])]
    simp [cs32, words8, hxl]
  have d2 : (dig32 s x nx len)[73]? = some (.int .u64 len) := by
    unfold dig32
    rw [List.getElem?_append_right (by simp [cs32, words8]), List.getElem?_append_right (by simp [cs32, words8, hxl])]
    simp [cs32, words8, hxl]
  have d3 : (dig32 s x nx len)[74]? = some (.bool false) := by
    unfold dig32
    rw [List.getElem?_append_right (by simp [cs32, words8]), List.getElem?_append_right (by simp [cs32, words8, hxl])]
    simp [cs32, words8, hxl]
  have b1 : w.cell? ⟨g, 72, none⟩ = some (.int .i64 nx) := by rw [h.cell, d1]
  have b2 : w.cell? ⟨g, 73, none⟩ = some (.int .u64 len) := by rw [h.cell, d2]
  have b3 : w.cell? ⟨g, 74, none⟩ = some (.bool false) := by rw [h.cell, d3]
  have f0 := h.unfrozen 0
  have f1 := h.unfrozen 1
  have f2 := h.unfrozen 2
  have f3 := h.unfrozen 3
  have f4 := h.unfrozen 4
  have f5 := h.unfrozen 5
  have f6 := h.unfrozen 6
  have f7 := h.unfrozen 7
  have f8 := h.unfrozen 72
  have f9 := h.unfrozen 73
  have H := Lib.hid h
  clear h d1 d2 d3
  go_enter Tryz.func121, Tryz.ntmps121
  go_wp2
  go_end0
  have key : ∀ w' : World, Row w' g 259 (dig32 init32 x nx len) → Row ((w'.setCell ⟨g, 72, none⟩ (.int .i64 0)).setCell ⟨g, 73, none⟩ (.int .u64 0)) g 259 (dig32 init32 x 0 0) := by
    intro w' h'
    have r2 := (h'.set 72 (.int .i64 0)).set 73 (.int .u64 0)
    rw [dig_nx _ _ _ _ _ hx, dig_len _ _ _ _ _ hx] at r2
    exact r2
  refine ⟨rfl, key _ ?_, ?_⟩
  · have r1 := ((((((((H.out.set 0 (.int .u32 1779033703)).set 1 (.int .u32 3144134277)).set 2 (.int .u32 1013904242)).set 3 (.int .u32 2773480762)).set 4 (.int .u32 1359893119)).set 5 (.int .u32 2600822924)).set 6 (.int .u32 528734635)).set 7 (.int .u32 1541459225))
    rw [dig_eight s ⟨1779033703, 3144134277, 1013904242, 2773480762, 1359893119, 2600822924, 528734635, 1541459225⟩ x nx len] at r1
    exact r1
  · exact (((((((((Only.set _ _ _ _).tr (Only.set _ _ _ _)).tr (Only.set _ _ _ _)).tr (Only.set _ _ _ _)).tr (Only.set _ _ _ _)).tr (Only.set _ _ _ _)).tr (Only.set _ _ _ _)).tr (Only.set _ _ _ _)).tr (Only.set _ _ _ _)).tr (Only.set _ _ _ _)

set_option maxRecDepth 100000 in
set_option maxHeartbeats 1000000 in
/-- The gate of the block function. -/
theorem gate256 (K : List Int) (hK : K.length = 64) (g : Nat) (s : S8) (rest : List Value) (v : Value) (ps : List Int) (w : World)
    (hrow : Row w g 259 (cs32 (words8 s) ++ rest)) (hkt : Row w 8 380 (cs32 K)) (hp : Bs w v ps) (hm : ps.length % 64 = 0) (hbig : ps.length ≤ maxLen) :
    Calls Tryz.prog 266 #[.pointer (some ⟨g, 0, none⟩), v] w fun e w' => e = .returned (.tuple #[]) ∧ Row w' g 259 (cs32 (words8 (comp32 K ps s)) ++ rest) ∧ But g w w' := by
  have hb := Lib.hid (block256 K hK g s rest v ps w hrow hkt hp hm hbig)
  clear hrow hkt hp hm hbig
  go_enter Tryz.func266, Tryz.ntmps266
  go_wp2_with (go_at_call 271; refine hb.out.mono ?_; rintro e w1 ⟨rfl, hr, hbt⟩)
  go_end0
  exact ⟨rfl, hr, hbt⟩

set_option maxRecDepth 100000 in
set_option maxHeartbeats 1000000 in
/-- A new digest lies in a new block. -/
theorem new256 (w : World) :
    Calls Tryz.prog 88 #[] w fun e w' => e = .returned (.pointer (some ⟨w.heap.size, 0, none⟩)) ∧ Row w' w.heap.size 259 (dig32 init32 (List.replicate 64 0) 0 0) ∧ Below w.heap.size w w' ∧ w'.heap.size = w.heap.size + 1 := by
  go_enter Tryz.func88, Tryz.ntmps88
  have hz : Tryz.zeroCells259 = (dig32 ⟨0, 0, 0, 0, 0, 0, 0, 0⟩ (List.replicate 64 0) 0 0).toArray := by kernel_rfl
  have hr0 := Row.alloc w (dig32 ⟨0, 0, 0, 0, 0, 0, 0, 0⟩ (List.replicate 64 0) 0 0) 259
  rw [← hz] at hr0
  have hr := Lib.hid (reset256 w.heap.size ⟨0, 0, 0, 0, 0, 0, 0, 0⟩ (List.replicate 64 0) 0 0 _ (by simp) hr0)
  clear hr0 hz
  go_wp2_with (go_at_call 121; refine hr.out.mono ?_; rintro e w1 ⟨rfl, hq, ho⟩)
  go_ret
  exact ⟨rfl, hq, ((Below.refl _ _).alloc (Nat.le_refl _) _).trans (ho.below (Nat.le_refl _)), by rw [ho.size]; simp⟩

set_option maxRecDepth 100000 in
theorem blockSize256 (v : Value) (w : World) :
    Calls Tryz.prog 258 #[v] w fun e w' => e = .returned (.int .i64 64) ∧ w = w' := by
  go_enter Tryz.func258, Tryz.ntmps258
  go_wp2
  go_ret
  exact ⟨rfl, rfl⟩
end Go.Proofs.YtaemdppihpefnaaGreatDoor

/- What the digest of SHA-256 is behind a writing: plain words. -/
namespace Go.Proofs.YtaemdppihpefnaaGreatDoor
open Go.RowKit
set_option linter.unusedVariables false

/-- A digest: its words, the waiting bytes' array, their number, the length. -/
structure D32 where
  (s : S8) (x : List Int) (nx : Nat) (len : Int)
def D32.cells (d : D32) : List Value := dig32 d.s d.x d.nx d.len

/-- The first part of a writing: the waiting bytes are filled up. -/
def fillN (nx n : Nat) : Nat := min (64 - nx) n
def fill32 (K : List Int) (d : D32) (p : List Int) : D32 × List Int :=
  if d.nx = 0 then (d, p) else
  if d.nx + fillN d.nx p.length = 64 then (⟨comp32 K (splice d.x d.nx (p.take (fillN d.nx p.length))) d.s, splice d.x d.nx (p.take (fillN d.nx p.length)), 0, d.len⟩, p.drop (fillN d.nx p.length))
  else (⟨d.s, splice d.x d.nx (p.take (fillN d.nx p.length)), d.nx + fillN d.nx p.length, d.len⟩, p.drop (fillN d.nx p.length))
/-- The second part: whole blocks. -/
def whole32 (K : List Int) (d : D32) (p : List Int) : D32 × List Int :=
  if 64 ≤ p.length then (⟨comp32 K (p.take (p.length / 64 * 64)) d.s, d.x, d.nx, d.len⟩, p.drop (p.length / 64 * 64)) else (d, p)
/-- The third part: what is left waits. -/
def rest32 (d : D32) (p : List Int) : D32 := if 0 < p.length then ⟨d.s, splice d.x 0 p, p.length, d.len⟩ else d
def longer32 (d : D32) (n : Nat) : D32 := ⟨d.s, d.x, d.nx, IntKind.u64.wrap (d.len + n)⟩
def write32 (K : List Int) (d : D32) (p : List Int) : D32 :=
  rest32 (whole32 K (fill32 K (longer32 d p.length) p).1 (fill32 K (longer32 d p.length) p).2).1 (whole32 K (fill32 K (longer32 d p.length) p).1 (fill32 K (longer32 d p.length) p).2).2

theorem splice_mid {α : Type} (A B C cs : List α) (o : Nat) (h : o + cs.length ≤ B.length) : splice (A ++ (B ++ C)) (A.length + o) cs = A ++ (splice B o cs ++ C) := by
  unfold splice
  rw [List.take_length_add_append, List.take_append_of_le_length (by omega), Nat.add_assoc, List.drop_length_add_append, List.drop_append_of_le_length h]
  simp only [List.append_assoc]
theorem dig32_x (s : S8) (x : List Int) (nx len : Int) (o : Nat) (p : List Int) (h : o + p.length ≤ x.length) : splice (dig32 s x nx len) (8 + o) (cs8 p) = dig32 s (splice x o p) nx len := by
  have h8 : (cs32 (words8 s)).length = 8 := by simp [cs32, words8]
  unfold dig32
  rw [← h8, splice_mid _ _ _ _ _ (by simpa [cs8] using h), cs8_splice]
theorem fillN_le (nx n : Nat) : fillN nx n ≤ 64 - nx ∧ fillN nx n ≤ n := by unfold fillN; omega
theorem nat_down (n j : Nat) (h : n < 2 ^ 64) (hj : j ≤ 64) : n &&& ((2 ^ (64 - j) - 1) <<< j) = (n >>> j) <<< j := by
  apply Nat.eq_of_testBit_eq
  intro i
  rw [Nat.testBit_and, Nat.testBit_shiftLeft, Nat.testBit_shiftLeft, Nat.testBit_shiftRight, Nat.testBit_two_pow_sub_one]
  by_cases h1 : j ≤ i
  · rw [show j + (i - j) = i by omega]
    by_cases h2 : i < 64
    · simp [h1, show i - j < 64 - j by omega]
    · have : n.testBit i = false := Nat.testBit_lt_two_pow (Nat.lt_of_lt_of_le h (Nat.pow_le_pow_right (by omega) (by omega)))
      simp [this]
  · simp [h1]
theorem down64 (n : Nat) (h : n ≤ 65536) : bits .andNot .i64 (n : Int) 63 = ((n / 64 * 64 : Nat) : Int) := by
  show IntKind.i64.wrap ((BitVec.ofInt 64 (n : Int) &&& ~~~BitVec.ofInt 64 ((63 : Nat) : Int)).toNat : Int) = _
  rw [BitVec.toNat_and, BitVec.toNat_not, ofInt_u64 n (by omega), ofInt_u64 63 (by omega)]
  rw [show 2 ^ 64 - 1 - 63 = (2 ^ (64 - 6) - 1) <<< 6 by decide, nat_down n 6 (by omega) (by omega), Nat.shiftLeft_eq, Nat.shiftRight_eq_div_pow]
  rw [IntKind.wrap_i64]
  all_goals omega
theorem down128 (n : Nat) (h : n ≤ 65536) : bits .andNot .i64 (n : Int) 127 = ((n / 128 * 128 : Nat) : Int) := by
  show IntKind.i64.wrap ((BitVec.ofInt 64 (n : Int) &&& ~~~BitVec.ofInt 64 ((127 : Nat) : Int)).toNat : Int) = _
  rw [BitVec.toNat_and, BitVec.toNat_not, ofInt_u64 n (by omega), ofInt_u64 127 (by omega)]
  rw [show 2 ^ 64 - 1 - 127 = (2 ^ (64 - 7) - 1) <<< 7 by decide, nat_down n 7 (by omega) (by omega), Nat.shiftLeft_eq, Nat.shiftRight_eq_div_pow]
  rw [IntKind.wrap_i64]
  all_goals omega
end Go.Proofs.YtaemdppihpefnaaGreatDoor

/- (*sha256.Digest).Write, whatever the table holds (up to 65536 bytes at once). -/
namespace Go.Proofs.YtaemdppihpefnaaGreatDoor
open Go.RowKit
set_option linter.unusedVariables false

theorem dcell_nx {d : D32} (hx : d.x.length = 64) : d.cells[72]? = some (.int .i64 d.nx) := by
  have hxl : (cs8 d.x).length = 64 := by simp [cs8, hx]
  unfold D32.cells dig32
  rw [List.getElem?_append_right (by simp [cs32, words8]), List.getElem?_append_right (by simp [cs32, words8, hxl])]
  simp [cs32, words8, hxl]
theorem dcell_len {d : D32} (hx : d.x.length = 64) : d.cells[73]? = some (.int .u64 d.len) := by
  have hxl : (cs8 d.x).length = 64 := by simp [cs8, hx]
  unfold D32.cells dig32
  rw [List.getElem?_append_right (by simp [cs32, words8]), List.getElem?_append_right (by simp [cs32, words8, hxl])]
  simp [cs32, words8, hxl]

theorem whole32_lt (K : List Int) (d : D32) (p : List Int) : (whole32 K d p).2.length < 64 := by
  unfold whole32
  split
  · simp only [List.length_drop]; omega
  · show p.length < 64; omega
theorem dig32_at (s : S8) (x : List Int) (nx len : Int) : ∀ i, i < x.length → (dig32 s x nx len)[8 + i]? = some (.int .u8 (x.getD i 0)) := by
  intro i hi
  unfold dig32
  rw [List.getElem?_append_right (by simp [cs32, words8])]
  have e : 8 + i - (cs32 (words8 s)).length = i := by simp [cs32, words8]
  rw [e, List.getElem?_append_left (by rw [length_cs8]; exact hi), get_cs8 x i hi]
/-- What a part of a writing leaves. -/
structure Mid32 (g : Nat) (v : Value) (ps : List Int) (w : World) (q : D32 × List Int) (v1 : Value) (wx : World) : Prop where
  len : q.1.x.length = 64
  row : Row wx g 259 q.1.cells
  bs : ∀ w', Bs w' v ps → Bs w' v1 q.2
  but : But g w wx
  le : q.2.length ≤ 65536

set_option maxRecDepth 100000 in
set_option maxHeartbeats 4000000 in
theorem write256 (K : List Int) (hK : K.length = 64) (g : Nat) (d : D32) (v : Value) (ps : List Int) (w : World)
    (hx : d.x.length = 64) (hnx : d.nx < 64) (hrow : Row w g 259 d.cells) (hkt : Row w 8 380 (cs32 K)) (hgk : 8 ≠ g)
    (hp : Bs w v ps) (hoff : Off g v) (hbig : ps.length ≤ 65536) :
    Calls Tryz.prog 262 #[.pointer (some ⟨g, 0, none⟩), v] w fun e w' => e = .returned (.tuple #[.int .i64 ps.length, .nilIface]) ∧ Row w' g 259 (write32 K d ps).cells ∧ But g w w' := by
  have b1 : w.cell? ⟨g, 72, none⟩ = some (.int .i64 d.nx) := by rw [hrow.cell, dcell_nx hx]
  have b2 : w.cell? ⟨g, 73, none⟩ = some (.int .u64 d.len) := by rw [hrow.cell, dcell_len hx]
  have f1 := hrow.unfrozen 72
  have f2 := hrow.unfrozen 73
  have hrow1 : Row (w.setCell ⟨g, 73, none⟩ (.int .u64 (IntKind.u64.wrap (d.len + ps.length)))) g 259 (longer32 d ps.length).cells := by
    have := hrow.set 73 (.int .u64 (IntKind.u64.wrap (d.len + ps.length)))
    unfold D32.cells at this
    rw [dig_len _ _ _ _ _ hx] at this
    exact this
  have hO := Only.set w g 73 (.int .u64 (IntKind.u64.wrap (d.len + ps.length)))
  have hB1 := hp.but hoff (But.of_only hO)
  have hk1 := hkt.only hO hgk
  have HR := Lib.hid hrow1
  have HB := Lib.hid hB1
  have HK := Lib.hid hk1
  have HO := Lib.hid (But.of_only hO)
  have Hx := Lib.hid hx
  have HB0 := Lib.hid hp
  have HK0 := Lib.hid hkt
  have Hoff := Lib.hid hoff
  clear hrow hp hkt hrow1 hO hB1 hk1 hx hoff
  obtain ⟨vp, vc, rfl, _, _, _⟩ := id HB.out
  go_enter Tryz.func262, Tryz.ntmps262
  go_upto_region 3 with (fail)
  generalize w.setCell ⟨g, 73, none⟩ (.int .u64 (IntKind.u64.wrap (d.len + ps.length))) = w1 at *
  have c1 : w1.cell? ⟨g, 72, none⟩ = some (.int .i64 d.nx) := by rw [HR.out.cell]; exact dcell_nx (d := longer32 d ps.length) Hx.out
  have e1 := HR.out.unfrozen 72
  clear b1 b2 f1 f2
  go_upto_if 23 with (fail)
  go_cut [1, 6] (fun v1 n1 wx => Mid32 g (.slice vp ps.length vc) ps w (fill32 K (longer32 d ps.length) ps) v1 wx)
  case first =>
    by_cases hn0 : d.nx = 0
    · go_wp2_with fail
      go_meet
      refine ⟨?_, ?_, ?_, HO.out, ?_⟩
      all_goals (unfold fill32; rw [if_pos (show (longer32 d ps.length).nx = 0 from hn0)])
      · exact Hx.out
      · exact HR.out
      · exact fun w' h => h
      · exact hbig
    · have hpos : 0 < d.nx := by omega
      have R2 := Lib.hid (row_drew HR.out)
      have B2 : Hid (Bs w1.drew (.slice vp ps.length vc) ps) := Lib.hid (show Bs w1.drew (.slice vp ps.length vc) ps from HB.out)
      have O2 := Lib.hid HO.out.drew
      have K2 : Hid (Row w1.drew 8 380 (cs32 K)) := Lib.hid (show Row w1.drew _ _ _ from HK.out)
      have hsl := run_arr_from (P := Tryz.prog) 257 5 64 Tryz.underlying257 (by kernel_rfl) g 8 d.nx .i64 d.nx rfl hnx
      go_wp2_with fail
      go_still_tail 9, (by kernel_rfl)
      clear hsl
      change wpList _ _ _ _ _ w1.drew
      generalize w1.drew = w2 at *
      obtain ⟨m, hm⟩ : ∃ m, fillN d.nx ps.length = m := ⟨_, rfl⟩
      have hle := fillN_le d.nx ps.length
      rw [hm] at hle
      have hmin : m = ps.length.min (64 - d.nx) := by rw [← hm]; show _ = min ps.length (64 - d.nx); unfold fillN; omega
      have hcl : (cs8 (ps.take m)).length = m := by rw [length_cs8, List.length_take]; omega
      have htl : (ps.take m).length = m := by rw [List.length_take]; omega
      have Hf : Hid (fill32 K (longer32 d ps.length) ps = if d.nx + m = 64 then (⟨comp32 K (splice d.x d.nx (ps.take m)) d.s, splice d.x d.nx (ps.take m), 0, IntKind.u64.wrap (d.len + ps.length)⟩, ps.drop m) else (⟨d.s, splice d.x d.nx (ps.take m), d.nx + m, IntKind.u64.wrap (d.len + ps.length)⟩, ps.drop m)) := by
        refine Lib.hid ?_
        unfold fill32
        rw [if_neg (show ¬ (longer32 d ps.length).nx = 0 from hn0)]
        show (if d.nx + fillN d.nx ps.length = 64 then _ else _) = _
        rw [← hm]; rfl
      have Hm := Lib.hid hm
      have Hmin := Lib.hid hmin
      have Hcl := Lib.hid hcl
      have Htl := Lib.hid htl
      obtain ⟨hle1, hle2⟩ := hle
      clear hm hmin hcl htl
      refine wpl_copy rfl (.tmp 31) (.tmp 32) 22 22 rfl 5 Tryz.underlying22 (by kernel_rfl) (some ⟨g, 8 + d.nx, none⟩) vp (64 - d.nx) (64 - d.nx) ps.length vc rfl rfl g (8 + d.nx) _ _ R2.out (cs8 (ps.take m)) ?hn ?hpos ?hfit (one_cs8 _) ?_
      case hn => rw [Hcl.out]; exact Hmin.out
      case hpos =>
        intro hp
        refine ⟨rfl, ?_⟩
        obtain ⟨b, o, rfl, _⟩ := B2.out.at (show 0 < ps.length by rw [Hcl.out] at hp; omega)
        exact ⟨_, rfl, B2.out.head m⟩
      case hfit =>
        rw [Hcl.out]
        have := Hx.out
        simp only [D32.cells, dig32, longer32, List.length_append, length_cs8, List.length_cons, List.length_nil, cs32, words8, List.length_map]
        omega
      intro w3 R3 O3
      rw [Hcl.out]
      have R3 : Row w3 g 259 (dig32 d.s (splice d.x d.nx (ps.take m)) d.nx (IntKind.u64.wrap (d.len + ps.length))) := by
        have h := dig32_x d.s d.x d.nx (IntKind.u64.wrap (d.len + ps.length)) d.nx (ps.take m) (by rw [Htl.out, Hx.out]; omega)
        rw [← h]; exact R3
      have Hsl : Hid ((splice d.x d.nx (ps.take m)).length = 64) := Lib.hid (by rw [length_splice _ _ _ (by rw [Htl.out, Hx.out]; omega)]; exact Hx.out)
      have B3 := Lib.hid (B2.out.but Hoff.out (But.of_only O3))
      have K3 := Lib.hid (K2.out.only O3 hgk)
      have O3 := Lib.hid (O2.out.trans (But.of_only O3))
      have R4 : Hid (Row (w3.setCell ⟨g, 72, none⟩ (.int .i64 (d.nx + m))) g 259 (dig32 d.s (splice d.x d.nx (ps.take m)) (d.nx + m) (IntKind.u64.wrap (d.len + ps.length)))) := by
        have h := R3.set 72 (.int .i64 (d.nx + m))
        rw [dig_nx _ _ _ _ _ Hsl.out] at h
        exact Lib.hid h
      have O4 := Lib.hid (O3.out.trans (But.of_only (Only.set w3 g 72 (.int .i64 (d.nx + m)))))
      have B4 := Lib.hid (B3.out.but Hoff.out (But.of_only (Only.set w3 g 72 (.int .i64 (d.nx + m)))))
      have K4 := Lib.hid (K3.out.only (Only.set w3 g 72 (.int .i64 (d.nx + m))) hgk)
      have c3 : w3.cell? ⟨g, 72, none⟩ = some (.int .i64 d.nx) := by rw [R3.cell]; exact dcell_nx (d := ⟨d.s, _, d.nx, _⟩) Hsl.out
      have e3 := R3.unfrozen 72
      clear R3 R2 B2 O2 K2 c1 e1 O3 B3 K3
      go_upto_region 6 with (fail)
      generalize w3.setCell ⟨g, 72, none⟩ (.int .i64 (d.nx + m)) = w4 at *
      have c4 : w4.cell? ⟨g, 72, none⟩ = some (.int .i64 (d.nx + m)) := by rw [R4.out.cell]; exact dcell_nx (d := ⟨d.s, _, d.nx + m, _⟩) Hsl.out
      have e4 := R4.out.unfrozen 72
      clear c3 e3
      by_cases hfull : d.nx + m = 64
      · have hfb : ((d.nx : Int) + m == 64) = true := by simp; omega
        have X1 := Bs.row R4.out 8 64 (splice d.x d.nx (ps.take m)) (by rw [Hsl.out]; omega) (dig32_at _ _ _ _)
        rw [Hsl.out] at X1
        have R6 : ∀ w5, Row w5 g 259 (dig32 (comp32 K (splice d.x d.nx (ps.take m)) d.s) (splice d.x d.nx (ps.take m)) (d.nx + m) (IntKind.u64.wrap (d.len + ps.length))) → Row (w5.setCell ⟨g, 72, none⟩ (.int .i64 0)) g 259 (dig32 (comp32 K (splice d.x d.nx (ps.take m)) d.s) (splice d.x d.nx (ps.take m)) 0 (IntKind.u64.wrap (d.len + ps.length))) := by
          intro w5 h
          have h := h.set 72 (.int .i64 0)
          rw [dig_nx _ _ _ _ _ Hsl.out] at h
          exact h
        have R6 := Lib.hid R6
        have G := Lib.hid ((gate256 K hK g d.s _ _ _ w4 R4.out K4.out X1 (by rw [Hsl.out]) (by rw [Hsl.out]; decide)).mono
          (R' := fun e w5 => e = .returned (.tuple #[]) ∧ Hid (Row w5 g 259 (dig32 (comp32 K (splice d.x d.nx (ps.take m)) d.s) (splice d.x d.nx (ps.take m)) (d.nx + m) (IntKind.u64.wrap (d.len + ps.length)))) ∧ Hid (But g w4 w5) ∧ w5.cell? ⟨g, 72, none⟩ = some (.int .i64 (d.nx + m)) ∧ w5.frozen? ⟨g, 72, none⟩ = false)
          (fun e w5 ⟨he, hr, hb⟩ => ⟨he, Lib.hid hr, Lib.hid hb, by rw [Row.cell hr]; exact dcell_nx (d := ⟨comp32 K (splice d.x d.nx (ps.take m)) d.s, _, d.nx + m, _⟩) Hsl.out, Row.unfrozen hr 72⟩))
        clear X1
        go_wp2_with (first | (go_at_call 266; refine G.out.mono ?_; rintro e w5 ⟨rfl, r5, o5, c5, e5⟩) | (refine wpl_from0 rfl (.tmp 56) (.tmp 57) 22 rfl 5 Tryz.underlying22 (by kernel_rfl) _ rfl ps w HB0.out .i64 m m rfl rfl hle2 ?_; intro v5 hv5))
        go_meet
        refine ⟨?_, ?_, ?_, ?_, ?_⟩
        · rw [Hf.out, if_pos hfull]; exact Hsl.out
        · rw [Hf.out, if_pos hfull]; exact R6.out _ r5.out
        · rw [Hf.out, if_pos hfull]; exact hv5
        · exact (O4.out.trans o5.out).trans (But.of_only (Only.set _ _ _ _))
        · rw [Hf.out, if_pos hfull]; show (ps.drop m).length ≤ _; rw [List.length_drop]; omega
      · have hfb : ((d.nx : Int) + m == 64) = false := by simp; omega
        go_wp2_with (refine wpl_from0 rfl (.tmp 56) (.tmp 57) 22 rfl 5 Tryz.underlying22 (by kernel_rfl) _ rfl ps w HB0.out .i64 m m rfl rfl hle2 ?_; intro v5 hv5)
        go_meet
        refine ⟨?_, ?_, ?_, O4.out, ?_⟩
        · rw [Hf.out, if_neg hfull]; exact Hsl.out
        · rw [Hf.out, if_neg hfull]; exact R4.out
        · rw [Hf.out, if_neg hfull]; exact hv5
        · rw [Hf.out, if_neg hfull]; show (ps.drop m).length ≤ _; rw [List.length_drop]; omega
  case rest =>
    obtain ⟨wo, rfl⟩ : ∃ wo : World, wo = wc := ⟨_, rfl⟩
    clear HB HK HO HR c1 e1
    obtain ⟨q, hq⟩ : ∃ q, fill32 K (longer32 d ps.length) ps = q := ⟨_, rfl⟩
    rw [hq] at hcut
    obtain ⟨d1, p1⟩ := q
    have Hq := Lib.hid hq
    obtain ⟨L1, R1, V1, O1, E1⟩ := hcut
    simp only at L1 R1 V1 E1
    have B1 := V1 _ (HB0.out.but Hoff.out O1)
    have K1 := HK0.out.but O1 hgk
    obtain ⟨vp1, vc1, rfl, _, _, _⟩ := id B1
    have L1 := Lib.hid L1
    have R1 := Lib.hid R1
    have V1 := Lib.hid V1
    have O1 := Lib.hid O1
    have B1 := Lib.hid B1
    have K1 := Lib.hid K1
    clear hq
    go_upto_if 61 with (fail)
    go_cut [1, 7] (fun v2 n2 wx => Mid32 g (.slice vp ps.length vc) ps w (whole32 K d1 p1) v2 wx)
    case first =>
      by_cases h64 : 64 ≤ p1.length
      · obtain ⟨nb, hnb⟩ : ∃ nb, p1.length / 64 * 64 = nb := ⟨_, rfl⟩
        have hdn := down64 p1.length E1
        rw [hnb] at hdn
        have hb1 : nb ≤ p1.length := by omega
        have hb2 : nb % 64 = 0 := by omega
        have hb3 : ¬ (65536 : Int) < nb := by omega
        have Hnb := Lib.hid hnb
        have Hb2 := Lib.hid hb2
        have Hw : Hid (whole32 K d1 p1 = (⟨comp32 K (p1.take nb) d1.s, d1.x, d1.nx, d1.len⟩, p1.drop nb)) := by
          refine Lib.hid ?_
          unfold whole32
          rw [if_pos h64, hnb]
        have htl : (p1.take nb).length = nb := by rw [List.length_take]; omega
        have Htl := Lib.hid htl
        clear hnb htl hb2
        go_wp2_with fail
        refine wp_loop_rounds 1 ?_
        rw [rounds_succ]
        go_wp2_with (refine wpl_to0 rfl (.tmp 76) (.tmp 77) 22 rfl 5 Tryz.underlying22 (by kernel_rfl) _ rfl p1 wo B1.out .i64 nb nb rfl rfl hb1 ?_; intro v5 hv5)
        have G := Lib.hid (gate256 K hK g d1.s _ v5 (p1.take nb) wo R1.out K1.out (hv5 _ B1.out) (by rw [Htl.out]; exact Hb2.out) (by rw [Htl.out]; unfold maxLen; omega))
        have HV5 := Lib.hid hv5
        clear hv5
        refine G.out.mono ?_
        rintro e w5 ⟨rfl, r5, o5⟩
        have R5 := Lib.hid r5
        have O5 := Lib.hid o5
        clear r5 o5
        go_wp2_with (refine wpl_from0 rfl (.tmp 80) (.tmp 81) 22 rfl 5 Tryz.underlying22 (by kernel_rfl) _ rfl p1 wo B1.out .i64 nb nb rfl rfl hb1 ?_; intro v6 hv6)
        go_meet
        refine ⟨?_, ?_, ?_, O1.out.trans O5.out, ?_⟩
        all_goals (rw [Hw.out])
        · exact L1.out
        · exact R5.out
        · exact fun w' h => hv6 _ (V1.out _ h)
        · show (p1.drop nb).length ≤ _; rw [List.length_drop]; omega
      · go_wp2_with fail
        go_meet
        refine ⟨?_, ?_, ?_, O1.out, ?_⟩
        all_goals (unfold whole32; rw [if_neg h64])
        · exact L1.out
        · exact R1.out
        · exact V1.out
        · exact E1
    case rest =>
      obtain ⟨q, hq⟩ : ∃ q, whole32 K d1 p1 = q := ⟨_, rfl⟩
      rw [hq] at hcut
      obtain ⟨d2, p2⟩ := q
      have hlt := whole32_lt K d1 p1
      rw [hq] at hlt
      simp only at hlt
      have Hq2 := Lib.hid hq
      obtain ⟨L2, R2, V2, O2, E2⟩ := hcut
      simp only at L2 R2 V2 E2
      have B2 := V2 _ (HB0.out.but Hoff.out O2)
      obtain ⟨vp2, vc2, rfl, _, _, _⟩ := id B2
      have L2 := Lib.hid L2
      have c2 : wc.cell? ⟨g, 72, none⟩ = some (.int .i64 d2.nx) := by rw [R2.cell]; exact dcell_nx L2.out
      have e2 := R2.unfrozen 72
      have R2 := Lib.hid R2
      have V2 := Lib.hid V2
      have O2 := Lib.hid O2
      have B2 := Lib.hid B2
      have Hfin : Hid (write32 K d ps = rest32 d2 p2) := by
        refine Lib.hid ?_
        unfold write32
        rw [Hq.out]
        show rest32 (whole32 K d1 p1).1 (whole32 K d1 p1).2 = _
        rw [Hq2.out]
      clear hq
      by_cases h0 : 0 < p2.length
      · have Hsl : Hid ((splice d2.x 0 p2).length = 64) := Lib.hid (by rw [length_splice _ _ _ (by rw [L2.out]; omega)]; exact L2.out)
        have HC : Hid (∀ w8, Row w8 g 259 (splice d2.cells (8 + 0) (cs8 p2)) → w8.cell? ⟨g, 72, none⟩ = some (.int .i64 d2.nx) ∧ w8.frozen? ⟨g, 72, none⟩ = false ∧ Hid (Row (w8.setCell ⟨g, 72, none⟩ (.int .i64 p2.length)) g 259 (dig32 d2.s (splice d2.x 0 p2) p2.length d2.len))) := by
          refine Lib.hid fun w8 h => ?_
          have h2 := dig32_x d2.s d2.x d2.nx d2.len 0 p2 (by rw [L2.out]; omega)
          have R8 : Row w8 g 259 (dig32 d2.s (splice d2.x 0 p2) d2.nx d2.len) := by rw [← h2]; exact h
          refine ⟨by rw [R8.cell]; exact dcell_nx (d := ⟨d2.s, _, d2.nx, d2.len⟩) Hsl.out, R8.unfrozen 72, ?_⟩
          have h := R8.set 72 (.int .i64 p2.length)
          rw [dig_nx _ _ _ _ _ Hsl.out] at h
          exact Lib.hid h
        have hn2 : (cs8 p2).length = Nat.min p2.length 64 := by rw [length_cs8]; show _ = min p2.length 64; omega
        have hpos2 : 0 < (cs8 p2).length → (some (⟨g, 8, none⟩ : Addr)) = some ⟨g, 8 + 0, none⟩ ∧ ∃ ad, vp2 = some ad ∧ ∀ j v, (cs8 p2)[j]? = some v → wc.cell? (ad.add j) = some v := by
          intro hp
          refine ⟨rfl, ?_⟩
          obtain ⟨b, o, rfl, _⟩ := B2.out.at h0
          exact ⟨_, rfl, B2.out.cells.2⟩
        have hfit2 : 8 + 0 + (cs8 p2).length ≤ d2.cells.length := by
          have := L2.out
          simp only [D32.cells, dig32, List.length_append, length_cs8, List.length_cons, List.length_nil, cs32, words8, List.length_map]
          omega
        have hn2 := Lib.hid hn2
        have hpos2 := Lib.hid hpos2
        have hfit2 := Lib.hid hfit2
        go_wp2_with (refine wpl_copy rfl (.tmp 90) (.tmp 91) 22 22 rfl 5 Tryz.underlying22 (by kernel_rfl) (some ⟨g, 8, none⟩) vp2 64 64 p2.length vc2 rfl rfl g (8 + 0) _ _ R2.out (cs8 p2) hn2.out hpos2.out hfit2.out (one_cs8 _) ?_; intro w8 r8 o8; obtain ⟨c8, e8, R9⟩ := HC.out w8 r8; have O8 := Lib.hid (O2.out.trans (But.of_only o8)); clear r8 o8; rw [length_cs8])
        go_ret2
        refine ⟨rfl, ?_, O8.out.trans (But.of_only (Only.set _ _ _ _))⟩
        rw [Hfin.out]
        unfold rest32
        rw [if_pos h0]
        exact R9.out
      · go_wp2_with fail
        go_ret2
        refine ⟨rfl, ?_, O2.out⟩
        rw [Hfin.out]
        unfold rest32
        rw [if_neg h0]
        exact R2.out
end Go.Proofs.YtaemdppihpefnaaGreatDoor
