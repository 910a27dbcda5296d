/- base64 in the alphabet of URLs, with no padding: coded and decoded again. No program is in sight. -/
import Derived.Test.YtaemdppihpefnaaGreatDoorBase
import Derived.Test.YtaemdppihpefnaaGreatDoorHashKit
import Derived.Lib.LazyBuf
import Derived.Great.Walk
import Derived.Great.Ranges
import Derived.Deep.QuietTactic
import Derived.BigQuiet
import Derived.StillTailTactics
import Derived.LoopTactic
import Derived.Deep.LoopGhost
import Derived.Outline
import Derived.IntWalk
import Derived.Laws.BitsLemmas
import Derived.Deep.MidRow
namespace Go.Proofs.YtaemdppihpefnaaGreatDoor.B64
def letters : List Nat := [65,66,67,68,69,70,71,72,73,74,75,76,77,78,79,80,81,82,83,84,85,86,87,88,89,90,97,98,99,100,101,102,103,104,105,106,107,108,109,110,111,112,113,114,115,116,117,118,119,120,121,122,48,49,50,51,52,53,54,55,56,57,45,95]
def lt (i : Nat) : Nat := letters.getD i 0
/-- A letter's number; 255 for none. -/
def dv (c : Nat) : Nat := letters.findIdx? (· == c) |>.getD 255
theorem dv_lt : ((List.range 64).all fun i => dv (lt i) == i) = true := by decide +kernel
theorem dvlt {i : Nat} (h : i < 64) : dv (lt i) = i := by
  have := List.all_eq_true.1 dv_lt i (List.mem_range.2 h); simpa using this
theorem lt_good : ((List.range 64).all fun i => Nat.blt 44 (lt i) && Nat.blt (lt i) 123 && !(lt i == 46) && !(lt i == 47) && !(lt i == 61)) = true := by decide +kernel

def enc : List Nat → List Nat
  | x :: y :: z :: r => lt (x / 4) :: lt (x % 4 * 16 + y / 16) :: lt (y % 16 * 4 + z / 64) :: lt (z % 64) :: enc r
  | [x, y] => [lt (x / 4), lt (x % 4 * 16 + y / 16), lt (y % 16 * 4)]
  | [x] => [lt (x / 4), lt (x % 4 * 16)]
  | [] => []
def dec : List Nat → List Nat
  | a :: b :: c :: d :: r => (dv a * 4 + dv b / 16) :: (dv b % 16 * 16 + dv c / 4) :: (dv c % 4 * 64 + dv d) :: dec r
  | [a, b, c] => [dv a * 4 + dv b / 16, dv b % 16 * 16 + dv c / 4]
  | [a, b] => [dv a * 4 + dv b / 16]
  | _ => []
theorem dec_enc : ∀ xs : List Nat, (∀ x ∈ xs, x < 256) → dec (enc xs) = xs
  | x :: y :: z :: r, h => by
    have hx : x < 256 := h x (by simp)
    have hy : y < 256 := h y (by simp)
    have hz : z < 256 := h z (by simp)
    have ih := dec_enc r (fun w hw => h w (by simp [hw]))
    simp only [enc, dec]
    rw [dvlt (by omega), dvlt (by omega), dvlt (by omega), dvlt (by omega), ih]
    congr 1
    · omega
    congr 1
    · omega
    congr 1
    omega
  | [x, y], h => by
    have hx : x < 256 := h x (by simp)
    have hy : y < 256 := h y (by simp)
    simp only [enc, dec]
    rw [dvlt (by omega), dvlt (by omega), dvlt (by omega)]
    congr 1
    · omega
    congr 1
    omega
  | [x], h => by
    have hx : x < 256 := h x (by simp)
    simp only [enc, dec]
    rw [dvlt (by omega), dvlt (by omega)]
    congr 1
    omega
  | [], _ => by simp [enc, dec]
theorem enc_append : ∀ (xs ys : List Nat), xs.length % 3 = 0 → enc (xs ++ ys) = enc xs ++ enc ys
  | x :: y :: z :: r, ys, h => by
    have := enc_append r ys (by simp at h; omega)
    simp [enc, this]
  | [x, y], ys, h => by simp at h
  | [x], ys, h => by simp at h
  | [], ys, _ => by simp [enc]
theorem enc_len : ∀ xs : List Nat, (enc xs).length = xs.length / 3 * 4 + (xs.length % 3 * 8 + 5) / 6
  | x :: y :: z :: r => by
    have := enc_len r
    simp only [enc, List.length_cons]
    omega
  | [x, y] => by simp [enc]
  | [x] => by simp [enc]
  | [] => by simp [enc]
end Go.Proofs.YtaemdppihpefnaaGreatDoor.B64

/- encoding/base64: the Encoding of URLs with no padding. -/
namespace Go.Proofs.YtaemdppihpefnaaGreatDoor
open Go.RowKit
set_option linter.unusedVariables false

/-- The alphabet. -/
abbrev S64 : ByteArray := ⟨#[65, 66, 67, 68, 69, 70, 71, 72, 73, 74, 75, 76, 77, 78, 79, 80, 81, 82, 83, 84, 85, 86, 87, 88, 89, 90, 97, 98, 99, 100, 101, 102, 103, 104, 105, 106, 107, 108, 109, 110, 111, 112, 113, 114, 115, 116, 117, 118, 119, 120, 121, 122, 48, 49, 50, 51, 52, 53, 54, 55, 56, 57, 45, 95]⟩
def L64 : List Int := B64.letters.map (fun n : Nat => (n : Int))

/-- Cells one behind the other are set. -/
def setV (cur : List Value) : Nat → List Value → List Value
  | _, [] => cur
  | o, v :: r => setV (cur.set o v) (o + 1) r
theorem Row.setCells {g : Nat} {t : TypeId} : ∀ (vs : List Value) (o : Nat) (w : World) (cur : List Value), Row w g t cur → Row (w.setCells g o vs) g t (setV cur o vs)
  | [], _, _, _, h => h
  | v :: r, o, w, cur, h => Row.setCells r (o + 1) _ _ (h.set o v)

/-- The map of an Encoding behind k letters. -/
def xl : Nat → List Int
  | 0 => L64 ++ List.replicate 256 255
  | k + 1 => (xl k).set (64 + B64.lt k) k
def tlC (pad : Int) : List Value := [.int .i32 pad, .bool false]
def eC (X : List Int) (pad : Int) : List Value := cs8 X ++ tlC pad
theorem xl_len : ∀ k, (xl k).length = 320
  | 0 => by decide +kernel
  | k + 1 => by simp [xl, xl_len k]
theorem xl_free : ((List.range 64).all fun k => decide ((xl k).getD (64 + B64.lt k) 0 = 255) && Nat.blt (B64.lt k) 256 && Nat.blt 13 (B64.lt k)) = true := by decide +kernel
theorem xlfree {k : Nat} (h : k < 64) : (xl k).getD (64 + B64.lt k) 0 = 255 ∧ B64.lt k < 256 ∧ 13 < B64.lt k := by
  have := List.all_eq_true.1 xl_free k (List.mem_range.2 h)
  simp only [Bool.and_eq_true, decide_eq_true_eq, Nat.blt_eq] at this
  exact ⟨this.1.1, this.1.2, this.2⟩
set_option maxRecDepth 100000 in
theorem index64 (k : Nat) (hk : k < 64) : ∀ wx, (Instr.index 9 (.string S64) (.int .i64 (k : Int))).run Tryz.prog wx = .ok (.int .u8 (B64.lt k : Nat)) wx := by
  have h : k = 0 ∨ k = 1 ∨ k = 2 ∨ k = 3 ∨ k = 4 ∨ k = 5 ∨ k = 6 ∨ k = 7 ∨ k = 8 ∨ k = 9 ∨ k = 10 ∨ k = 11 ∨ k = 12 ∨ k = 13 ∨ k = 14 ∨ k = 15 ∨ k = 16 ∨ k = 17 ∨ k = 18 ∨ k = 19 ∨ k = 20 ∨ k = 21 ∨ k = 22 ∨ k = 23 ∨ k = 24 ∨ k = 25 ∨ k = 26 ∨ k = 27 ∨ k = 28 ∨ k = 29 ∨ k = 30 ∨ k = 31 ∨ k = 32 ∨ k = 33 ∨ k = 34 ∨ k = 35 ∨ k = 36 ∨ k = 37 ∨ k = 38 ∨ k = 39 ∨ k = 40 ∨ k = 41 ∨ k = 42 ∨ k = 43 ∨ k = 44 ∨ k = 45 ∨ k = 46 ∨ k = 47 ∨ k = 48 ∨ k = 49 ∨ k = 50 ∨ k = 51 ∨ k = 52 ∨ k = 53 ∨ k = 54 ∨ k = 55 ∨ k = 56 ∨ k = 57 ∨ k = 58 ∨ k = 59 ∨ k = 60 ∨ k = 61 ∨ k = 62 ∨ k = 63 := by omega
  rcases h with rfl | rfl | rfl | rfl | rfl | rfl | rfl | rfl | rfl | rfl | rfl | rfl | rfl | rfl | rfl | rfl | rfl | rfl | rfl | rfl | rfl | rfl | rfl | rfl | rfl | rfl | rfl | rfl | rfl | rfl | rfl | rfl | rfl | rfl | rfl | rfl | rfl | rfl | rfl | rfl | rfl | rfl | rfl | rfl | rfl | rfl | rfl | rfl | rfl | rfl | rfl | rfl | rfl | rfl | rfl | rfl | rfl | rfl | rfl | rfl | rfl | rfl | rfl | rfl
  · exact fun wx => by kernel_rfl
  · exact fun wx => by kernel_rfl
  · exact fun wx => by kernel_rfl
  · exact fun wx => by kernel_rfl
  · exact fun wx => by kernel_rfl
  · exact fun wx => by kernel_rfl
  · exact fun wx => by kernel_rfl
  · exact fun wx => by kernel_rfl
  · exact fun wx => by kernel_rfl
  · exact fun wx => by kernel_rfl
  · exact fun wx => by kernel_rfl
  · exact fun wx => by kernel_rfl
  · exact fun wx => by kernel_rfl
  · exact fun wx => by kernel_rfl
  · exact fun wx => by kernel_rfl
  · exact fun wx => by kernel_rfl
  · exact fun wx => by kernel_rfl
  · exact fun wx => by kernel_rfl
  · exact fun wx => by kernel_rfl
  · exact fun wx => by kernel_rfl
  · exact fun wx => by kernel_rfl
  · exact fun wx => by kernel_rfl
  · exact fun wx => by kernel_rfl
  · exact fun wx => by kernel_rfl
  · exact fun wx => by kernel_rfl
  · exact fun wx => by kernel_rfl
  · exact fun wx => by kernel_rfl
  · exact fun wx => by kernel_rfl
  · exact fun wx => by kernel_rfl
  · exact fun wx => by kernel_rfl
  · exact fun wx => by kernel_rfl
  · exact fun wx => by kernel_rfl
  · exact fun wx => by kernel_rfl
  · exact fun wx => by kernel_rfl
  · exact fun wx => by kernel_rfl
  · exact fun wx => by kernel_rfl
  · exact fun wx => by kernel_rfl
  · exact fun wx => by kernel_rfl
  · exact fun wx => by kernel_rfl
  · exact fun wx => by kernel_rfl
  · exact fun wx => by kernel_rfl
  · exact fun wx => by kernel_rfl
  · exact fun wx => by kernel_rfl
  · exact fun wx => by kernel_rfl
  · exact fun wx => by kernel_rfl
  · exact fun wx => by kernel_rfl
  · exact fun wx => by kernel_rfl
  · exact fun wx => by kernel_rfl
  · exact fun wx => by kernel_rfl
  · exact fun wx => by kernel_rfl
  · exact fun wx => by kernel_rfl
  · exact fun wx => by kernel_rfl
  · exact fun wx => by kernel_rfl
  · exact fun wx => by kernel_rfl
  · exact fun wx => by kernel_rfl
  · exact fun wx => by kernel_rfl
  · exact fun wx => by kernel_rfl
  · exact fun wx => by kernel_rfl
  · exact fun wx => by kernel_rfl
  · exact fun wx => by kernel_rfl
  · exact fun wx => by kernel_rfl
  · exact fun wx => by kernel_rfl
  · exact fun wx => by kernel_rfl
  · exact fun wx => by kernel_rfl

set_option maxRecDepth 100000 in
set_option maxHeartbeats 2000000 in
theorem newEnc (w : World) : Calls Tryz.prog 123 #[.string S64] w fun e w' => e = .returned (.pointer (some ⟨w.heap.size, 0, none⟩)) ∧ Row w' w.heap.size 299 (eC (xl 64) 61) ∧ Below w.heap.size w w' := by
  have hz : ∀ w, (Go.sizeOf 5).run Tryz.prog w = .ok 1 w := fun w => by kernel_rfl
  have HZ := Lib.hid hz
  clear hz
  go_enter Tryz.func123, Tryz.ntmps123
  go_wp2_with fail
  generalize hW : World.alloc _ _ = W
  have R0 : Row W w.heap.size 299 (eC (List.replicate 320 0) 61) := by rw [← hW]; exact Row.new w _ _ _ rfl
  have B0 : Below w.heap.size w W := by rw [← hW]; exact (Below.refl _ _).alloc (Nat.le_refl _) _
  clear hW
  have cp1 : (Builtin.copy_ #[22, 9] 3 #[.slice (some ⟨w.heap.size, 0, none⟩) 64 64, .string S64]).run Tryz.prog W = .ok (.int .i64 64) (W.setCells w.heap.size 0 (cs8 L64)) := by
    have h := _root_.Go.run_copy_string (P := Tryz.prog) W 22 9 3 5 w.heap.size 0 64 64 S64 Tryz.underlying22 HZ.out (by decide)
      (fun j hj => by rw [R0.cell]; have h : j < 64 := hj
                      rw [show eC (List.replicate 320 0) 61 = List.replicate 320 (Value.int .u8 0) ++ tlC 61 by kernel_rfl, List.getElem?_append_left (by simp; omega)]; simp; omega) (fun j _ => R0.unfrozen _)
    exact h
  have R1 : Row (W.setCells w.heap.size 0 (cs8 L64)) w.heap.size 299 (eC (L64 ++ List.replicate 256 0) 61) := by
    have := Row.setCells (cs8 L64) 0 W _ R0
    rwa [show setV (eC (List.replicate 320 0) 61) 0 (cs8 L64) = eC (L64 ++ List.replicate 256 0) 61 by kernel_rfl] at this
  have B1 : Below w.heap.size w (W.setCells w.heap.size 0 (cs8 L64)) := _root_.Go.below_setCells (Nat.le_refl _) _ _ _ B0
  clear R0 B0
  rw [cp1]
  simp only [Result.andThen_ok]
  clear cp1
  generalize W.setCells w.heap.size 0 (cs8 L64) = W1 at R1 B1 ⊢
  have cp2 : ∀ (t : ByteArray), (t.data.toList.map fun x => Value.int .u8 (x.toNat : Int)) = cs8 (List.replicate 256 255) → t.size = 256 →
      (Builtin.copy_ #[22, 9] 3 #[.slice (some ⟨w.heap.size, 64, none⟩) 256 256, .string t]).run Tryz.prog W1 = .ok (.int .i64 256) (W1.setCells w.heap.size 64 (cs8 (List.replicate 256 255))) := fun t ht hs => by
    have h := _root_.Go.run_copy_string (P := Tryz.prog) W1 22 9 3 5 w.heap.size 64 256 256 t Tryz.underlying22 HZ.out (by omega)
      (fun j hj => by rw [R1.cell]; have h : j < 256 := by omega
                      rw [show eC (L64 ++ List.replicate 256 0) 61 = cs8 L64 ++ (List.replicate 256 (Value.int .u8 0) ++ tlC 61) by kernel_rfl, List.getElem?_append_right (by show 64 ≤ 64 + j; omega), List.getElem?_append_left (by show 64 + j - 64 < _; simp; omega)]
                      show (List.replicate 256 (Value.int .u8 0))[64 + j - 64]?.isSome = true
                      simp; omega) (fun j _ => R1.unfrozen _)
    rw [ht, hs] at h
    exact h
  have R2 : Row (W1.setCells w.heap.size 64 (cs8 (List.replicate 256 255))) w.heap.size 299 (eC (xl 0) 61) := by
    have := Row.setCells (cs8 (List.replicate 256 255)) 64 W1 _ R1
    rwa [show setV (eC (L64 ++ List.replicate 256 0) 61) 64 (cs8 (List.replicate 256 255)) = eC (xl 0) 61 by kernel_rfl] at this
  have B2 : Below w.heap.size w (W1.setCells w.heap.size 64 (cs8 (List.replicate 256 255))) := _root_.Go.below_setCells (Nat.le_refl _) _ _ _ B1
  have CP2 := Lib.hid cp2
  clear R1 B1 cp2
  go_wp2_with fail
  rw [CP2.out]
  rotate_left
  · kernel_rfl
  · kernel_rfl
  simp only [Result.andThen_ok]
  clear CP2
  generalize W1.setCells w.heap.size 64 (cs8 (List.replicate 256 255)) = W2 at R2 B2 ⊢
  have R2 := Lib.hid R2
  have B2 := Lib.hid B2
  go_wp2_with fail
  go_loopw [4] (fun i wr => ∃ k : Nat, k ≤ 64 ∧ i = .int .i64 k ∧ Hid (Row wr w.heap.size 299 (eC (xl k) 61)) ∧ Hid (Below w.heap.size w wr)) (fun i _ => 64 - (intOf i).toNat)
  case atStart => exact ⟨0, by omega, rfl, R2, B2⟩
  case round =>
    clear R2 B2
    obtain ⟨k, hk, rfl, hR, hB⟩ := hrel
    by_cases hk64 : k < 64
    · obtain ⟨f1, f2, f3⟩ := xlfree hk64
      have hix := index64 k hk64
      have hc : wr.cell? ⟨w.heap.size, 64 + B64.lt k, none⟩ = some (.int .u8 255) := by
        rw [hR.out.cell, eC, List.getElem?_append_left (by simp [cs8, xl_len]; omega), get_cs8 _ _ (by rw [xl_len]; omega), f1]
      have hset : Hid ((eC (xl k) 61).set (64 + B64.lt k) (.int .u8 k) = eC (xl (k + 1)) 61) := Lib.hid (by
        unfold eC
        rw [List.set_append_left _ _ (by simp [cs8, xl_len]; omega)]
        congr 1
        simp [cs8, xl, List.map_set])
      have hf := hR.out.unfrozen (64 + B64.lt k)
      generalize B64.lt k = l at *
      have hl1 : ((l : Int) == 10) = false := by rw [beq_eq_false_iff_ne]; omega
      have hl2 : ((l : Int) == 13) = false := by rw [beq_eq_false_iff_ne]; omega
      have hl3 : ¬ (l : Int) = 10 := by omega
      have hl4 : ¬ (l : Int) = 13 := by omega
      have hl5 : (l : Int) < 256 := by omega
      have hkI : (k : Int) < 64 := by omega
      have hkw : IntKind.u8.wrap (k : Int) = k := IntWalk.u8_in _ (by omega)
      clear f1
      go_wp2_with fail
      go_quiet (fail)
      have hR := Lib.hid (row_drewN hR.out nq)
      have hB := Lib.hid (show Below w.heap.size w (wr.drewN nq) from hB.out.trans ⟨rfl, rfl, rfl, Nat.le_refl _, fun _ _ => rfl⟩)
      have hc : (wr.drewN nq).cell? ⟨w.heap.size, 64 + l, none⟩ = some (.int .u8 255) := hc
      have hf : (wr.drewN nq).frozen? ⟨w.heap.size, 64 + l, none⟩ = false := hf
      generalize wr.drewN nq = w3 at *
      go_wp2_with fail
      go_still_tail 9, (by kernel_rfl)
      change wpList _ _ _ _ _ w3.drew
      have hc : w3.drew.cell? ⟨w.heap.size, 64 + l, none⟩ = some (.int .u8 255) := hc
      have hf : w3.drew.frozen? ⟨w.heap.size, 64 + l, none⟩ = false := hf
      go_wp2_with fail
      refine ⟨⟨k + 1, by omega, by go_num, Lib.hid ?_, Lib.hid ((below_drewd hB.out).setCell (Nat.le_refl _) _)⟩, by simp [intOf]; omega⟩
      have := (row_drewd hR.out).set (64 + l) (.int .u8 (k : Int))
      rwa [hset.out] at this
    · obtain rfl : k = 64 := by omega
      go_wp2_with fail
      go_ret
      exact ⟨rfl, hR.out, hB.out⟩

set_option maxRecDepth 100000 in
set_option maxHeartbeats 2000000 in
theorem withPad (cs : List Value) (X : List Int) (w : World) (hcs : cs = eC X 61) (hX : X.length = 320) :
    Calls Tryz.prog 124 #[.agg cs.toArray, .int .i32 (-1)] w fun e w' => e = .returned (.pointer (some ⟨w.heap.size, 0, none⟩)) ∧ Row w' w.heap.size 299 (eC X (-1)) ∧ Below w.heap.size w w' := by
  have hcell : (Value.agg cs.toArray).cells = cs.toArray := by rfl
  have HS := Lib.hid (show cs.set 320 (.int .i32 (-1)) = eC X (-1) by
    rw [hcs, eC, List.set_append_right _ _ (by simp [cs8, hX])]
    simp [cs8, hX, tlC, eC])
  have h320 : cs[320]? = some (Value.int .i32 61) := (by
    rw [hcs, eC, List.getElem?_append_right (by simp [cs8, hX])]
    simp [cs8, hX, tlC])
  clear hcs
  go_enter Tryz.func124, Tryz.ntmps124
  go_wp2_with (refine Great.wpList_boxTo rfl 299 (.tmp 0) rfl _ rfl w.heap.size rfl cs.toArray hcell ?_)
  go_ret
  refine ⟨rfl, ?_, ?_⟩
  · rw [HS.out]
    exact Row.alloc w (eC X (-1)) _
  · first | exact ((Below.refl _ _).alloc (Nat.le_refl _) _).setCell (Nat.le_refl _) _ | exact (Below.refl _ _).alloc (Nat.le_refl _) _

set_option maxRecDepth 100000 in
set_option maxHeartbeats 2000000 in
/-- The Encoding of URLs with no padding is a row of its own. -/
theorem rawURL (w : World) : Calls Tryz.prog 95 #[] w fun e w' => (∃ g, e = .returned (.pointer (some ⟨g, 0, none⟩)) ∧ w.heap.size ≤ g ∧ Row w' g 299 (eC (xl 64) (-1))) ∧ Below w.heap.size w w' := by
  have hi := Lib.hid (show (Tryz.prog.info? 299).map (·.size) = some (eC (xl 64) 61).toArray.size by kernel_rfl)
  go_enter Tryz.func95, Tryz.ntmps95
  go_wp2_with fail
  go_at_call 123
  refine (newEnc _).mono ?_
  rintro e w1 ⟨rfl, r1, b1⟩
  have R1 := Lib.hid r1
  have B1 := Lib.hid b1
  clear r1 b1
  have HC : Hid (∃ cs, cs = eC (xl 64) 61) := Lib.hid ⟨_, rfl⟩
  obtain ⟨cs, hcs⟩ := HC.out
  have HCS := Lib.hid hcs
  rw [← hcs] at R1 hi
  clear hcs HC
  go_wp2_with (refine wpList_load_row rfl 299 (.tmp 2) rfl w.heap.size rfl 299 cs.toArray (0, 0) _ R1.out Tryz.underlying299 rfl hi.out ?_)
  go_at_call 124
  refine (withPad cs (xl 64) _ HCS.out (xl_len 64)).mono ?_
  rintro e w2 ⟨rfl, r2, b2⟩
  have R2 := Lib.hid r2
  have B2 := Lib.hid (B1.out.trans (b2.mono B1.out.size))
  clear r2 b2
  go_wp2_with fail
  go_ret
  exact ⟨⟨_, rfl, B1.out.size, R2.out⟩, B2.out⟩
end Go.Proofs.YtaemdppihpefnaaGreatDoor

/- encoding/base64: how long what is coded is, with no padding. -/
namespace Go.Proofs.YtaemdppihpefnaaGreatDoor
open Go.RowKit
set_option linter.unusedVariables false

theorem pad_cell {w : World} {g : Nat} {T : TypeId} {X : List Int} {p : Int} (h : Row w g T (eC X p)) (hX : X.length = 320) : w.cell? ⟨g, 320, none⟩ = some (.int .i32 p) := by
  rw [h.cell, eC, List.getElem?_append_right (by simp [cs8, hX])]
  simp [cs8, hX, tlC]

set_option maxRecDepth 100000 in
set_option maxHeartbeats 1000000 in
theorem encLen (g n : Nat) (X : List Int) (w : World) (h : Row w g 299 (eC X (-1))) (hX : X.length = 320) (hn : n ≤ 10000000) :
    Calls Tryz.prog 290 #[.pointer (some ⟨g, 0, none⟩), .int .i64 n] w fun e w' => e = .returned (.int .i64 ((n / 3 * 4 + (n % 3 * 8 + 5) / 6 : Nat) : Int)) ∧ w' = w := by
  have hp := pad_cell h hX
  have q1 : (n : Int).tdiv 3 = (n / 3 : Nat) := by rw [Int.tdiv_eq_ediv_of_nonneg (by omega)]; omega
  have q2 : (n : Int).tmod 3 = (n % 3 : Nat) := by rw [Int.tmod_eq_emod_of_nonneg (by omega)]; omega
  have EQ := Lib.hid (show (n : Int) / 3 * 4 + ((n : Int) % 3 * 8 + 5) / 6 = ((n / 3 * 4 + (n % 3 * 8 + 5) / 6 : Nat) : Int) by omega)
  go_enter Tryz.func290, Tryz.ntmps290
  go_wp2_with fail
  go_ret
  refine ⟨?_, rfl⟩
  rw [← EQ.out]
  rfl

set_option maxRecDepth 100000 in
set_option maxHeartbeats 1000000 in
theorem decLen (g n : Nat) (X : List Int) (w : World) (h : Row w g 299 (eC X (-1))) (hX : X.length = 320) (hn : n ≤ 10000000) :
    Calls Tryz.prog 287 #[.pointer (some ⟨g, 0, none⟩), .int .i64 n] w fun e w' => e = .returned (.int .i64 ((n / 4 * 3 + n % 4 * 6 / 8 : Nat) : Int)) ∧ w' = w := by
  have hp := pad_cell h hX
  have EQ := Lib.hid (show (n : Int) / 4 * 3 + (n : Int) % 4 * 6 / 8 = ((n / 4 * 3 + n % 4 * 6 / 8 : Nat) : Int) by omega)
  have D : Hid (Calls Tryz.prog 302 #[.int .i64 n, .int .i32 (-1)] w fun e w' => e = .returned (.int .i64 ((n / 4 * 3 + n % 4 * 6 / 8 : Nat) : Int)) ∧ w' = w) := Lib.hid (by
    clear hp
    go_enter Tryz.func302, Tryz.ntmps302
    go_wp2_with fail
    go_ret
    refine ⟨?_, rfl⟩
    rw [← EQ.out]
    rfl)
  go_enter Tryz.func287, Tryz.ntmps287
  go_wp2_with fail
  go_at_call 302
  refine D.out.mono ?_
  rintro e w' ⟨rfl, rfl⟩
  go_wp2_with fail
  go_ret
  exact ⟨rfl, rfl⟩
end Go.Proofs.YtaemdppihpefnaaGreatDoor

/- The bits of base64: three bytes in one word, and six bits of it. -/
namespace Go.Proofs.YtaemdppihpefnaaGreatDoor
set_option linter.unusedVariables false

theorem two63 : (2 : Int) ^ 63 = 9223372036854775808 := by decide
theorem wraps_u64 (n : Int) (h0 : 0 ≤ n) (h1 : n < 2 ^ 63) : IntKind.u64.wrap n = n := by
  rw [two63] at h1
  exact IntWalk.u64_in n ⟨h0, by omega⟩
theorem and63 (x : Int) (h0 : 0 ≤ x) (h1 : x < 16777216) : bits .and .u64 x 63 = x % 64 :=
  bits_mask .u64 63 (by decide) wraps_u64 6 (by decide) x h0 (by rw [two63]; omega)
theorem or_join (i : Nat) (p x y : Int) (hp : (2 : Int) ^ i = p) (hx0 : 0 ≤ x) (hx : x % p = 0) (hx1 : x < 9223372036854775808) (hy0 : 0 ≤ y) (hy : y < p) (hy1 : y < 9223372036854775808) : bits .or .u64 x y = x + y :=
  bits_join .u64 63 (by decide) wraps_u64 i x y hx0 (by rw [hp]; exact hx) (by rw [two63]; exact hx1) hy0 (by rw [hp]; exact hy) (by rw [two63]; exact hy1)

/-- Three bytes in a word. -/
theorem word3 (x y z : Nat) (hx : x < 256) (hy : y < 256) (hz : z < 256) :
    bits .or .u64 (bits .or .u64 ((x : Int) * 65536) ((y : Int) * 256)) (z : Int) = ((x * 65536 + y * 256 + z : Nat) : Int) := by
  rw [show bits .or .u64 ((x : Int) * 65536) ((y : Int) * 256) = (x : Int) * 65536 + (y : Int) * 256 from or_join 16 65536 _ _ (by decide) (by omega) (by omega) (by omega) (by omega) (by omega) (by omega), or_join 8 256 _ _ (by decide) (by omega) (by omega) (by omega) (by omega) (by omega) (by omega)]
  omega
/-- Six bits of it. -/
theorem six (v : Nat) (hv : v < 16777216) : bits .and .u64 ((v : Int) / 262144) 63 = ((v / 262144 : Nat) : Int) ∧ bits .and .u64 ((v : Int) / 4096) 63 = ((v / 4096 % 64 : Nat) : Int) ∧ bits .and .u64 ((v : Int) / 64) 63 = ((v / 64 % 64 : Nat) : Int) ∧ bits .and .u64 (v : Int) 63 = ((v % 64 : Nat) : Int) := by
  refine ⟨?_, ?_, ?_, ?_⟩
  · rw [and63 _ (by omega) (by omega)]; omega
  · rw [and63 _ (by omega) (by omega)]; omega
  · rw [and63 _ (by omega) (by omega)]; omega
  · rw [and63 _ (by omega) (by omega)]; omega
theorem six_parts (x y z : Nat) (hx : x < 256) (hy : y < 256) (hz : z < 256) :
    (x * 65536 + y * 256 + z) / 262144 = x / 4 ∧ (x * 65536 + y * 256 + z) / 4096 % 64 = x % 4 * 16 + y / 16 ∧ (x * 65536 + y * 256 + z) / 64 % 64 = y % 16 * 4 + z / 64 ∧ (x * 65536 + y * 256 + z) % 64 = z % 64 := by
  omega
end Go.Proofs.YtaemdppihpefnaaGreatDoor

/- base64: the letters by their places. No program is in sight. -/
namespace Go.Proofs.YtaemdppihpefnaaGreatDoor.B64

theorem enc_at : ∀ (k : Nat) (xs : List Nat), 3 * k + 3 ≤ xs.length →
    (enc xs).getD (4 * k) 0 = lt (xs.getD (3 * k) 0 / 4) ∧ (enc xs).getD (4 * k + 1) 0 = lt (xs.getD (3 * k) 0 % 4 * 16 + xs.getD (3 * k + 1) 0 / 16) ∧
      (enc xs).getD (4 * k + 2) 0 = lt (xs.getD (3 * k + 1) 0 % 16 * 4 + xs.getD (3 * k + 2) 0 / 64) ∧ (enc xs).getD (4 * k + 3) 0 = lt (xs.getD (3 * k + 2) 0 % 64)
  | 0, x :: y :: z :: r, _ => by simp [enc]
  | 0, [], h => by simp at h
  | 0, [_], h => by simp at h
  | 0, [_, _], h => by simp at h
  | k + 1, x :: y :: z :: r, h => by
    have ih := enc_at k r (by simp at h; omega)
    have e : ∀ i, (x :: y :: z :: r).getD (3 * (k + 1) + i) 0 = r.getD (3 * k + i) 0 := fun i => by
      rw [show 3 * (k + 1) + i = (3 * k + i) + 1 + 1 + 1 by omega]; simp
    have f : ∀ i, (enc (x :: y :: z :: r)).getD (4 * (k + 1) + i) 0 = (enc r).getD (4 * k + i) 0 := fun i => by
      rw [show 4 * (k + 1) + i = (4 * k + i) + 1 + 1 + 1 + 1 by omega]; simp [enc]
    have e0 := e 0
    have f0 := f 0
    simp only [Nat.add_zero] at e0 f0
    rw [e0, f0, e 1, e 2, f 1, f 2, f 3]
    exact ih
  | k + 1, [], h => by simp at h
  | k + 1, [_], h => by simp at h
  | k + 1, [_, _], h => by simp at h

theorem enc_one : ∀ (k : Nat) (xs : List Nat), xs.length = 3 * k + 1 →
    (enc xs).getD (4 * k) 0 = lt (xs.getD (3 * k) 0 / 4) ∧ (enc xs).getD (4 * k + 1) 0 = lt (xs.getD (3 * k) 0 % 4 * 16)
  | 0, [x], _ => by simp [enc]
  | 0, [], h => by simp at h
  | 0, _ :: _ :: _, h => by simp at h
  | k + 1, x :: y :: z :: r, h => by
    have ih := enc_one k r (by simp at h; omega)
    have e0 : (x :: y :: z :: r).getD (3 * (k + 1)) 0 = r.getD (3 * k) 0 := by
      rw [show 3 * (k + 1) = (3 * k) + 1 + 1 + 1 by omega]; simp
    have f : ∀ i, (enc (x :: y :: z :: r)).getD (4 * (k + 1) + i) 0 = (enc r).getD (4 * k + i) 0 := fun i => by
      rw [show 4 * (k + 1) + i = (4 * k + i) + 1 + 1 + 1 + 1 by omega]; simp [enc]
    have f0 := f 0
    simp only [Nat.add_zero] at f0
    rw [e0, f0, f 1]
    exact ih
  | k + 1, [], h => by simp at h
  | k + 1, [_], h => by simp at h
  | k + 1, [_, _], h => by simp at h; omega

theorem enc_two : ∀ (k : Nat) (xs : List Nat), xs.length = 3 * k + 2 →
    (enc xs).getD (4 * k) 0 = lt (xs.getD (3 * k) 0 / 4) ∧ (enc xs).getD (4 * k + 1) 0 = lt (xs.getD (3 * k) 0 % 4 * 16 + xs.getD (3 * k + 1) 0 / 16) ∧
      (enc xs).getD (4 * k + 2) 0 = lt (xs.getD (3 * k + 1) 0 % 16 * 4)
  | 0, [x, y], _ => by simp [enc]
  | 0, [], h => by simp at h
  | 0, [_], h => by simp at h
  | 0, _ :: _ :: _ :: _, h => by simp at h
  | k + 1, x :: y :: z :: r, h => by
    have ih := enc_two k r (by simp at h; omega)
    have e : ∀ i, (x :: y :: z :: r).getD (3 * (k + 1) + i) 0 = r.getD (3 * k + i) 0 := fun i => by
      rw [show 3 * (k + 1) + i = (3 * k + i) + 1 + 1 + 1 by omega]; simp
    have f : ∀ i, (enc (x :: y :: z :: r)).getD (4 * (k + 1) + i) 0 = (enc r).getD (4 * k + i) 0 := fun i => by
      rw [show 4 * (k + 1) + i = (4 * k + i) + 1 + 1 + 1 + 1 by omega]; simp [enc]
    have e0 := e 0
    have f0 := f 0
    simp only [Nat.add_zero] at e0 f0
    rw [e0, f0, e 1, f 1, f 2]
    exact ih
  | k + 1, [], h => by simp at h
  | k + 1, [_], h => by simp at h
  | k + 1, [_, _], h => by simp at h
theorem enc_letters : ∀ xs : List Nat, (∀ x ∈ xs, x < 256) → ∀ c ∈ enc xs, c ∈ letters
  | x :: y :: z :: r, h, c, hc => by
    have hx : x < 256 := h x (by simp)
    have hy : y < 256 := h y (by simp)
    have hz : z < 256 := h z (by simp)
    have g : ∀ i, i < 64 → lt i ∈ letters := fun i hi => by
      have hl : i < letters.length := hi
      have : lt i = letters[i] := by simp [lt, List.getD, hl]
      rw [this]; exact List.getElem_mem hl
    simp only [enc, List.mem_cons] at hc
    rcases hc with rfl | rfl | rfl | rfl | hc
    · exact g _ (by omega)
    · exact g _ (by omega)
    · exact g _ (by omega)
    · exact g _ (by omega)
    · exact enc_letters r (fun w hw => h w (by simp [hw])) c hc
  | [x, y], h, c, hc => by
    have hx : x < 256 := h x (by simp)
    have hy : y < 256 := h y (by simp)
    have g : ∀ i, i < 64 → lt i ∈ letters := fun i hi => by
      have hl : i < letters.length := hi
      have : lt i = letters[i] := by simp [lt, List.getD, hl]
      rw [this]; exact List.getElem_mem hl
    simp only [enc, List.mem_cons, List.not_mem_nil, or_false] at hc
    rcases hc with rfl | rfl | rfl
    · exact g _ (by omega)
    · exact g _ (by omega)
    · exact g _ (by omega)
  | [x], h, c, hc => by
    have hx : x < 256 := h x (by simp)
    have g : ∀ i, i < 64 → lt i ∈ letters := fun i hi => by
      have hl : i < letters.length := hi
      have : lt i = letters[i] := by simp [lt, List.getD, hl]
      rw [this]; exact List.getElem_mem hl
    simp only [enc, List.mem_cons, List.not_mem_nil, or_false] at hc
    rcases hc with rfl | rfl
    · exact g _ (by omega)
    · exact g _ (by omega)
  | [], _, c, hc => by cases hc
end Go.Proofs.YtaemdppihpefnaaGreatDoor.B64

/- encoding/base64's Encode, with no padding: the letters of some bytes, in a part of a row. -/
namespace Go.Proofs.YtaemdppihpefnaaGreatDoor
open Go.RowKit
set_option linter.unusedVariables false

def bi (xs : List Nat) : List Int := xs.map (fun n : Nat => (n : Int))
theorem bi_get (xs : List Nat) (i : Nat) : (bi xs).getD i 0 = ((xs.getD i 0 : Nat) : Int) := by
  simp only [bi, List.getD, List.getElem?_map]
  cases xs[i]? <;> rfl
theorem bi_drop (xs : List Nat) (k : Nat) : bi (xs.drop k) = (bi xs).drop k := by simp [bi, List.map_drop]

theorem tab_ok : ((List.range 64).all fun i => decide ((xl 64).getD i 0 = (B64.lt i : Nat))) = true := by decide +kernel
theorem tab_at {w : World} {g : Nat} {T : TypeId} {p : Int} (h : Row w g T (eC (xl 64) p)) (i : Nat) (hi : i < 64) : w.cell? ⟨g, i, none⟩ = some (.int .u8 (B64.lt i : Nat)) := by
  have := List.all_eq_true.1 tab_ok i (List.mem_range.2 hi)
  rw [h.cell, eC, List.getElem?_append_left (by simp [cs8, xl_len]; omega), get_cs8 _ _ (by rw [xl_len]; omega)]
  simpa using this
theorem rangeE {w : World} {g : Nat} {T : TypeId} {p : Int} (h : Row w g T (eC (xl 64) p)) : w.rangeAt g 0 (cs8 ((xl 64).take 64)) := by
  intro j v hv
  have hj : j < 64 := by
    have := (List.getElem?_eq_some_iff.1 hv).1
    simp [cs8, xl_len] at this
    omega
  rw [Nat.zero_add, h.cell, eC, List.getElem?_append_left (by simp [cs8, xl_len]; omega)]
  simp only [cs8, List.getElem?_map, List.getElem?_take, hj, if_true] at hv ⊢
  exact hv

/-- Y is cur, but for the first n letters from od on. -/
def Fil (od n : Nat) (cur : List Int) (xs : List Nat) (Y : List Int) : Prop :=
  Y.length = cur.length ∧ ∀ j, Y.getD j 0 = if od ≤ j ∧ j < od + n then (((B64.enc xs).getD (j - od) 0 : Nat) : Int) else cur.getD j 0
theorem Fil.set {od n : Nat} {cur Y : List Int} {xs : List Nat} (h : Fil od n cur xs Y) (hl : od + n < cur.length) (v : Nat) (hv : (B64.enc xs).getD n 0 = v) : Fil od (n + 1) cur xs (Y.set (od + n) (v : Int)) := by
  refine ⟨by rw [List.length_set]; exact h.1, fun j => ?_⟩
  by_cases hj : j = od + n
  · subst hj
    have hy : od + n < Y.length := by rw [h.1]; exact hl
    rw [if_pos (by omega)]
    simp [List.getD, hy]
    rw [← hv]; simp [List.getD]
  · have : (Y.set (od + n) (v : Int)).getD j 0 = Y.getD j 0 := by simp [List.getD, List.getElem?_set_ne (Ne.symm hj)]
    rw [this, h.2 j]
    by_cases h1 : od ≤ j ∧ j < od + n
    · rw [if_pos h1, if_pos (by omega)]
    · rw [if_neg h1, if_neg (by omega)]
theorem Fil.zero (od : Nat) (cur : List Int) (xs : List Nat) : Fil od 0 cur xs cur := ⟨rfl, fun j => by rw [if_neg (by omega)]⟩

set_option maxRecDepth 100000 in
set_option maxHeartbeats 4000000 in
theorem encode (g gd od cd : Nat) (cur : List Int) (vs : Value) (xs : List Nat) (w : World) (h : Row w g 299 (eC (xl 64) (-1))) (hd : Row w gd 5 (cs8 cur)) (hne : gd ≠ g)
    (hcd : od + (B64.enc xs).length ≤ cur.length) (hcap : (B64.enc xs).length ≤ cd) (hx : ∀ x ∈ xs, x < 256) (hl : xs.length ≤ 65536) (hpos : 0 < xs.length) (hs : ∀ w', But gd w w' → Bs w' vs (bi xs)) :
    Calls Tryz.prog 288 #[.pointer (some ⟨g, 0, none⟩), .slice (some ⟨gd, od, none⟩) (B64.enc xs).length cd, vs] w fun e w' => (∃ v, e = .returned v) ∧ (∃ Y, Row w' gd 5 (cs8 Y) ∧ Fil od (B64.enc xs).length cur xs Y) ∧ But gd w w' := by
  have hH := Lib.hid h
  have hD := Lib.hid hd
  have HS := Lib.hid hs
  have HXb := Lib.hid hx
  obtain ⟨p0, c0, rfl, hc0, -, -⟩ := id (hs w (But.refl _ _))
  have hlen : (bi xs).length = xs.length := by simp [bi]
  have HN := Lib.hid (B64.enc_len xs)
  have hR := Lib.hid (rangeE h)
  have hi := Lib.hid (show (Tryz.prog.info? 257).map (·.size) = some (cs8 ((xl 64).take 64)).length by rw [show (cs8 ((xl 64).take 64)).length = 64 by simp [cs8, xl_len]]; kernel_rfl)
  have hu : Tryz.prog.underlying 257 = some (.array 64 5) := by kernel_rfl
  rw [hlen] at hc0 HS ⊢
  clear h hd hs hx hlen
  have hm0 : ¬ (xs.length : Int) = 0 := by omega
  have hm1 : ((xs.length : Int) == 0) = false := by rw [beq_eq_false_iff_ne]; omega
  generalize hn : (B64.enc xs).length = n at *
  have Hn := Lib.hid hn
  clear hn
  go_enter Tryz.func288, Tryz.ntmps288
  go_wp2_with (refine wpList_load_mid rfl 257 (.tmp 14) rfl g 0 rfl (cs8 ((xl 64).take 64)) _ hR.out hu rfl hi.out ?_)
  simp only [Act.put, List.setIfInBounds_toArray, List.set_cons_zero, List.set_cons_succ]
  go_loopw [1, 2] (fun dv sv wr => ∃ (k : Nat) (q : Option Addr) (c2 : Nat) (p : Option Addr) (c : Nat), 3 * k ≤ xs.length ∧ dv = .slice q (n - 4 * k) c2 ∧ sv = .slice p (xs.length - 3 * k) c ∧ n - 4 * k ≤ c2 ∧ c2 ≤ cd ∧ c ≤ c0 ∧ xs.length - 3 * k ≤ c ∧ (0 < n - 4 * k → q = some ⟨gd, od + 4 * k, none⟩) ∧ Hid (∀ w', But gd w w' → Bs w' sv (bi (xs.drop (3 * k)))) ∧ Hid (∃ Y, Row wr gd 5 (cs8 Y) ∧ Fil od (4 * k) cur xs Y) ∧ Hid (But gd w wr)) (fun _ sv _ => lenOf sv)
  case atStart => exact ⟨0, _, _, _, _, by omega, rfl, rfl, by omega, by omega, by omega, by omega, fun _ => rfl, HS, Lib.hid ⟨cur, hD.out, Fil.zero _ _ _⟩, Lib.hid (But.refl _ _)⟩
  case round =>
    obtain ⟨k, q, c2, p, c, hk, rfl, rfl, hnc, hc2, hcc, hmc, hq, hS, hY, hB⟩ := hrel
    by_cases h3 : 3 * k + 3 ≤ xs.length
    · obtain ⟨Y, hR, hF⟩ := hY.out
      have HR := Lib.hid hR
      have HF := Lib.hid hF
      clear hR hF hY
      have hn4 : 4 ≤ n - 4 * k := by have := HN.out; omega
      obtain rfl := hq (by omega)
      have hsb := hS.out wr hB.out
      obtain ⟨gs, os, rfl, hcell0⟩ := (show Bs wr (.slice p (xs.length - 3 * k) c) (bi (xs.drop (3 * k))) from hsb).at (by omega)
      have hcell := Lib.hid hcell0
      clear hcell0
      have hg : ∀ i, (bi (xs.drop (3 * k))).getD i 0 = ((xs.getD (3 * k + i) 0 : Nat) : Int) := fun i => by rw [bi_get]; simp [List.getD]
      have HG := Lib.hid hg
      clear hg hsb
      obtain ⟨x, hx⟩ : ∃ x, xs.getD (3 * k) 0 = x := ⟨_, rfl⟩
      obtain ⟨y, hy⟩ : ∃ x, xs.getD (3 * k + 1) 0 = x := ⟨_, rfl⟩
      obtain ⟨z, hz⟩ : ∃ x, xs.getD (3 * k + 2) 0 = x := ⟨_, rfl⟩
      have bx : ∀ i, i < xs.length → xs.getD i 0 < 256 := fun i hi => HXb.out _ (by simp [List.getD, hi])
      have hx1 : x < 256 := by rw [← hx]; exact bx _ (by omega)
      have hy1 : y < 256 := by rw [← hy]; exact bx _ (by omega)
      have hz1 : z < 256 := by rw [← hz]; exact bx _ (by omega)
      clear bx
      have s0 : wr.cell? ⟨gs, os, none⟩ = some (.int .u8 (x : Int)) := by have := hcell.out 0 (by omega); rwa [HG.out, Nat.add_zero, Nat.add_zero, hx] at this
      have s1 : wr.cell? ⟨gs, os + 1, none⟩ = some (.int .u8 (y : Int)) := by have := hcell.out 1 (by omega); rwa [HG.out, hy] at this
      have s2 : wr.cell? ⟨gs, os + 2, none⟩ = some (.int .u8 (z : Int)) := by have := hcell.out 2 (by omega); rwa [HG.out, hz] at this
      obtain ⟨q1, q2, q3, q4⟩ := B64.enc_at k xs h3
      rw [hx] at q1
      rw [hx, hy] at q2
      rw [hy, hz] at q3
      rw [hz] at q4
      have hv := word3 x y z hx1 hy1 hz1
      obtain ⟨v1, v2, v3, v4⟩ := six (x * 65536 + y * 256 + z) (by omega)
      obtain ⟨w1, w2, w3, w4⟩ := six_parts x y z hx1 hy1 hz1
      rw [w1] at v1
      rw [w2] at v2
      rw [w3] at v3
      rw [w4] at v4
      obtain ⟨i1, hi1⟩ : ∃ i, x / 4 = i := ⟨_, rfl⟩
      obtain ⟨i2, hi2⟩ : ∃ i, x % 4 * 16 + y / 16 = i := ⟨_, rfl⟩
      obtain ⟨i3, hi3⟩ : ∃ i, y % 16 * 4 + z / 64 = i := ⟨_, rfl⟩
      obtain ⟨i4, hi4⟩ : ∃ i, z % 64 = i := ⟨_, rfl⟩
      have b1 : i1 < 64 := by omega
      have b2 : i2 < 64 := by omega
      have b3 : i3 < 64 := by omega
      have b4 : i4 < 64 := by omega
      rw [hi1] at q1 v1
      rw [hi2] at q2 v2
      rw [hi3] at q3 v3
      rw [hi4] at q4 v4
      have HE := hH.out.but hB.out (Ne.symm hne)
      have t1 := tab_at HE i1 b1
      have t2 := tab_at HE i2 b2
      have t3 := tab_at HE i3 b3
      have t4 := tab_at HE i4 b4
      have Q1 := Lib.hid q1
      have Q2 := Lib.hid q2
      have Q3 := Lib.hid q3
      have Q4 := Lib.hid q4
      clear q1 q2 q3 q4 hi1 hi2 hi3 hi4 w1 w2 w3 w4 hx hy hz HE
      generalize x * 65536 + y * 256 + z = V at hv v1 v2 v3 v4
      generalize B64.lt i1 = l1 at t1 Q1
      generalize B64.lt i2 = l2 at t2 Q2
      generalize B64.lt i3 = l3 at t3 Q3
      generalize B64.lt i4 = l4 at t4 Q4
      have hcl := Lib.hid hcd
      have yl : Y.length = cur.length := HF.out.1
      have d0 : wr.cell? ⟨gd, od + 4 * k, none⟩ = some (.int .u8 (Y.getD (od + 4 * k) 0)) := by rw [HR.out.cell, get_cs8 _ _ (by omega)]
      have d1 : wr.cell? ⟨gd, od + 4 * k + 1, none⟩ = some (.int .u8 (Y.getD (od + 4 * k + 1) 0)) := by rw [HR.out.cell, get_cs8 _ _ (by omega)]
      have d2 : wr.cell? ⟨gd, od + 4 * k + 2, none⟩ = some (.int .u8 (Y.getD (od + 4 * k + 2) 0)) := by rw [HR.out.cell, get_cs8 _ _ (by omega)]
      have d3 : wr.cell? ⟨gd, od + 4 * k + 3, none⟩ = some (.int .u8 (Y.getD (od + 4 * k + 3) 0)) := by rw [HR.out.cell, get_cs8 _ _ (by omega)]
      have ff := HR.out.unfrozen
      generalize Y.getD (od + 4 * k) 0 = e0 at d0
      generalize Y.getD (od + 4 * k + 1) 0 = e1 at d1
      generalize Y.getD (od + 4 * k + 2) 0 = e2 at d2
      generalize Y.getD (od + 4 * k + 3) 0 = e3 at d3
      have hne2 : ¬ g = gd := fun h => hne h.symm
      have hne3 : ¬ gd = g := hne
      generalize hm : xs.length - 3 * k = m at *
      generalize hnn : n - 4 * k = nn at *
      have hM := Lib.hid hm
      have hNN := Lib.hid hnn
      have m3 : (3 : Int) ≤ m := by omega
      have m2 : (2 : Int) < m := by omega
      have m1 : (1 : Int) < m := by omega
      have m0 : (0 : Int) < m := by omega
      have n3 : (3 : Int) < nn := by omega
      have n2 : (2 : Int) < nn := by omega
      have n1 : (1 : Int) < nn := by omega
      have n0 : (0 : Int) < nn := by omega
      have n4 : (4 : Int) ≤ nn := by omega
      have j1 : (i1 : Int) < 64 := by omega
      have j2 : (i2 : Int) < 64 := by omega
      have j3 : (i3 : Int) < 64 := by omega
      have j4 : (i4 : Int) < 64 := by omega
      clear hm hnn yl hq
      go_wp2_with fail
      go_quiet (fail)
      have s0 : (wr.drewN nq).cell? ⟨gs, os, none⟩ = some (.int .u8 (x : Int)) := s0
      have t1 : (wr.drewN nq).cell? ⟨g, i1, none⟩ = some (.int .u8 (l1 : Int)) := t1
      have t2 : (wr.drewN nq).cell? ⟨g, i2, none⟩ = some (.int .u8 (l2 : Int)) := t2
      have t3 : (wr.drewN nq).cell? ⟨g, i3, none⟩ = some (.int .u8 (l3 : Int)) := t3
      have t4 : (wr.drewN nq).cell? ⟨g, i4, none⟩ = some (.int .u8 (l4 : Int)) := t4
      have d0 : (wr.drewN nq).cell? ⟨gd, od + 4 * k, none⟩ = some (.int .u8 e0) := d0
      have d1 : (wr.drewN nq).cell? ⟨gd, od + 4 * k + 1, none⟩ = some (.int .u8 e1) := d1
      have d2 : (wr.drewN nq).cell? ⟨gd, od + 4 * k + 2, none⟩ = some (.int .u8 e2) := d2
      have d3 : (wr.drewN nq).cell? ⟨gd, od + 4 * k + 3, none⟩ = some (.int .u8 e3) := d3
      have ff : ∀ j, (wr.drewN nq).frozen? ⟨gd, j, none⟩ = false := ff
      have HR := Lib.hid (row_drewN HR.out nq)
      have hB := Lib.hid (show But gd w (wr.drewN nq) from hB.out.trans ⟨rfl, rfl, rfl, Nat.le_refl _, fun _ _ _ => rfl⟩)
      generalize wr.drewN nq = w3 at *
      go_wp2_with fail
      have en : n - 4 * (k + 1) = nn - 4 := by have := hNN.out; omega
      have em : xs.length - 3 * (k + 1) = m - 3 := by have := hM.out; omega
      have hcl2 := hcl.out
      have hnk : 4 * k + 4 ≤ n := by have := hNN.out; omega
      refine ⟨⟨k + 1, _, c2 - 4, _, c - 3, by omega, by rw [en], by rw [em], by omega, by omega, by omega, by omega, fun hp => ?_, Lib.hid (fun w' hb => ?_),
        Lib.hid ⟨_, set8b (set8b (set8b (set8b HR.out _ _) _ _) _ _) _ _, (((HF.out.set (by omega) l1 Q1.out).set (by omega) l2 Q2.out).set (by omega) l3 Q3.out).set (by omega) l4 Q4.out⟩,
        Lib.hid ((((hB.out.trans (But.of_only (Only.set _ _ _ _))).trans (But.of_only (Only.set _ _ _ _))).trans (But.of_only (Only.set _ _ _ _))).trans (But.of_only (Only.set _ _ _ _)))⟩, by simp only [lenOf]; omega⟩
      · rw [en] at hp
        rw [if_neg (by omega), show od + 4 * (k + 1) = od + 4 * k + 4 by omega]
      · have hbs := (hS.out w' hb).cut 3 m (by omega) (Nat.le_refl _)
        have hml : (bi (xs.drop (3 * k))).length = m := by simp [bi]; exact hM.out
        rw [List.take_of_length_le (by omega), ← bi_drop, List.drop_drop, show 3 * k + 3 = 3 * (k + 1) by omega] at hbs
        simpa [cutA, Go.WideShapes.add_plain] using hbs
    · obtain ⟨Y, hR, hF⟩ := hY.out
      have HR := Lib.hid hR
      have HF := Lib.hid hF
      clear hR hF hY
      have hcase : xs.length = 3 * k ∨ xs.length = 3 * k + 1 ∨ xs.length = 3 * k + 2 := by omega
      rcases hcase with hm | hm | hm
      · have hN := HN.out
        have e1 : xs.length - 3 * k = 0 := by omega
        have e2 : n = 4 * k := by omega
        have HFn := Lib.hid (show Fil od n cur xs Y by rw [e2]; exact HF.out)
        have m3 : ¬ (3 : Int) ≤ ((0 : Nat) : Int) := by decide
        rw [e1] at *
        clear hN e2 hm
        go_wp2_with fail
        refine bodyPost_ret (results_none rfl _ _ _) rfl ?_
        exact ⟨⟨_, rfl⟩, ⟨Y, HR.out, HFn.out⟩, hB.out⟩
      · have hN := HN.out
        have e1 : xs.length - 3 * k = 1 := by omega
        have e2 : n = 4 * k + 2 := by omega
        have e3 : n - 4 * k = 2 := by omega
        obtain rfl := hq (by omega)
        have hsb := hS.out wr hB.out
        obtain ⟨gs, os, rfl, hcell0⟩ := (show Bs wr (.slice p (xs.length - 3 * k) c) (bi (xs.drop (3 * k))) from hsb).at (by omega)
        have hcell := Lib.hid hcell0
        clear hcell0
        have hg : ∀ i, (bi (xs.drop (3 * k))).getD i 0 = ((xs.getD (3 * k + i) 0 : Nat) : Int) := fun i => by rw [bi_get]; simp [List.getD]
        have HG := Lib.hid hg
        clear hg hsb
        have bx : ∀ i, i < xs.length → xs.getD i 0 < 256 := fun i hi => HXb.out _ (by simp [List.getD, hi])
        obtain ⟨x, hx⟩ : ∃ x, xs.getD (3 * k) 0 = x := ⟨_, rfl⟩
        have hx1 : x < 256 := by rw [← hx]; exact bx _ (by omega)
        have s0 : wr.cell? ⟨gs, os, none⟩ = some (.int .u8 (x : Int)) := by have := hcell.out 0 (by omega); rwa [HG.out, Nat.add_zero, Nat.add_zero, hx] at this
        obtain ⟨q1, q2⟩ := B64.enc_one k xs hm
        rw [hx] at q1 q2
        have v1 : bits .and .u64 ((x : Int) * 65536 / 262144) 63 = ((x / 4 : Nat) : Int) := by rw [and63 _ (by omega) (by omega)]; omega
        have v2 : bits .and .u64 ((x : Int) * 65536 / 4096) 63 = ((x % 4 * 16 : Nat) : Int) := by rw [and63 _ (by omega) (by omega)]; omega
        obtain ⟨i1, hi1⟩ : ∃ i, x / 4 = i := ⟨_, rfl⟩
        obtain ⟨i2, hi2⟩ : ∃ i, x % 4 * 16 = i := ⟨_, rfl⟩
        rw [hi1] at v1
        rw [hi2] at v2
        have b1 : i1 < 64 := by omega
        have b2 : i2 < 64 := by omega
        rw [hi1] at q1
        rw [hi2] at q2
        have HE := hH.out.but hB.out (Ne.symm hne)
        have t1 := tab_at HE i1 b1
        have t2 := tab_at HE i2 b2
        have hp := pad_cell HE (xl_len 64)
        have Q1 := Lib.hid q1
        have Q2 := Lib.hid q2
        clear q1 q2 hi1 hi2 hx bx HE
        generalize B64.lt i1 = l1 at t1 Q1
        generalize B64.lt i2 = l2 at t2 Q2
        have yl : Y.length = cur.length := HF.out.1
        have d0 : wr.cell? ⟨gd, od + 4 * k, none⟩ = some (.int .u8 (Y.getD (od + 4 * k) 0)) := by rw [HR.out.cell, get_cs8 _ _ (by omega)]
        have d1 : wr.cell? ⟨gd, od + 4 * k + 1, none⟩ = some (.int .u8 (Y.getD (od + 4 * k + 1) 0)) := by rw [HR.out.cell, get_cs8 _ _ (by omega)]
        have ff := HR.out.unfrozen
        generalize Y.getD (od + 4 * k) 0 = e0 at d0
        generalize Y.getD (od + 4 * k + 1) 0 = f1 at d1
        have hne2 : ¬ g = gd := fun h => hne h.symm
        have hne3 : ¬ gd = g := hne
        have j1 : (i1 : Int) < 64 := by omega
        have j2 : (i2 : Int) < 64 := by omega
        have HX := Lib.hid (show Fil od n cur xs ((Y.set (od + 4 * k) l1).set (od + 4 * k + 1) l2) by rw [e2]; exact (HF.out.set (by omega) l1 Q1.out).set (by omega) l2 Q2.out)
        have HRX := Lib.hid (set8b (set8b HR.out (od + 4 * k) l1) (od + 4 * k + 1) l2)
        have HBX := Lib.hid ((hB.out.trans (But.of_only (Only.set _ gd (od + 4 * k) (.int .u8 (l1 : Int))))).trans (But.of_only (Only.set _ gd (od + 4 * k + 1) (.int .u8 (l2 : Int)))))
        rw [e1, e3] at *
        clear hN e2 hm yl hq e1 e3
        go_wp2_with fail
        first
          | go_end0
          | ((try simp only [Exit.inBlock, Exit.then]); refine bodyPost_ret (results_none rfl _ _ _) rfl ?_)
        exact ⟨⟨_, rfl⟩, ⟨_, HRX.out, HX.out⟩, HBX.out⟩
      · have hN := HN.out
        have e1 : xs.length - 3 * k = 2 := by omega
        have e2 : n = 4 * k + 3 := by omega
        have e3 : n - 4 * k = 3 := by omega
        obtain rfl := hq (by omega)
        have hsb := hS.out wr hB.out
        obtain ⟨gs, os, rfl, hcell0⟩ := (show Bs wr (.slice p (xs.length - 3 * k) c) (bi (xs.drop (3 * k))) from hsb).at (by omega)
        have hcell := Lib.hid hcell0
        clear hcell0
        have hg : ∀ i, (bi (xs.drop (3 * k))).getD i 0 = ((xs.getD (3 * k + i) 0 : Nat) : Int) := fun i => by rw [bi_get]; simp [List.getD]
        have HG := Lib.hid hg
        clear hg hsb
        have bx : ∀ i, i < xs.length → xs.getD i 0 < 256 := fun i hi => HXb.out _ (by simp [List.getD, hi])
        obtain ⟨x, hx⟩ : ∃ x, xs.getD (3 * k) 0 = x := ⟨_, rfl⟩
        have hx1 : x < 256 := by rw [← hx]; exact bx _ (by omega)
        have s0 : wr.cell? ⟨gs, os, none⟩ = some (.int .u8 (x : Int)) := by have := hcell.out 0 (by omega); rwa [HG.out, Nat.add_zero, Nat.add_zero, hx] at this
        obtain ⟨y, hy⟩ : ∃ x, xs.getD (3 * k + 1) 0 = x := ⟨_, rfl⟩
        have hy1 : y < 256 := by rw [← hy]; exact bx _ (by omega)
        have s1 : wr.cell? ⟨gs, os + 1, none⟩ = some (.int .u8 (y : Int)) := by have := hcell.out 1 (by omega); rwa [HG.out, hy] at this
        obtain ⟨q1, q2, q3⟩ := B64.enc_two k xs hm
        rw [hx] at q1
        rw [hx, hy] at q2
        rw [hy] at q3
        have hv : bits .or .u64 ((x : Int) * 65536) ((y : Int) * 256) = ((x * 65536 + y * 256 : Nat) : Int) := by
          rw [or_join 16 65536 _ _ (by decide) (by omega) (by omega) (by omega) (by omega) (by omega) (by omega)]; omega
        obtain ⟨v1, v2, v3, -⟩ := six (x * 65536 + y * 256) (by omega)
        obtain ⟨i1, hi1⟩ : ∃ i, x / 4 = i := ⟨_, rfl⟩
        obtain ⟨i2, hi2⟩ : ∃ i, x % 4 * 16 + y / 16 = i := ⟨_, rfl⟩
        obtain ⟨i3, hi3⟩ : ∃ i, y % 16 * 4 = i := ⟨_, rfl⟩
        have b3 : i3 < 64 := by omega
        rw [show (x * 65536 + y * 256) / 262144 = i1 by omega] at v1
        rw [show (x * 65536 + y * 256) / 4096 % 64 = i2 by omega] at v2
        rw [show (x * 65536 + y * 256) / 64 % 64 = i3 by omega] at v3
        rw [hi3] at q3
        generalize x * 65536 + y * 256 = V at hv v1 v2 v3
        have b1 : i1 < 64 := by omega
        have b2 : i2 < 64 := by omega
        rw [hi1] at q1
        rw [hi2] at q2
        have HE := hH.out.but hB.out (Ne.symm hne)
        have t1 := tab_at HE i1 b1
        have t2 := tab_at HE i2 b2
        have t3 := tab_at HE i3 b3
        have Q3 := Lib.hid q3
        clear q3 hi3 hy
        generalize B64.lt i3 = l3 at t3 Q3
        have j3 : (i3 : Int) < 64 := by omega
        have hp := pad_cell HE (xl_len 64)
        have Q1 := Lib.hid q1
        have Q2 := Lib.hid q2
        clear q1 q2 hi1 hi2 hx bx HE
        generalize B64.lt i1 = l1 at t1 Q1
        generalize B64.lt i2 = l2 at t2 Q2
        have yl : Y.length = cur.length := HF.out.1
        have d0 : wr.cell? ⟨gd, od + 4 * k, none⟩ = some (.int .u8 (Y.getD (od + 4 * k) 0)) := by rw [HR.out.cell, get_cs8 _ _ (by omega)]
        have d1 : wr.cell? ⟨gd, od + 4 * k + 1, none⟩ = some (.int .u8 (Y.getD (od + 4 * k + 1) 0)) := by rw [HR.out.cell, get_cs8 _ _ (by omega)]
        have ff := HR.out.unfrozen
        generalize Y.getD (od + 4 * k) 0 = e0 at d0
        generalize Y.getD (od + 4 * k + 1) 0 = f1 at d1
        have d2 : wr.cell? ⟨gd, od + 4 * k + 2, none⟩ = some (.int .u8 (Y.getD (od + 4 * k + 2) 0)) := by rw [HR.out.cell, get_cs8 _ _ (by omega)]
        generalize Y.getD (od + 4 * k + 2) 0 = f2 at d2
        have hne2 : ¬ g = gd := fun h => hne h.symm
        have hne3 : ¬ gd = g := hne
        have j1 : (i1 : Int) < 64 := by omega
        have j2 : (i2 : Int) < 64 := by omega
        have E2 := Lib.hid e2
        rw [e1, e3] at *
        clear hN hm hq e1 e3 e2 yl
        go_wp2_with fail
        go_quiet (fail)
        have t1 : (wr.drewN nq).cell? ⟨g, i1, none⟩ = some (.int .u8 (l1 : Int)) := t1
        have t2 : (wr.drewN nq).cell? ⟨g, i2, none⟩ = some (.int .u8 (l2 : Int)) := t2
        have t3 : (wr.drewN nq).cell? ⟨g, i3, none⟩ = some (.int .u8 (l3 : Int)) := t3
        have hp : (wr.drewN nq).cell? ⟨g, 320, none⟩ = some (.int .i32 (-1)) := hp
        have d0 : (wr.drewN nq).cell? ⟨gd, od + 4 * k, none⟩ = some (.int .u8 e0) := d0
        have d1 : (wr.drewN nq).cell? ⟨gd, od + 4 * k + 1, none⟩ = some (.int .u8 f1) := d1
        have d2 : (wr.drewN nq).cell? ⟨gd, od + 4 * k + 2, none⟩ = some (.int .u8 f2) := d2
        have ff : ∀ j, (wr.drewN nq).frozen? ⟨gd, j, none⟩ = false := ff
        have HR := Lib.hid (row_drewN HR.out nq)
        have hB := Lib.hid (show But gd w (wr.drewN nq) from hB.out.trans ⟨rfl, rfl, rfl, Nat.le_refl _, fun _ _ _ => rfl⟩)
        generalize wr.drewN nq = w3 at *
        have HX := Lib.hid (show Fil od n cur xs (((Y.set (od + 4 * k) l1).set (od + 4 * k + 1) l2).set (od + 4 * k + 2) l3) by have e2 := E2.out; rw [e2]; exact ((HF.out.set (by omega) l1 Q1.out).set (by omega) l2 Q2.out).set (by omega) l3 Q3.out)
        have HRX := Lib.hid (set8b (set8b (set8b HR.out (od + 4 * k) l1) (od + 4 * k + 1) l2) (od + 4 * k + 2) l3)
        have HBX := Lib.hid (((hB.out.trans (But.of_only (Only.set _ gd (od + 4 * k) (.int .u8 (l1 : Int))))).trans (But.of_only (Only.set _ gd (od + 4 * k + 1) (.int .u8 (l2 : Int))))).trans (But.of_only (Only.set _ gd (od + 4 * k + 2) (.int .u8 (l3 : Int)))))
        go_wp2_with fail
        first
          | go_end0
          | ((try simp only [Exit.inBlock, Exit.then]); refine bodyPost_ret (results_none rfl _ _ _) rfl ?_)
        exact ⟨⟨_, rfl⟩, ⟨_, HRX.out, HX.out⟩, HBX.out⟩
end Go.Proofs.YtaemdppihpefnaaGreatDoor
