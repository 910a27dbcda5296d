/- Numbers laid as bytes, the greatest first (pub/sha256). -/
import Derived.Test.YtaemdppihpefnaaGreatDoorBytes
import Derived.Test.YtaemdppihpefnaaGreatDoorBlockKit
namespace Go.Proofs.YtaemdppihpefnaaGreatDoor
open Go.RowKit
set_option linter.unusedVariables false

/-- Some cells of a row, set one behind the other from place o on. -/
def setL (cur : List Value) (o : Nat) : List Value → List Value
  | [] => cur
  | y :: ys => setL (cur.set o y) (o + 1) ys
theorem setL_len : ∀ (ys : List Value) (cur : List Value) (o : Nat), (setL cur o ys).length = cur.length
  | [], _, _ => rfl
  | y :: ys, cur, o => by rw [setL, setL_len ys]; simp
theorem setL_snoc : ∀ (ys : List Value) (cur : List Value) (o : Nat) (y : Value), setL cur o (ys ++ [y]) = (setL cur o ys).set (o + ys.length) y
  | [], _, _, _ => rfl
  | x :: ys, cur, o, y => by
    rw [List.cons_append, setL, setL_snoc ys, setL, List.length_cons]
    congr 1; omega

theorem Only.tr {g : Nat} {a b c : World} (h : Only g a b) (k : Only g b c) : Only g a c :=
  ⟨k.os.trans h.os, k.tape.trans h.tape, k.output.trans h.output, k.size.trans h.size, fun n hn => (k.block n hn).trans (h.block n hn)⟩

/-- The four bytes of a word. -/
def put32 (v : Int) : List Int := [v / 16777216 % 256, v / 65536 % 256, v / 256 % 256, v % 256]

set_option maxRecDepth 100000 in
set_option maxHeartbeats 1000000 in
theorem bePut32 (g o n c : Nat) (T : TypeId) (cur : List Value) (v : Int) (w : World) (h : Row w g T cur) (hn : 4 ≤ n) (hl : o + 4 ≤ cur.length) :
    Calls Tryz.prog 268 #[.slice (some ⟨g, o, none⟩) n c, .int .u32 v] w fun e w' => e = .returned (.tuple #[]) ∧ Row w' g T (setL cur o (cs8 (put32 v))) ∧ Only g w w' := by
  obtain ⟨x0, e0⟩ : ∃ x, cur[o]? = some x := ⟨cur[o]'(by omega), by simp⟩
  obtain ⟨x1, e1⟩ : ∃ x, cur[o + 1]? = some x := ⟨cur[o + 1]'(by omega), by simp⟩
  obtain ⟨x2, e2⟩ : ∃ x, cur[o + 2]? = some x := ⟨cur[o + 2]'(by omega), by simp⟩
  obtain ⟨x3, e3⟩ : ∃ x, cur[o + 3]? = some x := ⟨cur[o + 3]'(by omega), by simp⟩
  have c0 : w.cell? ⟨g, o, none⟩ = some x0 := by rw [h.cell, e0]
  have c1 : w.cell? ⟨g, o + 1, none⟩ = some x1 := by rw [h.cell, e1]
  have c2 : w.cell? ⟨g, o + 2, none⟩ = some x2 := by rw [h.cell, e2]
  have c3 : w.cell? ⟨g, o + 3, none⟩ = some x3 := by rw [h.cell, e3]
  have f0 := h.unfrozen o
  have f1 := h.unfrozen (o + 1)
  have f2 := h.unfrozen (o + 2)
  have f3 := h.unfrozen (o + 3)
  have hn' : (4 : Int) ≤ n := by omega
  have H := Lib.hid h
  clear h e0 e1 e2 e3
  go_enter Tryz.func268, Tryz.ntmps268
  go_wp2
  go_end0
  exact ⟨rfl, (((H.out.set o _).set (o + 1) _).set (o + 2) _).set (o + 3) _, (((Only.set _ _ _ _).tr (Only.set _ _ _ _)).tr (Only.set _ _ _ _)).tr (Only.set _ _ _ _)⟩

/-- The first k bytes of a long word. -/
def put64 (v : Int) (k : Nat) : List Int := (List.range k).map fun i => v / (2 ^ (56 - 8 * i) : Nat) % 256
theorem put64_len (v : Int) (k : Nat) : (put64 v k).length = k := by simp [put64]
theorem put64_step (v : Int) (cur : List Value) (o k : Nat) : setL cur o (cs8 (put64 v (k + 1))) = (setL cur o (cs8 (put64 v k))).set (o + k) (.int .u8 (v / (2 ^ (56 - 8 * k) : Nat) % 256)) := by
  have h : cs8 (put64 v (k + 1)) = cs8 (put64 v k) ++ [.int .u8 (v / (2 ^ (56 - 8 * k) : Nat) % 256)] := by simp [put64, List.range_succ, cs8]
  rw [h, setL_snoc]
  simp [cs8, put64_len]

set_option maxRecDepth 100000 in
set_option maxHeartbeats 1000000 in
theorem bePut64 (g o n c : Nat) (T : TypeId) (cur : List Value) (v : Int) (w : World) (h : Row w g T cur) (hn : 8 ≤ n) (hl : o + 8 ≤ cur.length) :
    Calls Tryz.prog 267 #[.slice (some ⟨g, o, none⟩) n c, .int .u64 v] w fun e w' => e = .returned (.tuple #[]) ∧ Row w' g T (setL cur o (cs8 (put64 v 8))) ∧ Only g w w' := by
  obtain ⟨x7, e7⟩ : ∃ x, cur[o + 7]? = some x := ⟨cur[o + 7]'(by omega), by simp⟩
  have c7 : w.cell? ⟨g, o + 7, none⟩ = some x7 := by rw [h.cell, e7]
  have hn' : (8 : Int) ≤ n := by omega
  have h0 : Row w g T (setL cur o (cs8 (put64 v 0))) := h
  have H := Lib.hid h0
  clear h h0 e7
  go_enter Tryz.func267, Tryz.ntmps267
  go_wp2_with fail
  go_loopw [4] (fun t wr => ∃ k : Nat, k ≤ 8 ∧ t = .int .i64 k ∧ Hid (Row wr g T (setL cur o (cs8 (put64 v k)))) ∧ Hid (Only g w wr)) (fun t _ => 8 - (intOf t).toNat)
  case atStart => exact ⟨0, by omega, rfl, H, Lib.hid ⟨rfl, rfl, rfl, rfl, fun _ _ => rfl⟩⟩
  case round =>
    obtain ⟨k, hk, rfl, Hr, Ho⟩ := hrel
    clear c7
    by_cases hlt : k < 8
    · obtain ⟨v0, hv0⟩ : ∃ v0, (setL cur o (cs8 (put64 v k)))[o + k]? = some v0 := ⟨(setL cur o (cs8 (put64 v k)))[o + k]'(by rw [setL_len]; omega), by simp⟩
      have hcell : wr.cell? ⟨g, o + k, none⟩ = some v0 := by rw [Hr.out.cell, hv0]
      have hfr := Hr.out.unfrozen (o + k)
      have hkn : (k : Int) < n := by omega
      clear hv0
      go_wp2
      refine ⟨⟨k + 1, by omega, by go_num, ?_, Lib.hid (Ho.out.tr (Only.set _ _ _ _))⟩, by simp [intOf]; omega⟩
      rw [put64_step]
      have hb := Hr.out.set (o + k) (.int .u8 (v / (2 ^ (56 - 8 * k) : Nat) % 256))
      simp only [Int.natCast_pow, Int.cast_ofNat_Int] at hb ⊢
      exact Lib.hid hb
    · obtain rfl : k = 8 := by omega
      go_wp2
      go_end0
      exact ⟨rfl, Hr.out, Ho.out⟩
set_option maxRecDepth 100000 in
set_option maxHeartbeats 1000000 in
/-- The same of pub/sha512. -/
theorem bePut64h (g o n c : Nat) (T : TypeId) (cur : List Value) (v : Int) (w : World) (h : Row w g T cur) (hn : 8 ≤ n) (hl : o + 8 ≤ cur.length) :
    Calls Tryz.prog 281 #[.slice (some ⟨g, o, none⟩) n c, .int .u64 v] w fun e w' => e = .returned (.tuple #[]) ∧ Row w' g T (setL cur o (cs8 (put64 v 8))) ∧ Only g w w' := by
  obtain ⟨x7, e7⟩ : ∃ x, cur[o + 7]? = some x := ⟨cur[o + 7]'(by omega), by simp⟩
  have c7 : w.cell? ⟨g, o + 7, none⟩ = some x7 := by rw [h.cell, e7]
  have hn' : (8 : Int) ≤ n := by omega
  have h0 : Row w g T (setL cur o (cs8 (put64 v 0))) := h
  have H := Lib.hid h0
  clear h h0 e7
  go_enter Tryz.func281, Tryz.ntmps281
  go_wp2_with fail
  go_loopw [4] (fun t wr => ∃ k : Nat, k ≤ 8 ∧ t = .int .i64 k ∧ Hid (Row wr g T (setL cur o (cs8 (put64 v k)))) ∧ Hid (Only g w wr)) (fun t _ => 8 - (intOf t).toNat)
  case atStart => exact ⟨0, by omega, rfl, H, Lib.hid ⟨rfl, rfl, rfl, rfl, fun _ _ => rfl⟩⟩
  case round =>
    obtain ⟨k, hk, rfl, Hr, Ho⟩ := hrel
    clear c7
    by_cases hlt : k < 8
    · obtain ⟨v0, hv0⟩ : ∃ v0, (setL cur o (cs8 (put64 v k)))[o + k]? = some v0 := ⟨(setL cur o (cs8 (put64 v k)))[o + k]'(by rw [setL_len]; omega), by simp⟩
      have hcell : wr.cell? ⟨g, o + k, none⟩ = some v0 := by rw [Hr.out.cell, hv0]
      have hfr := Hr.out.unfrozen (o + k)
      have hkn : (k : Int) < n := by omega
      clear hv0
      go_wp2
      refine ⟨⟨k + 1, by omega, by go_num, ?_, Lib.hid (Ho.out.tr (Only.set _ _ _ _))⟩, by simp [intOf]; omega⟩
      rw [put64_step]
      have hb := Hr.out.set (o + k) (.int .u8 (v / (2 ^ (56 - 8 * k) : Nat) % 256))
      simp only [Int.natCast_pow, Int.cast_ofNat_Int] at hb ⊢
      exact Lib.hid hb
    · obtain rfl : k = 8 := by omega
      go_wp2
      go_end0
      exact ⟨rfl, Hr.out, Ho.out⟩
end Go.Proofs.YtaemdppihpefnaaGreatDoor
