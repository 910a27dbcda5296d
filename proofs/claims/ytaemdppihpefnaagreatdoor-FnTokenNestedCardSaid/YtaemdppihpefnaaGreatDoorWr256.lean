/- What the digest of SHA-256 is behind a writing: plain words. -/
import Derived.Test.YtaemdppihpefnaaGreatDoorDig256
import Derived.Test.YtaemdppihpefnaaGreatDoorOff
import Derived.Laws.BitsAllLaws
namespace Go.Proofs.YtaemdppihpefnaaGreatDoor
open Go.RowKit
set_option linter.unusedVariables false

/-- A digest: its words, the waiting bytes' array, their number, the length. -/
structure D32 where
  (s : S8) (x : List Int) (nx : Nat) (len : Int)
def D32.cells (d : D32) : List Value := dig32 d.s d.x d.nx d.len

/-- The first part of a writing: the waiting bytes are filled up. -/
def fillN (nx n : Nat) : Nat := min (64 - nx) n
def fill32 (K : List Int) (d : D32) (p : List Int) : D32 × List Int :=
  if d.nx = 0 then (d, p) else
  if d.nx + fillN d.nx p.length = 64 then (⟨comp32 K (splice d.x d.nx (p.take (fillN d.nx p.length))) d.s, splice d.x d.nx (p.take (fillN d.nx p.length)), 0, d.len⟩, p.drop (fillN d.nx p.length))
  else (⟨d.s, splice d.x d.nx (p.take (fillN d.nx p.length)), d.nx + fillN d.nx p.length, d.len⟩, p.drop (fillN d.nx p.length))
/-- The second part: whole blocks. -/
def whole32 (K : List Int) (d : D32) (p : List Int) : D32 × List Int :=
  if 64 ≤ p.length then (⟨comp32 K (p.take (p.length / 64 * 64)) d.s, d.x, d.nx, d.len⟩, p.drop (p.length / 64 * 64)) else (d, p)
/-- The third part: what is left waits. -/
def rest32 (d : D32) (p : List Int) : D32 := if 0 < p.length then ⟨d.s, splice d.x 0 p, p.length, d.len⟩ else d
def longer32 (d : D32) (n : Nat) : D32 := ⟨d.s, d.x, d.nx, IntKind.u64.wrap (d.len + n)⟩
def write32 (K : List Int) (d : D32) (p : List Int) : D32 :=
  rest32 (whole32 K (fill32 K (longer32 d p.length) p).1 (fill32 K (longer32 d p.length) p).2).1 (whole32 K (fill32 K (longer32 d p.length) p).1 (fill32 K (longer32 d p.length) p).2).2

theorem splice_mid {α : Type} (A B C cs : List α) (o : Nat) (h : o + cs.length ≤ B.length) : splice (A ++ (B ++ C)) (A.length + o) cs = A ++ (splice B o cs ++ C) := by
  unfold splice
  rw [List.take_length_add_append, List.take_append_of_le_length (by omega), Nat.add_assoc, List.drop_length_add_append, List.drop_append_of_le_length h]
  simp only [List.append_assoc]
theorem dig32_x (s : S8) (x : List Int) (nx len : Int) (o : Nat) (p : List Int) (h : o + p.length ≤ x.length) : splice (dig32 s x nx len) (8 + o) (cs8 p) = dig32 s (splice x o p) nx len := by
  have h8 : (cs32 (words8 s)).length = 8 := by simp [cs32, words8]
  unfold dig32
  rw [← h8, splice_mid _ _ _ _ _ (by simpa [cs8] using h), cs8_splice]
theorem fillN_le (nx n : Nat) : fillN nx n ≤ 64 - nx ∧ fillN nx n ≤ n := by unfold fillN; omega
theorem nat_down (n j : Nat) (h : n < 2 ^ 64) (hj : j ≤ 64) : n &&& ((2 ^ (64 - j) - 1) <<< j) = (n >>> j) <<< j := by
  apply Nat.eq_of_testBit_eq
  intro i
  rw [Nat.testBit_and, Nat.testBit_shiftLeft, Nat.testBit_shiftLeft, Nat.testBit_shiftRight, Nat.testBit_two_pow_sub_one]
  by_cases h1 : j ≤ i
  · rw [show j + (i - j) = i by omega]
    by_cases h2 : i < 64
    · simp [h1, show i - j < 64 - j by omega]
    · have : n.testBit i = false := Nat.testBit_lt_two_pow (Nat.lt_of_lt_of_le h (Nat.pow_le_pow_right (by omega) (by omega)))
      simp [this]
  · simp [h1]
theorem down64 (n : Nat) (h : n ≤ 65536) : bits .andNot .i64 (n : Int) 63 = ((n / 64 * 64 : Nat) : Int) := by
  show IntKind.i64.wrap ((BitVec.ofInt 64 (n : Int) &&& ~~~BitVec.ofInt 64 ((63 : Nat) : Int)).toNat : Int) = _
  rw [BitVec.toNat_and, BitVec.toNat_not, ofInt_u64 n (by omega), ofInt_u64 63 (by omega)]
  rw [show 2 ^ 64 - 1 - 63 = (2 ^ (64 - 6) - 1) <<< 6 by decide, nat_down n 6 (by omega) (by omega), Nat.shiftLeft_eq, Nat.shiftRight_eq_div_pow]
  rw [IntKind.wrap_i64]
  all_goals omega
theorem down128 (n : Nat) (h : n ≤ 65536) : bits .andNot .i64 (n : Int) 127 = ((n / 128 * 128 : Nat) : Int) := by
  show IntKind.i64.wrap ((BitVec.ofInt 64 (n : Int) &&& ~~~BitVec.ofInt 64 ((127 : Nat) : Int)).toNat : Int) = _
  rw [BitVec.toNat_and, BitVec.toNat_not, ofInt_u64 n (by omega), ofInt_u64 127 (by omega)]
  rw [show 2 ^ 64 - 1 - 127 = (2 ^ (64 - 7) - 1) <<< 7 by decide, nat_down n 7 (by omega) (by omega), Nat.shiftLeft_eq, Nat.shiftRight_eq_div_pow]
  rw [IntKind.wrap_i64]
  all_goals omega
end Go.Proofs.YtaemdppihpefnaaGreatDoor
