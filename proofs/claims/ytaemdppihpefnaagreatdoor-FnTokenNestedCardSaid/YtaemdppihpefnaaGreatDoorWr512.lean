/- What the digest of SHA-512 is behind a writing: plain words. -/
import Derived.Test.YtaemdppihpefnaaGreatDoorDig512
import Derived.Test.YtaemdppihpefnaaGreatDoorGate512
import Derived.Test.YtaemdppihpefnaaGreatDoorWr256
import Derived.Test.YtaemdppihpefnaaGreatDoorOff
import Derived.Laws.BitsAllLaws
namespace Go.Proofs.YtaemdppihpefnaaGreatDoor
open Go.RowKit
set_option linter.unusedVariables false

/-- A digest: its words, the waiting bytes' array, their number, the length. -/
structure D64 where
  (s : S8) (x : List Int) (nx : Nat) (len sz : Int)
def D64.cells (d : D64) : List Value := dig64 d.s d.x d.nx d.len d.sz

/-- The first part of a writing: the waiting bytes are filled up. -/
def fillM (nx n : Nat) : Nat := min (128 - nx) n
def fill64 (K : List Int) (d : D64) (p : List Int) : D64 × List Int :=
  if d.nx = 0 then (d, p) else
  if d.nx + fillM d.nx p.length = 128 then (⟨comp64 K (splice d.x d.nx (p.take (fillM d.nx p.length))) d.s, splice d.x d.nx (p.take (fillM d.nx p.length)), 0, d.len, d.sz⟩, p.drop (fillM d.nx p.length))
  else (⟨d.s, splice d.x d.nx (p.take (fillM d.nx p.length)), d.nx + fillM d.nx p.length, d.len, d.sz⟩, p.drop (fillM d.nx p.length))
/-- The second part: whole blocks. -/
def whole64 (K : List Int) (d : D64) (p : List Int) : D64 × List Int :=
  if 128 ≤ p.length then (⟨comp64 K (p.take (p.length / 128 * 128)) d.s, d.x, d.nx, d.len, d.sz⟩, p.drop (p.length / 128 * 128)) else (d, p)
/-- The third part: what is left waits. -/
def rest64 (d : D64) (p : List Int) : D64 := if 0 < p.length then ⟨d.s, splice d.x 0 p, p.length, d.len, d.sz⟩ else d
def longer64 (d : D64) (n : Nat) : D64 := ⟨d.s, d.x, d.nx, IntKind.u64.wrap (d.len + n), d.sz⟩
def write64 (K : List Int) (d : D64) (p : List Int) : D64 :=
  rest64 (whole64 K (fill64 K (longer64 d p.length) p).1 (fill64 K (longer64 d p.length) p).2).1 (whole64 K (fill64 K (longer64 d p.length) p).1 (fill64 K (longer64 d p.length) p).2).2

theorem dig64_x (s : S8) (x : List Int) (nx len sz : Int) (o : Nat) (p : List Int) (h : o + p.length ≤ x.length) : splice (dig64 s x nx len sz) (8 + o) (cs8 p) = dig64 s (splice x o p) nx len sz := by
  have h8 : (cs64 (words8 s)).length = 8 := by simp [cs64, words8]
  unfold dig64
  rw [← h8, splice_mid _ _ _ _ _ (by simpa [cs8] using h), cs8_splice]
theorem fillM_le (nx n : Nat) : fillM nx n ≤ 128 - nx ∧ fillM nx n ≤ n := by unfold fillM; omega
end Go.Proofs.YtaemdppihpefnaaGreatDoor
