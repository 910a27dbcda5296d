/- An argument of parts, as a row's frame opens it; laws.FnTokenDots over any well-shaped world. -/
import Derived.Test.YtpmoaghhccioaaaGreatDoorDots
import Derived.Test.YtpmoaghhccioaaaGreatDoorLive
import Derived.Test.YtpmoaghhccioaaaGreatDoorGlobal
import Derived.Test.YtpmoaghhccioaaaGreatDoorOpened
namespace Go.Proofs.YtpmoaghhccioaaaGreatDoor
open Go.RowKit
set_option linter.unusedVariables false

theorem live_of (w : World) (h : w.ShapedOpen Tryz.prog) : Live w := by
  obtain ⟨K, hK, r⟩ := table256 w h
  exact fun w' b => tokenLive K hK w' (r.below b r.lt)

theorem parts_opened {w : World} {a : Addr} {len cap : Nat} {A : Nat → Option Addr} {L C : Nat → Nat} {Z : Nat → List Int} (hl : len ≤ cap)
    (h : ∀ r, r < cap → w.cell? (a.add r) = some (.slice (A r) (L r) (C r)) ∧ L r ≤ C r ∧ C r ≤ maxLen ∧ (Z r).length = C r ∧ (∀ n ∈ Z r, (Lit.int .u8 n).wf = true) ∧ (A r = none → C r = 0) ∧
      ∀ a', A r = some a' → 0 ≤ a'.block ∧ ∀ c, c < C r → w.cell? (a'.add c) = some (.int .u8 ((Z r).getD c 0))) :
    ∃ P, Parts w (some a) len A C P ∧ ∀ i, i < len → Byt (P i) := by
  have each : ∀ r, ∃ xs : List Int, r < len → xs.length = L r ∧ Bs w (.slice (A r) (L r) (C r)) xs ∧ Byt xs := fun r => by
    by_cases hr : r < len
    · obtain ⟨hc, h1, h2, h3, h4, h5, h6⟩ := h r (by omega)
      have hop : (A r = none ∧ L r = 0 ∧ C r = 0 ∧ Z r = []) ∨ ∃ x, A r = some x ∧ L r ≤ C r ∧ C r ≤ maxLen ∧ (Z r).length = C r ∧ (∀ i, i < (Z r).length → w.cell? (x.add i) = some (.int .u8 ((Z r).getD i 0))) ∧ ∀ n ∈ Z r, (Lit.int .u8 n).wf = true := by
        cases hA : A r with
        | none =>
          have h0 := h5 hA
          exact .inl ⟨rfl, by omega, h0, List.eq_nil_of_length_eq_zero (by omega)⟩
        | some x => exact .inr ⟨x, rfl, h1, h2, h3, fun i hi => (h6 x hA).2 i (by omega), h4⟩
      obtain ⟨xs, e1, _, e2, e3⟩ := Bs.opened hop
      exact ⟨xs, fun _ => ⟨e1, e2, e3⟩⟩
    · exact ⟨[], fun h => absurd h hr⟩
  obtain ⟨P, hP⟩ := Classical.axiomOfChoice each
  refine ⟨P, ⟨fun hn => ?_, fun i hi => ?_⟩, fun i hi => (hP i hi).2.2⟩
  · obtain ⟨b, o, s⟩ := a
    have h0 := (h 0 (by omega)).1
    obtain rfl : s = none := by simpa [Addr.add] using World.cell?_spot h0
    refine ⟨b, o, rfl, World.block_lt_of_cell? w _ (by simpa [Go.WideShapes.add_plain] using h0), fun i hi => ?_⟩
    have := (h i (by omega)).1
    rw [Go.WideShapes.add_plain] at this
    rw [this, (hP i hi).1]
  · have := (hP i hi).2.1
    rw [← (hP i hi).1] at this
    exact this

theorem parts_nil (w : World) : Parts w none 0 (fun _ => none) (fun _ => 0) (fun _ => []) := ⟨fun h => absurd h (by omega), fun i hi => absurd hi (by omega)⟩
end Go.Proofs.YtpmoaghhccioaaaGreatDoor
