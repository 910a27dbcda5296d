/- An argument of bytes, as a row's frame opens it. -/
import Derived.Test.YtaemdppihpefnaaGreatDoorBase
namespace Go.Proofs.YtaemdppihpefnaaGreatDoor
open Go.RowKit
set_option linter.unusedVariables false

/-- What the opening of an argument tells of a slice of bytes. -/
theorem Bs.opened {w : World} {a : Option Addr} {len cap : Nat} {zs : List Int}
    (h : (a = none ∧ len = 0 ∧ cap = 0 ∧ zs = []) ∨ ∃ x, a = some x ∧ len ≤ cap ∧ cap ≤ maxLen ∧ zs.length = cap ∧ (∀ i, i < zs.length → w.cell? (x.add i) = some (.int .u8 (zs.getD i 0))) ∧ ∀ n ∈ zs, (Lit.int .u8 n).wf = true) :
    ∃ xs, xs.length = len ∧ len ≤ maxLen ∧ Bs w (.slice a len cap) xs ∧ Byt xs := by
  rcases h with ⟨rfl, rfl, rfl, rfl⟩ | ⟨x, rfl, hl, hm, hz, hc, hw⟩
  · exact ⟨[], rfl, by decide, Bs.nil w, fun x hx => by cases hx⟩
  · refine ⟨zs.take len, by simp; omega, by omega, ⟨some x, cap, by simp; omega, by simp; omega, (fun h => by cases h), fun hp => ?_⟩, fun z hz => ?_⟩
    · simp at hp
      obtain ⟨b, o, s⟩ := x
      have h0 := hc 0 (by omega)
      obtain rfl : s = none := by simpa [Addr.add] using World.cell?_spot h0
      refine ⟨b, o, rfl, fun i hi => ?_⟩
      simp at hi
      have := hc i (by omega)
      rw [Go.WideShapes.add_plain] at this
      rw [this]
      have hi2 : i < len := by omega
      simp [List.getD, hi2]
    · have := hw z (List.mem_of_mem_take hz)
      simp [Lit.wf, IntKind.min, IntKind.max, IntKind.bits, IntKind.signed] at this
      omega

end Go.Proofs.YtaemdppihpefnaaGreatDoor
