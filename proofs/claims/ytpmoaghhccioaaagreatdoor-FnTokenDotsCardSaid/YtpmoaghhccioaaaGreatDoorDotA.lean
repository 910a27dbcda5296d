/- laws.zzFits9, slices.ContainsFunc: over parts of bytes. -/
import Derived.Test.YtpmoaghhccioaaaGreatDoorBytes
import Derived.Test.YtpmoaghhccioaaaGreatDoorProg
import Derived.Deep.LoopGhost
import Derived.LoopTactic
import Derived.Outline
namespace Go.Proofs.YtpmoaghhccioaaaGreatDoor
open Go.RowKit
set_option linter.unusedVariables false

/-- Parts of bytes: a slice of slices. -/
structure Parts (w : World) (p : Option Addr) (n : Nat) (A : Nat → Option Addr) (C : Nat → Nat) (P : Nat → List Int) : Prop where
  cell : 0 < n → ∃ b o, p = some ⟨b, o, none⟩ ∧ b < w.heap.size ∧ ∀ i, i < n → w.cell? ⟨b, o + i, none⟩ = some (.slice (A i) (P i).length (C i))
  bs : ∀ i, i < n → Bs w (.slice (A i) (P i).length (C i)) (P i)
theorem Parts.below {w w' : World} {p : Option Addr} {n : Nat} {A : Nat → Option Addr} {C : Nat → Nat} {P : Nat → List Int} (h : Parts w p n A C P) (hb : Below w.heap.size w w') : Parts w' p n A C P where
  cell := fun hn => by
    obtain ⟨b, o, hp, hlt, hc⟩ := h.cell hn
    exact ⟨b, o, hp, Nat.lt_of_lt_of_le hlt hb.size, fun i hi => by rw [hb.cell (p := ⟨b, o + i, none⟩) hlt]; exact hc i hi⟩
  bs := fun i hi => (h.bs i hi).below hb

def AnyBool (e : Ending) : Prop := ∃ b, e = .returned (.bool b)

set_option maxRecDepth 100000 in
set_option maxHeartbeats 1000000 in
theorem fits9 (p : Option Addr) (n c : Nat) (A : Nat → Option Addr) (C : Nat → Nat) (P : Nat → List Int) (w : World) (h : Parts w p n A C P) :
    Calls Tryz.prog 4 #[.slice p n c] w fun e w' => AnyBool e ∧ w' = w := by
  have H := Lib.hid h
  clear h
  by_cases h1 : n ≤ 2147483647
  · have h2 : ¬ (2147483647 : Int) < n := by omega
    go_enter Tryz.func4, Tryz.ntmps4
    go_wp2_with fail
    go_loopw [10] (fun i wr => ∃ k : Nat, k ≤ n ∧ i = .int .i64 k ∧ wr = w) (fun i _ => n - (intOf i).toNat)
    case atStart => exact ⟨0, by omega, rfl, rfl⟩
    case round =>
      obtain ⟨k, hk, rfl, rfl⟩ := hrel
      by_cases hkn : k < n
      · obtain ⟨b, o, rfl, -, hc⟩ := H.out.cell (by omega)
        have c0 := hc k hkn
        clear hc
        have hkI : (k : Int) < n := by omega
        by_cases hl : (P k).length ≤ 2147483647
        · have hl2 : ¬ ((2147483647 : Int) < (P k).length) := by omega
          go_wp2_with fail
          exact ⟨⟨k + 1, by omega, by go_num, trivial⟩, by simp [intOf]; omega⟩
        · have hl2 : (2147483647 : Int) < (P k).length := by omega
          go_wp2_with fail
          go_ret
          exact ⟨⟨_, rfl⟩, rfl⟩
      · obtain rfl : k = n := by omega
        go_wp2_with fail
        go_ret
        exact ⟨⟨_, rfl⟩, rfl⟩
  · have h2 : (2147483647 : Int) < n := by omega
    go_enter Tryz.func4, Tryz.ntmps4
    go_wp2_with fail
    go_ret
    exact ⟨⟨_, rfl⟩, rfl⟩

theorem long1 (p : Option Addr) (n c : Nat) (w : World) : Calls Tryz.prog 6 #[.slice p n c] w fun e w' => e = .returned (.bool (decide (60 < n))) ∧ w' = w := by
  by_cases h : 60 < n
  · have h2 : (60 : Int) < n := by omega
    rw [decide_eq_true h]
    have h := Lib.hid h
    go_enter Tryz.func6, Tryz.ntmps6
    go_wp2
    go_ret
    exact ⟨rfl, rfl⟩
  · have h2 : ¬ (60 : Int) < n := by omega
    rw [decide_eq_false h]
    have h := Lib.hid h
    go_enter Tryz.func6, Tryz.ntmps6
    go_wp2
    go_ret
    exact ⟨rfl, rfl⟩

set_option maxRecDepth 100000 in
set_option maxHeartbeats 1000000 in
theorem indexLong (p : Option Addr) (n c : Nat) (A : Nat → Option Addr) (C : Nat → Nat) (P : Nat → List Int) (w : World) (h : Parts w p n A C P) (hn : n ≤ 1000) :
    Calls Tryz.prog 12 #[.slice p n c, .func (.func 6) #[] #[]] w fun e w' => (∃ r : Int, e = .returned (.int .i64 r) ∧ -1 ≤ r ∧ (r < 0 → ∀ i, i < n → (P i).length ≤ 60)) ∧ w' = w := by
  have H := Lib.hid h
  clear h
  go_enter Tryz.func12, Tryz.ntmps12
  go_wp2_with fail
  go_loopw [8] (fun i wr => ∃ k : Nat, k ≤ n ∧ i = .int .i64 k ∧ wr = w ∧ Hid (∀ i, i < k → (P i).length ≤ 60)) (fun i _ => n - (intOf i).toNat)
  case atStart => exact ⟨0, by omega, rfl, rfl, Lib.hid (fun i hi => by omega)⟩
  case round =>
    obtain ⟨k, hk, rfl, rfl, hS⟩ := hrel
    by_cases hkn : k < n
    · obtain ⟨b, o, rfl, -, hc⟩ := H.out.cell (by omega)
      have c0 := hc k hkn
      clear hc
      have hkI : (k : Int) < n := by omega
      go_wp2_with fail
      go_at_call 6
      refine (long1 (A k) (P k).length (C k) _).mono ?_
      rintro e w1 ⟨rfl, rfl⟩
      by_cases hl : 60 < (P k).length
      · rw [decide_eq_true hl]
        go_wp2_with fail
        go_ret
        exact ⟨⟨_, rfl, by omega, fun h => by omega⟩, rfl⟩
      · rw [decide_eq_false hl]
        go_wp2_with fail
        refine ⟨⟨k + 1, by omega, by go_num, trivial, Lib.hid (fun i hi => ?_)⟩, by simp [intOf]; omega⟩
        rcases Nat.lt_or_ge i k with h | h
        · exact hS.out i h
        · obtain rfl : i = k := by omega
          omega
    · obtain rfl : k = n := by omega
      go_wp2_with fail
      go_ret
      exact ⟨⟨_, rfl, by omega, fun _ => hS.out⟩, rfl⟩

theorem containsLong (p : Option Addr) (n c : Nat) (A : Nat → Option Addr) (C : Nat → Nat) (P : Nat → List Int) (w : World) (h : Parts w p n A C P) (hn : n ≤ 1000) :
    Calls Tryz.prog 5 #[.slice p n c, .func (.func 6) #[] #[]] w fun e w' => (∃ b, e = .returned (.bool b) ∧ (b = false → ∀ i, i < n → (P i).length ≤ 60)) ∧ w' = w := by
  have H := Lib.hid h
  clear h
  go_enter Tryz.func5, Tryz.ntmps5
  go_wp2_with fail
  go_at_call 12
  refine (indexLong p n c A C P _ H.out hn).mono ?_
  rintro e w1 ⟨⟨r, rfl, hr, hs⟩, rfl⟩
  have HS := Lib.hid hs
  clear hs
  by_cases h0 : 0 ≤ r
  · go_wp2_with fail
    go_ret
    exact ⟨⟨_, rfl, fun h => by simp at h⟩, rfl⟩
  · go_wp2_with fail
    go_ret
    exact ⟨⟨_, rfl, fun _ => HS.out (by omega)⟩, rfl⟩
end Go.Proofs.YtpmoaghhccioaaaGreatDoor
