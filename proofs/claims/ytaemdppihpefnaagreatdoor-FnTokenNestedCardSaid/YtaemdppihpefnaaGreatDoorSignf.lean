/- The function that signs: an HMAC made anew, written, summed. -/
import Derived.Test.YtaemdppihpefnaaGreatDoorHsum
namespace Go.Proofs.YtaemdppihpefnaaGreatDoor
open Go.RowKit
set_option linter.unusedVariables false

/-- The code of some bytes with a key. -/
def macOf (H : HK) (key p : List Int) : List Int := H.sum (H.write (H.write (H.reset (outerOf H key)) (opadOf H key)) (H.sum (H.write (innerOf H key) p)))
theorem macOf_len (H : HK) (key p : List Int) : (macOf H key p).length = H.size := H.sum_len _
theorem macOf_byt (H : HK) (key p : List Int) : Byt (macOf H key p) := H.sum_byt _

theorem own_base {w : World} {b b' : Nat} {e : TypeId} {v : Value} {n : Nat} {xs : List Value} (h : w.ownsRow b e 1 v n xs) (hb : b' ≤ b) : w.ownsRow b' e 1 v n xs := by
  obtain ⟨h1, h2⟩ := h
  refine ⟨h1, ?_⟩
  rcases h2 with h2 | ⟨g, cap, cur, hv, hg, hr⟩
  · exact Or.inl h2
  · exact Or.inr ⟨g, cap, cur, hv, by omega, hr⟩

theorem inner_n (H : HK) (key : List Int) : H.n (innerOf H key) ≤ 65536 ∧ (xorL 54 (kzOf H key) H.block).length ≤ 65536 ∨ ¬ (keyOf H key).length ≤ H.block := by
  by_cases h : (keyOf H key).length ≤ H.block
  · have hb := H.block_le
    have hl : (xorL 54 (kzOf H key) H.block).length = H.block := by
      rw [xorL_len]; unfold kzOf
      rw [length_splice _ _ _ (by rw [List.length_replicate]; omega), List.length_replicate]
    refine Or.inl ⟨?_, by rw [hl]; omega⟩
    unfold innerOf
    rw [(H.write_ok H.init _ H.init_ok (by rw [hl]; omega) (by rw [H.init_n, hl]; omega)).2, H.init_n, hl]; omega
  · exact Or.inr h
theorem keyOf_le (H : HK) (key : List Int) : (keyOf H key).length ≤ H.block := by
  unfold keyOf
  split
  · rw [H.sum_len]; exact H.size_block
  · omega

set_option maxRecDepth 100000 in
set_option maxHeartbeats 1000000 in
theorem signF (H : HK) (C : Nat) (vp vk : Value) (p key : List Int) (w : World) (hp : Bs w vp p) (hk : Bs w vk key) (hpb : p.length ≤ 65536) (hkb : key.length ≤ 65536) (hkt : Row w H.kg H.kT H.kC)
    (hc : w.cell? ⟨C, 0, none⟩ = some (.func (.func H.fNew) #[] #[])) :
    Calls Tryz.prog 117 #[vp, vk, .pointer (some ⟨C, 0, none⟩)] w fun e w' => ∃ v', e = .returned (.tuple #[v', .nilIface]) ∧ w'.ownsRow w.heap.size 5 1 v' H.size (cs8 (macOf H key p)) ∧ Below w.heap.size w w' := by
  have hkg := hkt.lt
  have hin : H.n (innerOf H key) ≤ 65536 := by
    rcases inner_n H key with h | h
    · exact h.1
    · exact absurd (keyOf_le H key) h
  have G1 := Lib.hid (hmacNew H vk key w hk hkb hkt)
  have G2 : Hid (∀ w1, Hmd H w.heap.size (outerOf H key) (innerOf H key) (opadOf H key) w1 → Below w.heap.size w w1 → Calls Tryz.prog 119 #[.pointer (some ⟨w.heap.size, 0, none⟩), vp] w1 fun e w2 => e = .returned (.tuple #[.int .i64 p.length, .nilIface]) ∧ Hid (Hmd H w.heap.size (outerOf H key) (H.write (innerOf H key) p) (opadOf H key) w2) ∧ Hid (Below w.heap.size w w2)) := by
    refine Lib.hid fun w1 hm hb => ?_
    refine (hmacWrite H w.heap.size _ _ _ vp p w1 hm (hkt.below hb hkg) hkg (hp.below hb) (Off.of_old hp (by omega)) hpb (by omega)).mono ?_
    intro e w2 ⟨h1, h2, h3⟩
    exact ⟨h1, Lib.hid h2, Lib.hid (hb.trans (h3.below (by omega) (by have := hm.size; omega)))⟩
  have G3 : Hid (∀ w2, Hmd H w.heap.size (outerOf H key) (H.write (innerOf H key) p) (opadOf H key) w2 → Below w.heap.size w w2 → Calls Tryz.prog 120 #[.pointer (some ⟨w.heap.size, 0, none⟩), .slice none 0 0] w2 fun e w3 => ∃ v', e = .returned v' ∧ Hid (w3.ownsRow w.heap.size 5 1 v' H.size (cs8 (macOf H key p))) ∧ Hid (Below w.heap.size w w3)) := by
    refine Lib.hid fun w2 hm hb => ?_
    have hni : H.n (H.write (innerOf H key) p) ≤ 1099511627776 := by
      have hi : H.ok (innerOf H key) := by
        have hl := inner_n H key
        rcases hl with hl | hl
        · have := H.init_n
          exact (H.write_ok H.init _ H.init_ok hl.2 (by rw [this]; have := hl.2; omega)).1
        · exact absurd (keyOf_le H key) hl
      rw [(H.write_ok _ p hi hpb (by omega)).2]; omega
    refine (hmacSum H w.heap.size _ _ _ w2 hm (hkt.below hb hkg) hkg hni).mono ?_
    intro e w3 ⟨v', h1, h2, h3⟩
    exact ⟨v', h1, Lib.hid (own_base h2 hb.size), Lib.hid (hb.trans (h3.below (by omega) (by have := hm.size; omega)))⟩
  clear hp hk hkt hin
  go_enter Tryz.func117, Tryz.ntmps117
  go_wp2_with fail
  refine G1.out.mono ?_
  rintro e w1 ⟨rfl, hm1, hb1⟩
  have G2 := Lib.hid (G2.out w1 hm1 hb1)
  clear hm1 hb1
  go_wp2_with (go_at_call 119; refine G2.out.mono ?_; rintro e w2 ⟨rfl, hm2, hb2⟩)
  refine (G3.out w2 hm2.out hb2.out).mono ?_
  rintro e w3 ⟨v', rfl, own3, hb3⟩
  go_wp2_with fail
  go_ret2
  exact ⟨v', rfl, own3.out, hb3.out⟩
end Go.Proofs.YtaemdppihpefnaaGreatDoor
