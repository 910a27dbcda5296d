/- laws.tokenLive returns true. -/
import Derived.Test.YtaemdppihpefnaaGreatDoorVerified
import Derived.Test.YtaemdppihpefnaaGreatDoorHk256
import Derived.Lib.SlBytesConst
namespace Go.Proofs.YtaemdppihpefnaaGreatDoor
open Go.RowKit
set_option linter.unusedVariables false

theorem bs_lit (w : World) (xs : List Int) (T : TypeId) (cs : Array Value) (fr : Nat × Nat) (h : cs = (cs8 xs).toArray) (n : Nat) (hn : xs.length = n) (g : Nat) (hg : g = w.heap.size) : Bs (w.alloc (.cells cs T fr)) (.slice (some ⟨g, 0, none⟩) n n) xs := by
  subst h hn hg
  refine ⟨_, xs.length, rfl, Nat.le_refl _, (fun h => by cases h), fun _ => ⟨w.heap.size, 0, rfl, fun i hi => ?_⟩⟩
  rw [cell_of_row _ _ _ _ _ _ (heap_alloc_new w _), Nat.zero_add]
  simpa using get_cs8 xs i hi
theorem two_lits (w : World) : ∃ w1 : World, w1 = (w.alloc (.cells #[.int .u8 97, .int .u8 98] 5 (2, 3))).alloc (.cells #[.int .u8 1] 5) ∧ Bs w1 (.slice (some ⟨w.heap.size, 0, none⟩) 2 2) [97, 98] ∧ Bs w1 (.slice (some ⟨w.heap.size + 1, 0, none⟩) 1 1) [1] ∧ Below w.heap.size w w1 :=
  ⟨_, rfl, (bs_lit w [97, 98] 5 _ (2, 3) rfl 2 rfl _ rfl).below ((Below.refl _ _).alloc (Nat.le_refl _) _), bs_lit _ [1] 5 _ (0, 0) rfl 1 rfl _ (by simp), ((Below.refl _ _).alloc (Nat.le_refl _) _).alloc (by simp) _⟩
theorem own_form {w : World} {base : Nat} {e : TypeId} {v : Value} {n : Nat} {xs : List Value} (h : w.ownsRow base e 1 v n xs) (hn : 0 < n) : ∃ g cap, v = .slice (some ⟨g, 0, none⟩) n cap := by
  obtain ⟨_, h2⟩ := h
  rcases h2 with ⟨_, h0⟩ | ⟨g, cap, cur, hv, _⟩
  · omega
  · exact ⟨g, cap, hv⟩

set_option maxRecDepth 100000 in
set_option maxHeartbeats 4000000 in
theorem tokenLive (K : List Int) (hK : K.length = 64) (w : World) (hkt : Row w 8 380 (cs32 K)) :
    Calls Tryz.prog 6 #[] w fun e w' => e = .returned (.bool true) ∧ Below w.heap.size w w' := by
  have HKt := Lib.hid hkt
  clear hkt
  have kc := fun (w : World) (C : Array Value) (n c : Nat) => Lib.run_convert_bytes_const (P := Tryz.prog) w 22 5 C n c Tryz.underlying22 Tryz.underlying5
  go_enter Tryz.func6, Tryz.ntmps6
  go_wp2_with fail
  obtain ⟨w1, hw1, B1, B2, L1⟩ := two_lits w
  rw [← hw1]
  clear hw1
  have K1 := HKt.out.below L1 HKt.out.lt
  refine (signedOf (hk256 K hK) ⟨#[72, 83, 50, 53, 54]⟩ hmacOf0 newSigner0 _ _ [97, 98] [1] w1 B1 B2 (by decide) (by decide) (by decide) K1).mono ?_
  rintro e w2 ⟨v', rfl, own, b2⟩
  have hex : ∃ g cap, v' = .slice (some ⟨g, 0, none⟩) 32 cap := own_form own (show 0 < 32 by decide)
  have Bv := Bs.own own
  have L2 := Lib.hid (L1.trans (b2.mono L1.size))
  have K2 := Lib.hid (K1.below b2 K1.lt)
  clear own b2 K1 B1 B2 L1
  obtain ⟨g, cap, hv⟩ := hex
  rw [hv] at Bv ⊢
  have Bv := Lib.hid Bv
  clear hv
  go_wp2_with fail
  obtain ⟨w3, hw3, B1, B2, L3⟩ := two_lits w2
  rw [← hw3]
  clear hw3
  refine (verifiedOf (hk256 K hK) ⟨#[72, 83, 50, 53, 54]⟩ hmacOf0 newVerifier0 _ _ _ [97, 98] [1] w3 B1 (Bv.out.below L3) B2 (by decide) (by decide) (by decide) (K2.out.below L3 K2.out.lt)).mono ?_
  rintro e w4 ⟨rfl, b4⟩
  have L4 := Lib.hid ((L2.out.trans (L3.mono L2.out.size)).trans (b4.mono ((L2.out.trans (L3.mono L2.out.size)).size)))
  clear b4 B1 B2 L3
  go_wp2_with fail
  go_ret
  exact ⟨rfl, L4.out⟩
end Go.Proofs.YtaemdppihpefnaaGreatDoor
