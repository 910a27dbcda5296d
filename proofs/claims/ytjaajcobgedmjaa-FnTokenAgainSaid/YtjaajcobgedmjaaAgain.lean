/- laws.FnTokenAgain returns true: over whatever hash the algorithm has. -/
import Derived.Test.YtjaajcobgedmjaaFits
import Derived.Test.YtjaajcobgedmjaaVerified
import Derived.Test.YtjaajcobgedmjaaEqual
namespace Go.Proofs.Ytjaajcobgedmjaa
open Go.RowKit
set_option linter.unusedVariables false

/-- An algorithm's name, and the hash that it goes with. -/
structure AlgOk (n : Nat) (H : HK) : Prop where
  of : OfName (hsName n)
  sg : MadeSigner H.fNew (hsName n)
  mv : MadeVerifier H.fNew (hsName n)
/-- tokenLive returns true, from w on. -/
def Live (w : World) : Prop := ∀ w', Below w.heap.size w w' → Calls Try.prog 5 #[] w' fun e w'' => e = .returned (.bool true) ∧ Below w'.heap.size w' w''
theorem equalT (v1 v2 : Value) (xs : List Int) (w : World) (h1 : Bs w v1 xs) (h2 : Bs w v2 xs) (hx : Byt xs) :
    Calls Try.prog 9 #[v1, v2] w fun e w' => e = .returned (.bool true) ∧ w = w' := by
  have h := equal v1 v2 xs xs w h1 h2 hx hx
  simpa using h

set_option maxRecDepth 100000 in
set_option maxHeartbeats 4000000 in
theorem lawAgain (H : HK) (a : Int) (vb vk : Value) (b key : List Int) (w : World) (h0 : 0 ≤ a) (h1 : a < 256) (hA : AlgOk (a % 3).toNat H) (hl : Live w)
    (hb : Bs w vb b) (hk : Bs w vk key) (hyb : Byt b) (hyk : Byt key) (hkt : Row w H.kg H.kT H.kC) :
    Calls Try.prog 3 #[.int .u8 a, vb, vk] w fun e w' => e = .returned (.bool true) ∧ Below w.heap.size w w' := by
  obtain ⟨pb, cb, rfl, _, _, _⟩ := id hb
  obtain ⟨pk, ck, rfl, _, _, _⟩ := id hk
  have Hb := Lib.hid hb
  have Hk := Lib.hid hk
  have Hyb := Lib.hid hyb
  have Hyk := Lib.hid hyk
  have Hl := Lib.hid hl
  have HA := Lib.hid hA
  have HKt := Lib.hid hkt
  clear hb hk hyb hyk hl hA hkt
  have dn : ∀ (b : Bool) (wx : World), (Op.unary .not (.bool b)).run Try.prog wx = .ok (.bool (!b)) wx := fun _ _ => rfl
  by_cases hb1 : b.length ≤ 2147483647
  · have hb2 : ¬ (2147483647 : Int) < b.length := by omega
    by_cases hk1 : key.length ≤ 2147483647
    · have hk2 : ¬ (2147483647 : Int) < key.length := by omega
      have F : Hid (Calls Try.prog 4 #[.slice pb b.length cb, .slice (some ⟨w.heap.size, 0, none⟩) 1 1] (w.alloc (.cells #[.slice pk key.length ck] 22)) fun e w' => e = .returned (.bool (decide (b.length ≤ 1000) && keyB key.length)) ∧ (w.alloc (.cells #[.slice pk key.length ck] 22)) = w') := by
        have hba : Below w.heap.size w (w.alloc (.cells #[.slice pk key.length ck] 22)) := (Below.refl _ _).alloc (Nat.le_refl _) _
        exact Lib.hid (fits1 w.heap.size _ _ b key _ (Hb.out.below hba) (Hk.out.below hba) (by rw [(Row.alloc w [_] _).cell]; rfl))
      have L0 : Hid (Below w.heap.size w (w.alloc (.cells #[.slice pk key.length ck] 22))) := Lib.hid ((Below.refl _ _).alloc (Nat.le_refl _) _)
      obtain ⟨fb, hfb⟩ : ∃ fb, (decide (b.length ≤ 1000) && keyB key.length) = fb := ⟨_, rfl⟩
      rw [hfb] at F
      cases fb
      · clear hfb
        go_enter Try.func3, Try.ntmps3
        go_wp2_with (go_at_call 4; refine F.out.mono ?_; rintro e w' ⟨rfl, rfl⟩)
        refine (Hl.out _ L0.out).mono ?_
        rintro e w2 ⟨rfl, b2⟩
        have L2 := Lib.hid (L0.out.trans (b2.mono L0.out.size))
        clear b2
        go_wp2_with fail
        go_ret
        exact ⟨rfl, L2.out⟩
      · have hlim : b.length ≤ 1000 ∧ 0 < key.length ∧ key.length ≤ 300 := by
          simp only [Bool.and_eq_true, decide_eq_true_eq, keyB] at hfb; exact hfb
        obtain ⟨hbs, hks, hks2⟩ := hlim
        clear hfb
        go_enter Try.func3, Try.ntmps3
        go_wp2_with (go_at_call 4; refine F.out.mono ?_; rintro e w' ⟨rfl, rfl⟩)
        refine (tokenAlg a _ h0 h1).mono ?_
        rintro e w1 ⟨rfl, b1⟩
        have L1 := Lib.hid (L0.out.trans (b1.mono L0.out.size))
        clear b1 L0 F
        generalize hnm : hsName (a % 3).toNat = nm at *
        have Hnm := Lib.hid hnm
        clear hnm
        have cO : Hid (OfName nm) := Lib.hid (by rw [← Hnm.out]; exact HA.out.of)
        have cM : Hid (MadeSigner H.fNew nm) := Lib.hid (by rw [← Hnm.out]; exact HA.out.sg)
        have cV : Hid (MadeVerifier H.fNew nm) := Lib.hid (by rw [← Hnm.out]; exact HA.out.mv)
        go_wp2_with fail
        refine (clone _ b _ (Hb.out.below L1.out) (by omega)).mono ?_
        rintro e w2 ⟨x, rfl, o2, b2⟩
        have L2 := Lib.hid (L1.out.trans (b2.mono L1.out.size))
        have X2 := Lib.hid (Bs.own o2)
        clear o2 b2 L1
        go_wp2_with fail
        refine (clone _ key _ (Hk.out.below L2.out) (by omega)).mono ?_
        rintro e w3 ⟨y, rfl, o3, b3⟩
        have L3 := Lib.hid (L2.out.trans (b3.mono L2.out.size))
        have X3 := Lib.hid (X2.out.below b3)
        have Y3 := Lib.hid (Bs.own o3)
        clear o3 b3 L2 X2
        go_wp2_with fail
        refine (signedOf H nm cO.out cM.out x y b key _ X3.out Y3.out (by omega) (by omega) hks (HKt.out.below L3.out HKt.out.lt)).mono ?_
        rintro e w4 ⟨s1, rfl, o4, b4⟩
        have L4 := Lib.hid (L3.out.trans (b4.mono L3.out.size))
        have X4 := Lib.hid (X3.out.below b4)
        have Y4 := Lib.hid (Y3.out.below b4)
        have S4 := Lib.hid (Bs.own o4)
        clear o4 b4 L3 X3 Y3
        go_wp2_with fail
        refine (signedOf H nm cO.out cM.out x y b key _ X4.out Y4.out (by omega) (by omega) hks (HKt.out.below L4.out HKt.out.lt)).mono ?_
        rintro e w5 ⟨s2, rfl, o5, b5⟩
        have L5 := Lib.hid (L4.out.trans (b5.mono L4.out.size))
        have X5 := Lib.hid (X4.out.below b5)
        have Y5 := Lib.hid (Y4.out.below b5)
        have S5 := Lib.hid (S4.out.below b5)
        have T5 := Lib.hid (Bs.own o5)
        clear o5 b5 L4 X4 Y4 S4
        go_wp2_with fail
        refine (equalT _ _ _ _ S5.out T5.out (macOf_byt H key b)).mono ?_
        rintro e w' ⟨rfl, rfl⟩
        go_wp2_with fail
        refine (equalT _ _ b _ X5.out (Hb.out.below L5.out) Hyb.out).mono ?_
        rintro e w' ⟨rfl, rfl⟩
        go_wp2_with fail
        refine (equalT _ _ key _ Y5.out (Hk.out.below L5.out) Hyk.out).mono ?_
        rintro e w' ⟨rfl, rfl⟩
        go_wp2_with fail
        refine (verifiedOf H nm cO.out cV.out x s2 y b key _ X5.out T5.out Y5.out (by omega) (by omega) hks (HKt.out.below L5.out HKt.out.lt)).mono ?_
        rintro e w6 ⟨rfl, b6⟩
        have L6 := Lib.hid (L5.out.trans (b6.mono L5.out.size))
        have X6 := Lib.hid (X5.out.below b6)
        clear b6 L5 X5 Y5 S5 T5
        go_wp2_with fail
        refine (equalT _ _ b _ X6.out (Hb.out.below L6.out) Hyb.out).mono ?_
        rintro e w' ⟨rfl, rfl⟩
        go_wp2_with fail
        refine (Hl.out _ L6.out).mono ?_
        rintro e w7 ⟨rfl, b7⟩
        have L7 := Lib.hid (L6.out.trans (b7.mono L6.out.size))
        clear b7
        go_wp2_with fail
        go_ret
        exact ⟨rfl, L7.out⟩
    · have hk2 : (2147483647 : Int) < key.length := by omega
      go_enter Try.func3, Try.ntmps3
      go_wp2_with fail
      go_ret
      exact ⟨rfl, Below.refl _ _⟩
  · have hb2 : (2147483647 : Int) < b.length := by omega
    go_enter Try.func3, Try.ntmps3
    go_wp2_with fail
    go_ret
    exact ⟨rfl, Below.refl _ _⟩
end Go.Proofs.Ytjaajcobgedmjaa
