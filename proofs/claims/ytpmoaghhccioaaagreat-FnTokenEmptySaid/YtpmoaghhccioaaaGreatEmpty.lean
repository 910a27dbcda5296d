/- laws.FnTokenEmpty returns true, whatever the tables hold. -/
import Derived.Test.YtpmoaghhccioaaaGreatVerifyNil
import Derived.Test.YtpmoaghhccioaaaGreatTokMac
import Derived.Test.YtpmoaghhccioaaaGreatLive
import Derived.Test.YtpmoaghhccioaaaGreatSigner
import Derived.Test.YtpmoaghhccioaaaGreatLook2
import Derived.Test.YtpmoaghhccioaaaGreatGlobal
import Derived.Test.YtpmoaghhccioaaaGreatOpened
namespace Go.Proofs.YtpmoaghhccioaaaGreat
open Go.RowKit
set_option linter.unusedVariables false

/-- The name of an algorithm by a small number. -/
theorem tokenAlg (a : Int) (w : World) (h0 : 0 ≤ a) (h1 : a < 256) :
    Calls Tryz.prog 5 #[.int .u8 a] w fun e w' => e = .returned (.string (hsName (a % 3).toNat)) ∧ Below w.heap.size w w' := by
  have hr : a % 3 = 0 ∨ a % 3 = 1 ∨ a % 3 = 2 := by omega
  rcases hr with hr | hr | hr
  all_goals
    (have hm : a.tmod 3 = a % 3 := Int.tmod_eq_emod_of_nonneg h0
     have Hr := Lib.hid hr
     rw [hr] at hm
     go_enter Tryz.func5, Tryz.ntmps5
     go_wp2
     go_ret
     rw [Hr.out]
     exact ⟨rfl, (Below.refl _ _).alloc (Nat.le_refl _) _⟩)

/-- An algorithm's name, the maker of its hash, and that the reference's code of it comes. -/
structure EmptyOk (n : Nat) (fn : FuncId) : Prop where
  of : OfName (hsName n)
  sg : MadeSigner fn (hsName n)
  mv : MadeVerifier fn (hsName n)
  mac : ∀ (vb : Value) (xs : List Int) (w : World), Bs w vb xs → xs.length ≤ 1000 →
    Calls Tryz.prog 9 #[.string (hsName n), .slice none 0 0, vb] w fun e w' => (∃ v zs, e = .returned v ∧ Bs w' v zs ∧ zs.length ≤ 65536) ∧ Below w.heap.size w w'

theorem mac_ok {w w' : World} {sz : Nat} {e : Ending} (hs : sz ≤ 64) (h : (∃ v zs, e = .returned v ∧ w'.ownsRow w.heap.size 5 1 v sz (cs8 zs)) ∧ Below w.heap.size w w') :
    (∃ v zs, e = .returned v ∧ Bs w' v zs ∧ zs.length ≤ 65536) ∧ Below w.heap.size w w' := by
  obtain ⟨⟨v, zs, rfl, o⟩, b⟩ := h
  refine ⟨⟨v, zs, rfl, Bs.own o, ?_⟩, b⟩
  have := o.1
  simp [cs8] at this
  omega
theorem emptyOk0 : EmptyOk 0 25 := ⟨hmacOf0, newSigner0, newVerifier0, fun vb xs w hb hn => (tokenMac0 vb xs w hb hn).mono fun _ _ h => mac_ok (by decide) h⟩
theorem emptyOk1 : EmptyOk 1 28 := ⟨hmacOf1, newSigner1, newVerifier1, fun vb xs w hb hn => (tokenMac1 vb xs w hb hn).mono fun _ _ h => mac_ok (by decide) h⟩
theorem emptyOk2 : EmptyOk 2 31 := ⟨hmacOf2, newSigner2, newVerifier2, fun vb xs w hb hn => (tokenMac2 vb xs w hb hn).mono fun _ _ h => mac_ok (by decide) h⟩

/-- tokenLive returns true, from w on. -/
def Live (w : World) : Prop := ∀ w', Below w.heap.size w w' → Calls Tryz.prog 4 #[] w' fun e w'' => e = .returned (.bool true) ∧ Below w'.heap.size w' w''
theorem live_of (w : World) (h : w.ShapedOpen Tryz.prog) : Live w := by
  obtain ⟨K, hK, r⟩ := table256 w h
  exact fun w' b => tokenLive K hK w' (r.below b r.lt)

set_option maxRecDepth 100000 in
set_option maxHeartbeats 4000000 in
theorem lawEmpty (fn : FuncId) (a : Int) (vb : Value) (b : List Int) (w : World) (h0 : 0 ≤ a) (h1 : a < 256) (hA : EmptyOk (a % 3).toNat fn) (hl : Live w) (hb : Bs w vb b) :
    Calls Tryz.prog 3 #[.int .u8 a, vb] w fun e w' => e = .returned (.bool true) ∧ Below w.heap.size w w' := by
  obtain ⟨pb, cb, rfl, _, _, _⟩ := id hb
  have Hb := Lib.hid hb
  have Hl := Lib.hid hl
  have HA := Lib.hid hA
  clear hb hl hA
  have dn : ∀ (b : Bool) (wx : World), (Op.unary .not (.bool b)).run Tryz.prog wx = .ok (.bool (!b)) wx := fun _ _ => rfl
  by_cases hb1 : b.length ≤ 2147483647
  · have hb2 : ¬ (2147483647 : Int) < b.length := by omega
    by_cases hb3 : b.length ≤ 1000
    · have hb4 : ¬ (1000 : Int) < b.length := by omega
      go_enter Tryz.func3, Tryz.ntmps3
      go_wp2_with fail
      go_at_call 5
      refine (tokenAlg a _ h0 h1).mono ?_
      rintro e w1 ⟨rfl, b1⟩
      have L1 := Lib.hid b1
      clear b1
      generalize hnm : hsName (a % 3).toNat = nm at *
      have Hnm := Lib.hid hnm
      clear hnm
      have cO : Hid (OfName nm) := Lib.hid (by rw [← Hnm.out]; exact HA.out.of)
      have cM : Hid (MadeSigner fn nm) := Lib.hid (by rw [← Hnm.out]; exact HA.out.sg)
      have cV : Hid (MadeVerifier fn nm) := Lib.hid (by rw [← Hnm.out]; exact HA.out.mv)
      have cK : Hid (∀ (vb : Value) (xs : List Int) (w : World), Bs w vb xs → xs.length ≤ 1000 →
          Calls Tryz.prog 9 #[.string nm, .slice none 0 0, vb] w fun e w' => (∃ v zs, e = .returned v ∧ Bs w' v zs ∧ zs.length ≤ 65536) ∧ Below w.heap.size w w') := Lib.hid (by rw [← Hnm.out]; exact HA.out.mac)
      go_wp2_with fail
      go_at_call 7
      refine (clone _ b _ (Hb.out.below L1.out) (by omega)).mono ?_
      rintro e w2 ⟨x, rfl, o2, b2⟩
      have L2 := Lib.hid (L1.out.trans (b2.mono L1.out.size))
      have X2 := Lib.hid (Bs.own o2)
      clear o2 b2 L1
      go_wp2_with fail
      go_at_call 6
      refine (signedNil fn nm cO.out cM.out x b _ X2.out (by omega)).mono ?_
      rintro e w3 ⟨rfl, b3⟩
      have L3 := Lib.hid (L2.out.trans (b3.mono L2.out.size))
      clear b3 L2 X2
      go_wp2_with fail
      go_at_call 7
      refine (clone _ b _ (Hb.out.below L3.out) (by omega)).mono ?_
      rintro e w4 ⟨y, rfl, o4, b4⟩
      have L4 := Lib.hid (L3.out.trans (b4.mono L3.out.size))
      have Y4 := Lib.hid (Bs.own o4)
      clear o4 b4 L3
      go_wp2_with fail
      go_at_call 9
      refine (cK.out _ b _ (Hb.out.below L4.out) hb3).mono ?_
      rintro e w5 ⟨⟨m, zs, rfl, hm, hz⟩, b5⟩
      have L5 := Lib.hid (L4.out.trans (b5.mono L4.out.size))
      have Y5 := Lib.hid (Y4.out.below b5)
      have M5 := Lib.hid hm
      clear hm b5 L4 Y4
      go_wp2_with fail
      go_at_call 8
      refine (verifiedNil fn nm cO.out cV.out y m b zs _ Y5.out M5.out (by omega) hz).mono ?_
      rintro e w6 ⟨rfl, b6⟩
      have L6 := Lib.hid (L5.out.trans (b6.mono L5.out.size))
      clear b6 L5 Y5 M5
      go_wp2_with fail
      go_at_call 4
      refine (Hl.out _ L6.out).mono ?_
      rintro e w7 ⟨rfl, b7⟩
      have L7 := Lib.hid (L6.out.trans (b7.mono L6.out.size))
      clear b7
      go_wp2_with fail
      go_ret
      exact ⟨rfl, L7.out⟩
    · have hb4 : (1000 : Int) < b.length := by omega
      go_enter Tryz.func3, Tryz.ntmps3
      go_wp2_with fail
      go_at_call 4
      refine (Hl.out _ (Below.refl _ _)).mono ?_
      rintro e w2 ⟨rfl, b2⟩
      have L2 := Lib.hid b2
      clear b2
      go_wp2_with fail
      go_ret
      exact ⟨rfl, L2.out⟩
  · have hb2 : (2147483647 : Int) < b.length := by omega
    go_enter Tryz.func3, Tryz.ntmps3
    go_wp2_with fail
    go_ret
    exact ⟨rfl, Below.refl _ _⟩

theorem tokEmpty (a : Int) (vb : Value) (b : List Int) (w : World) (h : w.ShapedOpen Tryz.prog) (h0 : (Lit.int .u8 a).wf = true) (hb : Bs w vb b) :
    Calls Tryz.prog 3 #[.int .u8 a, vb] w fun e w' => e = .returned (.bool true) ∧ Below w.heap.size w w' := by
  have ha : 0 ≤ a ∧ a < 256 := by
    simp [Lit.wf, IntKind.min, IntKind.max, IntKind.bits, IntKind.signed] at h0
    omega
  have hl := live_of w h
  have h3 : (a % 3).toNat = 0 ∨ (a % 3).toNat = 1 ∨ (a % 3).toNat = 2 := by omega
  rcases h3 with h3 | h3 | h3
  · exact lawEmpty _ a vb b w ha.1 ha.2 (by rw [h3]; exact emptyOk0) hl hb
  · exact lawEmpty _ a vb b w ha.1 ha.2 (by rw [h3]; exact emptyOk1) hl hb
  · exact lawEmpty _ a vb b w ha.1 ha.2 (by rw [h3]; exact emptyOk2) hl hb
end Go.Proofs.YtpmoaghhccioaaaGreat
