/- impl.Verified at an empty key. -/
import Derived.Test.YtpmoaghhccioaaaGreatSignNil
namespace Go.Proofs.YtpmoaghhccioaaaGreat
open Go.RowKit
set_option linter.unusedVariables false

set_option maxRecDepth 100000 in
set_option maxHeartbeats 2000000 in
theorem verifyNil (f : FuncId) (nm : ByteArray) (base g : Nat) (vp vs : Value) (kp : Option Addr) (kc : Nat) (w : World) (hs : SignerAt f nm base g w) :
    Calls Tryz.prog 76 #[.agg #[.iface 56 (.pointer (some ⟨g, 0, none⟩))], vp, vs, .iface 22 (.slice kp 0 kc)] w fun e w' => ∃ h, e = .returned (.iface 120 (.pointer (some ⟨h, 0, none⟩))) ∧ Below w.heap.size w w' := by
  obtain ⟨⟨c, hr, hc, _⟩, _⟩ := hs
  have hb1 : ∀ o, Below w.heap.size w (w.alloc o) := fun o => (Below.refl _ _).alloc (Nat.le_refl _) o
  have hms := fun o => method_sign g #[.string nm, .bool false, .bool true, .func (.func 38) #[] #[.pointer (some ⟨c, 0, none⟩)]] (w.alloc o) (hr.allocd o) rfl
  have es := eSign
  have G : Hid (∀ o cs, Calls Tryz.prog 75 #[.agg cs, vp, .iface 22 (.slice kp 0 kc)] (w.alloc o) fun e w' => ∃ h, e = .returned (.tuple #[.slice none 0 0, .iface 120 (.pointer (some ⟨h, 0, none⟩))]) ∧ Hid (Below w.heap.size w w')) := by
    refine Lib.hid fun o cs => ?_
    refine (signNil cs vp kp kc (w.alloc o)).mono ?_
    intro e w' ⟨h, h1, h2⟩
    exact ⟨h, h1, Lib.hid ((hb1 o).trans (h2.mono (hb1 o).size))⟩
  clear hr hc hb1
  go_enter Tryz.func76, Tryz.ntmps76
  go_wp2_with (first | (go_at_call 75; refine (G.out _ _).mono ?_; rintro e w2 ⟨h, rfl, hb2⟩) | (go_at_call 41; refine (errNew _ _).mono ?_; rintro e w3 ⟨rfl, hb3⟩; have hb3 := Lib.hid hb3))
  go_ret
  exact ⟨_, rfl, hb2.out.trans (hb3.out.mono hb2.out.size)⟩

set_option maxRecDepth 100000 in
set_option maxHeartbeats 16000000 in
theorem verifiedNil (fn : FuncId) (nm : ByteArray) (c1 : OfName nm) (c2 : MadeVerifier fn nm) (vb vs : Value) (b sg0 : List Int) (w : World) (hb : Bs w vb b) (hs : Bs w vs sg0) (hbl : b.length ≤ 65536) (hml : sg0.length ≤ 65536) :
    Calls Tryz.prog 8 #[.string nm, vb, vs, .slice none 0 0] w fun e w' => e = .returned (.bool false) ∧ Below w.heap.size w w' := by
  have C1 := Lib.hid (c1 w)
  have C2 := Lib.hid c2
  have HBs := Lib.hid hb
  have HSs := Lib.hid hs
  clear c1 c2 hb hs
  have hmf : ∀ (fn : Fn) (first cap : Array Value) (w : World), (Instr.makeFunc fn first cap).run Tryz.prog w = .ok (.func fn first cap) w := fun _ _ _ _ => rfl
  have hns := nil_verify
  have es := eVerify
  go_enter Tryz.func8, Tryz.ntmps8
  go_wp2_with (go_at_call 10; refine C1.out.mono ?_; rintro e w1 ⟨rfl, b1⟩; have b1 := Lib.hid b1)
  obtain ⟨w2, hw2⟩ : ∃ w2 : World, w2 = w1.alloc (.cells #[.string nm, .bool false, .bool true] 33) := ⟨_, rfl⟩
  rw [← hw2]
  have X2 : Row w2 w1.heap.size 33 [.string nm, .bool false, .bool true] := by rw [hw2]; exact Row.new w1 _ _ _ rfl
  have I := Lib.hid (show Below w.heap.size w w2.drew by rw [hw2]; exact below_drewd (b1.out.trans (((Below.refl _ _).alloc (Nat.le_refl _) _).mono b1.out.size)))
  have hX : w1.heap.size < w2.heap.size := X2.lt
  have c0 : w2.cell? ⟨w1.heap.size, 0, none⟩ = some (.string nm) := by rw [X2.cell]; rfl
  have c1 : w2.cell? ⟨w1.heap.size, 1, none⟩ = some (.bool false) := by rw [X2.cell]; rfl
  have c2 : w2.cell? ⟨w1.heap.size, 2, none⟩ = some (.bool true) := by rw [X2.cell]; rfl
  have Hc := Lib.hid (show w2.drew.cell? ⟨w1.heap.size, 0, none⟩ = some (.string nm) ∧ w2.drew.cell? ⟨w1.heap.size, 1, none⟩ = some (.bool false) ∧ w2.drew.cell? ⟨w1.heap.size, 2, none⟩ = some (.bool true) ∧ w1.heap.size < w2.drew.heap.size from ⟨c0, c1, c2, hX⟩)
  clear hw2 X2 b1
  generalize w1.heap.size = X at *
  go_region_held3 (fun w' => w'.cell? ⟨X, 0, none⟩ = some (.string nm) ∧ w'.cell? ⟨X, 1, none⟩ = some (.bool false) ∧ w'.cell? ⟨X, 2, none⟩ = some (.bool true))
    (first | go_keep | exact ⟨Hc.out.1, Hc.out.2.1, Hc.out.2.2.1⟩)
    (first
      | (go_at_call 12; refine (C2.out _).mono ?_; rintro e wn ⟨g, h, rfl, hr, sg, bn⟩; have HV := Lib.hid hr; have SG := Lib.hid sg; have hm := method_verify h _ _ HV.out rfl; have I := Lib.hid (I.out.trans (bn.mono I.out.size)); have Hc := Lib.hid (show _ ∧ _ ∧ _ ∧ _ from ⟨(bn.cell (p := ⟨X, 0, none⟩) Hc.out.2.2.2).trans Hc.out.1, (bn.cell (p := ⟨X, 1, none⟩) Hc.out.2.2.2).trans Hc.out.2.1, (bn.cell (p := ⟨X, 2, none⟩) Hc.out.2.2.2).trans Hc.out.2.2.1, Nat.lt_of_lt_of_le Hc.out.2.2.2 bn.size⟩); (try have P1 := Lib.hid (P1.out.below bn)); (try have P2 := Lib.hid (P2.out.below bn)); clear hr sg bn)
      | (go_at_call_of 7 vb; refine (clone vb b _ (HBs.out.below I.out) (by omega)).mono ?_; rintro e wn ⟨v1, rfl, own1, bn⟩; have P1 := Lib.hid (Bs.own own1); have I := Lib.hid (I.out.trans (bn.mono I.out.size)); have Hc := Lib.hid (show _ ∧ _ ∧ _ ∧ _ from ⟨(bn.cell (p := ⟨X, 0, none⟩) Hc.out.2.2.2).trans Hc.out.1, (bn.cell (p := ⟨X, 1, none⟩) Hc.out.2.2.2).trans Hc.out.2.1, (bn.cell (p := ⟨X, 2, none⟩) Hc.out.2.2.2).trans Hc.out.2.2.1, Nat.lt_of_lt_of_le Hc.out.2.2.2 bn.size⟩); (try have P2 := Lib.hid (P2.out.below bn)); (try (have HV := Lib.hid (HV.out.below bn HV.out.lt); have SG := Lib.hid (SG.out.below bn); have hm := method_verify h _ _ HV.out rfl)); clear own1 bn)
      | (go_at_call_of 7 vs; refine (clone vs _ _ (HSs.out.below I.out) (by omega)).mono ?_; rintro e wn ⟨v2, rfl, own1, bn⟩; have P2 := Lib.hid (Bs.own own1); have I := Lib.hid (I.out.trans (bn.mono I.out.size)); have Hc := Lib.hid (show _ ∧ _ ∧ _ ∧ _ from ⟨(bn.cell (p := ⟨X, 0, none⟩) Hc.out.2.2.2).trans Hc.out.1, (bn.cell (p := ⟨X, 1, none⟩) Hc.out.2.2.2).trans Hc.out.2.1, (bn.cell (p := ⟨X, 2, none⟩) Hc.out.2.2.2).trans Hc.out.2.2.1, Nat.lt_of_lt_of_le Hc.out.2.2.2 bn.size⟩); (try have P1 := Lib.hid (P1.out.below bn)); (try (have HV := Lib.hid (HV.out.below bn HV.out.lt); have SG := Lib.hid (SG.out.below bn); have hm := method_verify h _ _ HV.out rfl)); clear own1 bn)
      | (go_at_call_of 7 (Value.slice none 0 0); refine (clone (Value.slice none 0 0) [] _ (Bs.nil _) (by simp)).mono ?_; rintro e wn ⟨v3, rfl, own1, bn⟩; obtain ⟨kp, kc, rfl, _, _, _⟩ := Bs.own own1; have I := Lib.hid (I.out.trans (bn.mono I.out.size)); have Hc := Lib.hid (show _ ∧ _ ∧ _ ∧ _ from ⟨(bn.cell (p := ⟨X, 0, none⟩) Hc.out.2.2.2).trans Hc.out.1, (bn.cell (p := ⟨X, 1, none⟩) Hc.out.2.2.2).trans Hc.out.2.1, (bn.cell (p := ⟨X, 2, none⟩) Hc.out.2.2.2).trans Hc.out.2.2.1, Nat.lt_of_lt_of_le Hc.out.2.2.2 bn.size⟩); (try have P1 := Lib.hid (P1.out.below bn)); (try have P2 := Lib.hid (P2.out.below bn)); (try (have HV := Lib.hid (HV.out.below bn HV.out.lt); have SG := Lib.hid (SG.out.below bn); have hm := method_verify h _ _ HV.out rfl)); clear own1 bn)
      | (go_at_call 76; refine (verifyNil _ nm _ g v1 v2 kp kc _ SG.out).mono ?_; rintro e wn ⟨ge, rfl, bn⟩; have I := Lib.hid (I.out.trans (bn.mono I.out.size)); have Hc := Lib.hid (show _ ∧ _ ∧ _ ∧ _ from ⟨(bn.cell (p := ⟨X, 0, none⟩) Hc.out.2.2.2).trans Hc.out.1, (bn.cell (p := ⟨X, 1, none⟩) Hc.out.2.2.2).trans Hc.out.2.1, (bn.cell (p := ⟨X, 2, none⟩) Hc.out.2.2.2).trans Hc.out.2.2.1, Nat.lt_of_lt_of_le Hc.out.2.2.2 bn.size⟩); clear bn))
  all_goals (go_wp2_with fail; go_ret; exact ⟨rfl, I.out⟩)
end Go.Proofs.YtpmoaghhccioaaaGreat
