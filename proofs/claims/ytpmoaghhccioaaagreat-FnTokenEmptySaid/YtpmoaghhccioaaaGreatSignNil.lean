/- The signer's Sign at an empty key: an error; impl.Signed and impl.Verified there. -/
import Derived.Test.YtpmoaghhccioaaaGreatVerified
namespace Go.Proofs.YtpmoaghhccioaaaGreat
open Go.RowKit
set_option linter.unusedVariables false

theorem errNew (s : ByteArray) (w : World) :
    Calls Tryz.prog 41 #[.string s] w fun e w' => e = .returned (.iface 120 (.pointer (some ⟨w.heap.size, 0, none⟩))) ∧ Below w.heap.size w w' := by
  go_enter Tryz.func41, Tryz.ntmps41
  go_wp2_with fail
  go_ret
  exact ⟨rfl, (Below.refl _ _).alloc (Nat.le_refl _) _⟩

set_option maxRecDepth 100000 in
set_option maxHeartbeats 2000000 in
/-- A signer refuses an empty key. -/
theorem signNil (cs : Array Value) (vp : Value) (kp : Option Addr) (kc : Nat) (w : World) :
    Calls Tryz.prog 75 #[.agg cs, vp, .iface 22 (.slice kp 0 kc)] w fun e w' => ∃ g, e = .returned (.tuple #[.slice none 0 0, .iface 120 (.pointer (some ⟨g, 0, none⟩))]) ∧ Below w.heap.size w w' := by
  have hta : ∀ wx, (Instr.typeAssert (.iface 22 (.slice kp 0 kc)) 20 22 true).run Tryz.prog wx = .ok (.tuple #[.slice kp 0 kc, .bool true]) wx := fun _ => by kernel_rfl
  have dn : ∀ (b : Bool) (wx : World), (Op.unary .not (.bool b)).run Tryz.prog wx = .ok (.bool (!b)) wx := fun _ _ => rfl
  go_enter Tryz.func75, Tryz.ntmps75
  go_wp2_with fail
  refine (errNew _ _).mono ?_
  rintro e w3 ⟨rfl, b3⟩
  go_wp2_with fail
  go_ret2
  exact ⟨_, rfl, ((Below.refl _ _).alloc (Nat.le_refl _) _).trans (b3.mono (by simp))⟩

set_option maxRecDepth 100000 in
set_option maxHeartbeats 4000000 in
theorem signedNil (fn : FuncId) (nm : ByteArray) (c1 : OfName nm) (c2 : MadeSigner fn nm) (vb : Value) (b : List Int) (w : World) (hb : Bs w vb b) (hbl : b.length ≤ 65536) :
    Calls Tryz.prog 6 #[.string nm, vb, .slice none 0 0] w fun e w' => e = .returned (.tuple #[.slice none 0 0, .bool false]) ∧ Below w.heap.size w w' := by
  have C1 := Lib.hid (c1 w)
  have C2 := Lib.hid c2
  have HBs := Lib.hid hb
  clear c1 c2 hb
  have hmf : ∀ (fn : Fn) (first cap : Array Value) (w : World), (Instr.makeFunc fn first cap).run Tryz.prog w = .ok (.func fn first cap) w := fun _ _ _ _ => rfl
  have dn : ∀ (b : Bool) (wx : World), (Op.unary .not (.bool b)).run Tryz.prog wx = .ok (.bool (!b)) wx := fun _ _ => rfl
  have hns := nil_sign
  have es := eSign
  go_enter Tryz.func6, Tryz.ntmps6
  go_wp2_with (go_at_call 10; refine C1.out.mono ?_; rintro e w1 ⟨rfl, b1⟩; have b1 := Lib.hid b1)
  obtain ⟨w2, hw2⟩ : ∃ w2 : World, w2 = w1.alloc (.cells #[.string nm, .bool false, .bool true] 33) := ⟨_, rfl⟩
  rw [← hw2]
  have X2 : Row w2 w1.heap.size 33 [.string nm, .bool false, .bool true] := by rw [hw2]; exact Row.new w1 _ _ _ rfl
  have I := Lib.hid (show Below w.heap.size w w2.drew by rw [hw2]; exact below_drewd (b1.out.trans (((Below.refl _ _).alloc (Nat.le_refl _) _).mono b1.out.size)))
  have hX : w1.heap.size < w2.heap.size := X2.lt
  have c0 : w2.cell? ⟨w1.heap.size, 0, none⟩ = some (.string nm) := by rw [X2.cell]; rfl
  have c1 : w2.cell? ⟨w1.heap.size, 1, none⟩ = some (.bool false) := by rw [X2.cell]; rfl
  have c2 : w2.cell? ⟨w1.heap.size, 2, none⟩ = some (.bool true) := by rw [X2.cell]; rfl
  have Hc := Lib.hid (show w2.drew.cell? ⟨w1.heap.size, 0, none⟩ = some (.string nm) ∧ w2.drew.cell? ⟨w1.heap.size, 1, none⟩ = some (.bool false) ∧ w2.drew.cell? ⟨w1.heap.size, 2, none⟩ = some (.bool true) ∧ w1.heap.size < w2.drew.heap.size from ⟨c0, c1, c2, hX⟩)
  clear hw2 X2 b1
  generalize w1.heap.size = X at *
  go_region_held3 (fun w' => w'.cell? ⟨X, 0, none⟩ = some (.string nm) ∧ w'.cell? ⟨X, 1, none⟩ = some (.bool false) ∧ w'.cell? ⟨X, 2, none⟩ = some (.bool true))
    (first | go_keep | exact ⟨Hc.out.1, Hc.out.2.1, Hc.out.2.2.1⟩)
    (first
      | (go_at_call 11; refine (C2.out _).mono ?_; rintro e wn ⟨g, rfl, ⟨⟨c, hr, hc, _⟩, _⟩, bn⟩; have HR := Lib.hid hr; have HC := Lib.hid hc; have hm := method_sign g _ _ HR.out rfl; have I := Lib.hid (I.out.trans (bn.mono I.out.size)); have Hc := Lib.hid (show _ ∧ _ ∧ _ ∧ _ from ⟨(bn.cell (p := ⟨X, 0, none⟩) Hc.out.2.2.2).trans Hc.out.1, (bn.cell (p := ⟨X, 1, none⟩) Hc.out.2.2.2).trans Hc.out.2.1, (bn.cell (p := ⟨X, 2, none⟩) Hc.out.2.2.2).trans Hc.out.2.2.1, Nat.lt_of_lt_of_le Hc.out.2.2.2 bn.size⟩); (try have P1 := Lib.hid (P1.out.below bn)); clear hr hc bn)
      | (go_at_call_of 7 vb; refine (clone vb b _ (HBs.out.below I.out) (by omega)).mono ?_; rintro e wn ⟨v1, rfl, own1, bn⟩; have P1 := Lib.hid (Bs.own own1); have I := Lib.hid (I.out.trans (bn.mono I.out.size)); have Hc := Lib.hid (show _ ∧ _ ∧ _ ∧ _ from ⟨(bn.cell (p := ⟨X, 0, none⟩) Hc.out.2.2.2).trans Hc.out.1, (bn.cell (p := ⟨X, 1, none⟩) Hc.out.2.2.2).trans Hc.out.2.1, (bn.cell (p := ⟨X, 2, none⟩) Hc.out.2.2.2).trans Hc.out.2.2.1, Nat.lt_of_lt_of_le Hc.out.2.2.2 bn.size⟩); (try (have HR := Lib.hid (HR.out.below bn HR.out.lt); have HC := Lib.hid (HC.out.below bn HC.out.lt); have hm := method_sign g _ _ HR.out rfl)); clear own1 bn)
      | (go_at_call_of 7 (Value.slice none 0 0); refine (clone (Value.slice none 0 0) [] _ (Bs.nil _) (by simp)).mono ?_; rintro e wn ⟨v2, rfl, own1, bn⟩; obtain ⟨kp, kc, rfl, _, _, _⟩ := Bs.own own1; have I := Lib.hid (I.out.trans (bn.mono I.out.size)); have Hc := Lib.hid (show _ ∧ _ ∧ _ ∧ _ from ⟨(bn.cell (p := ⟨X, 0, none⟩) Hc.out.2.2.2).trans Hc.out.1, (bn.cell (p := ⟨X, 1, none⟩) Hc.out.2.2.2).trans Hc.out.2.1, (bn.cell (p := ⟨X, 2, none⟩) Hc.out.2.2.2).trans Hc.out.2.2.1, Nat.lt_of_lt_of_le Hc.out.2.2.2 bn.size⟩); (try have P1 := Lib.hid (P1.out.below bn)); (try (have HR := Lib.hid (HR.out.below bn HR.out.lt); have HC := Lib.hid (HC.out.below bn HC.out.lt); have hm := method_sign g _ _ HR.out rfl)); clear own1 bn)
      | (go_at_call 75; refine (signNil _ v1 kp kc _).mono ?_; rintro e wn ⟨ge, rfl, bn⟩; have I := Lib.hid (I.out.trans (bn.mono I.out.size)); have Hc := Lib.hid (show _ ∧ _ ∧ _ ∧ _ from ⟨(bn.cell (p := ⟨X, 0, none⟩) Hc.out.2.2.2).trans Hc.out.1, (bn.cell (p := ⟨X, 1, none⟩) Hc.out.2.2.2).trans Hc.out.2.1, (bn.cell (p := ⟨X, 2, none⟩) Hc.out.2.2.2).trans Hc.out.2.2.1, Nat.lt_of_lt_of_le Hc.out.2.2.2 bn.size⟩); clear bn))
  all_goals (go_wp2_with fail; go_ret2; exact ⟨rfl, I.out⟩)
end Go.Proofs.YtpmoaghhccioaaaGreat
