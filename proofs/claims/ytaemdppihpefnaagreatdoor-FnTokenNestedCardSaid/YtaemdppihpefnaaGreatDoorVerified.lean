/- impl.Verified at the right signature, a key that is not empty. -/
import Derived.Test.YtaemdppihpefnaaGreatDoorSigned
namespace Go.Proofs.YtaemdppihpefnaaGreatDoor
open Go.RowKit
set_option linter.unusedVariables false

theorem eVerify : ∀ args w, (callFunc 249 args).run Tryz.prog w = .ok (.enter 249 args) w := fun args w => by
  have h1 : Tryz.f249.name ≠ "runtime.NumGoroutine" := by
    have : (Tryz.f249.name == "runtime.NumGoroutine") = false := by kernel_rfl
    simpa using this
  obtain ⟨c, hc⟩ : ∃ c, Tryz.f249.body = some c := ⟨_, rfl⟩
  simp [callFunc, Tryz.func249, h1, hc]

def MadeVerifier (f : FuncId) (nm : ByteArray) : Prop := ∀ w, Calls Tryz.prog 45 #[.agg #[.string nm, .bool false, .bool true]] w fun e w' => ∃ g h, e = .returned (.iface 159 (.pointer (some ⟨h, 0, none⟩))) ∧ Row w' h 161 [.iface 153 (.pointer (some ⟨g, 0, none⟩))] ∧ SignerAt f nm w.heap.size g w' ∧ Below w.heap.size w w'

set_option maxRecDepth 100000 in
set_option maxHeartbeats 16000000 in
theorem verifiedOf (H : HK) (nm : ByteArray) (c1 : OfName nm) (c2 : MadeVerifier H.fNew nm) (vb vs vk : Value) (b key : List Int) (w : World) (hb : Bs w vb b) (hs : Bs w vs (macOf H key b)) (hk : Bs w vk key) (hbl : b.length ≤ 65536) (hkl : key.length ≤ 65536) (hpos : 0 < key.length) (hkt : Row w H.kg H.kT H.kC) :
    Calls Tryz.prog 25 #[.string nm, vb, vs, vk] w fun e w' => e = .returned (.bool true) ∧ Below w.heap.size w w' := by
  have C1 := Lib.hid (c1 w)
  have C2 := Lib.hid c2
  have hml : (macOf H key b).length ≤ 64 := by rw [macOf_len]; exact H.size_le
  have HBs := Lib.hid hb
  have HSs := Lib.hid hs
  have HKs := Lib.hid hk
  have HKt := Lib.hid hkt
  clear c1 c2 hb hs hk hkt
  have hmf : ∀ (fn : Fn) (first cap : Array Value) (w : World), (Instr.makeFunc fn first cap).run Tryz.prog w = .ok (.func fn first cap) w := fun _ _ _ _ => rfl
  have hns := nil_verify
  have es := eVerify
  go_enter Tryz.func25, Tryz.ntmps25
  go_wp2_with (go_at_call 43; refine C1.out.mono ?_; rintro e w1 ⟨rfl, b1⟩; have b1 := Lib.hid b1)
  obtain ⟨w2, hw2⟩ : ∃ w2 : World, w2 = w1.alloc (.cells #[.string nm, .bool false, .bool true] 112) := ⟨_, rfl⟩
  rw [← hw2]
  have X2 : Row w2 w1.heap.size 112 [.string nm, .bool false, .bool true] := by rw [hw2]; exact Row.new w1 _ _ _ rfl
  have I := Lib.hid (show Below w.heap.size w w2.drew by rw [hw2]; exact below_drewd (b1.out.trans (((Below.refl _ _).alloc (Nat.le_refl _) _).mono b1.out.size)))
  have hX : w1.heap.size < w2.heap.size := X2.lt
  have c0 : w2.cell? ⟨w1.heap.size, 0, none⟩ = some (.string nm) := by rw [X2.cell]; rfl
  have c1 : w2.cell? ⟨w1.heap.size, 1, none⟩ = some (.bool false) := by rw [X2.cell]; rfl
  have c2 : w2.cell? ⟨w1.heap.size, 2, none⟩ = some (.bool true) := by rw [X2.cell]; rfl
  have Hc := Lib.hid (show w2.drew.cell? ⟨w1.heap.size, 0, none⟩ = some (.string nm) ∧ w2.drew.cell? ⟨w1.heap.size, 1, none⟩ = some (.bool false) ∧ w2.drew.cell? ⟨w1.heap.size, 2, none⟩ = some (.bool true) ∧ w1.heap.size < w2.drew.heap.size from ⟨c0, c1, c2, hX⟩)
  clear hw2 X2 b1
  generalize w1.heap.size = X at *
  go_region_held3 (fun w' => w'.cell? ⟨X, 0, none⟩ = some (.string nm) ∧ w'.cell? ⟨X, 1, none⟩ = some (.bool false) ∧ w'.cell? ⟨X, 2, none⟩ = some (.bool true))
    (first | go_keep | exact ⟨Hc.out.1, Hc.out.2.1, Hc.out.2.2.1⟩)
    (first
      | (go_at_call 45; refine (C2.out _).mono ?_; rintro e wn ⟨g, h, rfl, hr, sg, bn⟩; have HV := Lib.hid hr; have SG := Lib.hid sg; have hm := method_verify h _ _ HV.out rfl; have I := Lib.hid (I.out.trans (bn.mono I.out.size)); have Hc := Lib.hid (show _ ∧ _ ∧ _ ∧ _ from ⟨(bn.cell (p := ⟨X, 0, none⟩) Hc.out.2.2.2).trans Hc.out.1, (bn.cell (p := ⟨X, 1, none⟩) Hc.out.2.2.2).trans Hc.out.2.1, (bn.cell (p := ⟨X, 2, none⟩) Hc.out.2.2.2).trans Hc.out.2.2.1, Nat.lt_of_lt_of_le Hc.out.2.2.2 bn.size⟩); (try have P1 := Lib.hid (P1.out.below bn)); (try have P2 := Lib.hid (P2.out.below bn)); (try have P3 := Lib.hid (P3.out.below bn)); clear hr sg bn)
      | (go_at_call_of 7 vb; refine (clone vb b _ (HBs.out.below I.out) (by omega)).mono ?_; rintro e wn ⟨v1, rfl, own1, bn⟩; have P1 := Lib.hid (Bs.own own1); have I := Lib.hid (I.out.trans (bn.mono I.out.size)); have Hc := Lib.hid (show _ ∧ _ ∧ _ ∧ _ from ⟨(bn.cell (p := ⟨X, 0, none⟩) Hc.out.2.2.2).trans Hc.out.1, (bn.cell (p := ⟨X, 1, none⟩) Hc.out.2.2.2).trans Hc.out.2.1, (bn.cell (p := ⟨X, 2, none⟩) Hc.out.2.2.2).trans Hc.out.2.2.1, Nat.lt_of_lt_of_le Hc.out.2.2.2 bn.size⟩); (try have P2 := Lib.hid (P2.out.below bn)); (try have P3 := Lib.hid (P3.out.below bn)); (try (have HV := Lib.hid (HV.out.below bn HV.out.lt); have SG := Lib.hid (SG.out.below bn); have hm := method_verify h _ _ HV.out rfl)); clear own1 bn)
      | (go_at_call_of 7 vs; refine (clone vs _ _ (HSs.out.below I.out) (by omega)).mono ?_; rintro e wn ⟨v2, rfl, own1, bn⟩; have P2 := Lib.hid (Bs.own own1); have I := Lib.hid (I.out.trans (bn.mono I.out.size)); have Hc := Lib.hid (show _ ∧ _ ∧ _ ∧ _ from ⟨(bn.cell (p := ⟨X, 0, none⟩) Hc.out.2.2.2).trans Hc.out.1, (bn.cell (p := ⟨X, 1, none⟩) Hc.out.2.2.2).trans Hc.out.2.1, (bn.cell (p := ⟨X, 2, none⟩) Hc.out.2.2.2).trans Hc.out.2.2.1, Nat.lt_of_lt_of_le Hc.out.2.2.2 bn.size⟩); (try have P1 := Lib.hid (P1.out.below bn)); (try have P3 := Lib.hid (P3.out.below bn)); (try (have HV := Lib.hid (HV.out.below bn HV.out.lt); have SG := Lib.hid (SG.out.below bn); have hm := method_verify h _ _ HV.out rfl)); clear own1 bn)
      | (go_at_call_of 7 vk; refine (clone vk key _ (HKs.out.below I.out) (by omega)).mono ?_; rintro e wn ⟨v3, rfl, own1, bn⟩; have P3 := Lib.hid (Bs.own own1); have I := Lib.hid (I.out.trans (bn.mono I.out.size)); have Hc := Lib.hid (show _ ∧ _ ∧ _ ∧ _ from ⟨(bn.cell (p := ⟨X, 0, none⟩) Hc.out.2.2.2).trans Hc.out.1, (bn.cell (p := ⟨X, 1, none⟩) Hc.out.2.2.2).trans Hc.out.2.1, (bn.cell (p := ⟨X, 2, none⟩) Hc.out.2.2.2).trans Hc.out.2.2.1, Nat.lt_of_lt_of_le Hc.out.2.2.2 bn.size⟩); (try have P1 := Lib.hid (P1.out.below bn)); (try have P2 := Lib.hid (P2.out.below bn)); (try (have HV := Lib.hid (HV.out.below bn HV.out.lt); have SG := Lib.hid (SG.out.below bn); have hm := method_verify h _ _ HV.out rfl)); clear own1 bn)
      | (go_at_call 249; refine (verify H nm _ g v1 v2 v3 b key _ SG.out P1.out P2.out P3.out hbl hkl hpos (HKt.out.below I.out HKt.out.lt)).mono ?_; rintro e wn ⟨rfl, bn⟩; have I := Lib.hid (I.out.trans (bn.mono I.out.size)); have Hc := Lib.hid (show _ ∧ _ ∧ _ ∧ _ from ⟨(bn.cell (p := ⟨X, 0, none⟩) Hc.out.2.2.2).trans Hc.out.1, (bn.cell (p := ⟨X, 1, none⟩) Hc.out.2.2.2).trans Hc.out.2.1, (bn.cell (p := ⟨X, 2, none⟩) Hc.out.2.2.2).trans Hc.out.2.2.1, Nat.lt_of_lt_of_le Hc.out.2.2.2 bn.size⟩); clear bn))
  all_goals (go_wp2_with fail; go_ret; exact ⟨rfl, I.out⟩)
end Go.Proofs.YtaemdppihpefnaaGreatDoor
