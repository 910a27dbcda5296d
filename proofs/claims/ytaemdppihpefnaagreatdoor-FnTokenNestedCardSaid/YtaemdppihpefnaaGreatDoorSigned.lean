/- impl.Signed, a key that is not empty. -/
import Derived.Test.YtaemdppihpefnaaGreatDoorVerify
namespace Go.Proofs.YtaemdppihpefnaaGreatDoor
open Go.RowKit
set_option linter.unusedVariables false

theorem eSign : ∀ args w, (callFunc 248 args).run Tryz.prog w = .ok (.enter 248 args) w := fun args w => by
  have h1 : Tryz.f248.name ≠ "runtime.NumGoroutine" := by
    have : (Tryz.f248.name == "runtime.NumGoroutine") = false := by kernel_rfl
    simpa using this
  obtain ⟨c, hc⟩ : ∃ c, Tryz.f248.body = some c := ⟨_, rfl⟩
  simp [callFunc, Tryz.func248, h1, hc]

/-- The contract of hmacOf, of NewHMACSigner, at a name. -/
def OfName (nm : ByteArray) : Prop := ∀ w, Calls Tryz.prog 43 #[.string nm] w fun e w' => e = .returned (.tuple #[.agg #[.string nm, .bool false, .bool true], .bool true]) ∧ Below w.heap.size w w'
def MadeSigner (f : FuncId) (nm : ByteArray) : Prop := ∀ w, Calls Tryz.prog 44 #[.agg #[.string nm, .bool false, .bool true]] w fun e w' => ∃ g, e = .returned (.iface 153 (.pointer (some ⟨g, 0, none⟩))) ∧ SignerAt f nm w.heap.size g w' ∧ Below w.heap.size w w'

set_option maxRecDepth 100000 in
set_option maxHeartbeats 4000000 in
theorem signedOf (H : HK) (nm : ByteArray) (c1 : OfName nm) (c2 : MadeSigner H.fNew nm) (vb vk : Value) (b key : List Int) (w : World) (hb : Bs w vb b) (hk : Bs w vk key) (hbl : b.length ≤ 65536) (hkl : key.length ≤ 65536) (hpos : 0 < key.length) (hkt : Row w H.kg H.kT H.kC) :
    Calls Tryz.prog 24 #[.string nm, vb, vk] w fun e w' => ∃ v', e = .returned (.tuple #[v', .bool true]) ∧ w'.ownsRow w.heap.size 5 1 v' H.size (cs8 (macOf H key b)) ∧ Below w.heap.size w w' := by
  have C1 := Lib.hid (c1 w)
  have C2 := Lib.hid c2
  have HBs := Lib.hid hb
  have HKs := Lib.hid hk
  have HKt := Lib.hid hkt
  clear c1 c2 hb hk hkt
  have hmf : ∀ (fn : Fn) (first cap : Array Value) (w : World), (Instr.makeFunc fn first cap).run Tryz.prog w = .ok (.func fn first cap) w := fun _ _ _ _ => rfl
  have dn : ∀ (b : Bool) (wx : World), (Op.unary .not (.bool b)).run Tryz.prog wx = .ok (.bool (!b)) wx := fun _ _ => rfl
  have hns := nil_sign
  have es := eSign
  go_enter Tryz.func24, Tryz.ntmps24
  go_wp2_with (go_at_call 43; refine C1.out.mono ?_; rintro e w1 ⟨rfl, b1⟩; have b1 := Lib.hid b1)
  obtain ⟨w2, hw2⟩ : ∃ w2 : World, w2 = w1.alloc (.cells #[.string nm, .bool false, .bool true] 112) := ⟨_, rfl⟩
  rw [← hw2]
  have X2 : Row w2 w1.heap.size 112 [.string nm, .bool false, .bool true] := by rw [hw2]; exact Row.new w1 _ _ _ rfl
  have I := Lib.hid (show Below w.heap.size w w2.drew by rw [hw2]; exact below_drewd (b1.out.trans (((Below.refl _ _).alloc (Nat.le_refl _) _).mono b1.out.size)))
  have hX : w1.heap.size < w2.heap.size := X2.lt
  have c0 : w2.cell? ⟨w1.heap.size, 0, none⟩ = some (.string nm) := by rw [X2.cell]; rfl
  have c1 : w2.cell? ⟨w1.heap.size, 1, none⟩ = some (.bool false) := by rw [X2.cell]; rfl
  have c2 : w2.cell? ⟨w1.heap.size, 2, none⟩ = some (.bool true) := by rw [X2.cell]; rfl
  have Hc := Lib.hid (show w2.drew.cell? ⟨w1.heap.size, 0, none⟩ = some (.string nm) ∧ w2.drew.cell? ⟨w1.heap.size, 1, none⟩ = some (.bool false) ∧ w2.drew.cell? ⟨w1.heap.size, 2, none⟩ = some (.bool true) ∧ w1.heap.size < w2.drew.heap.size from ⟨c0, c1, c2, hX⟩)
  clear hw2 X2 b1
  generalize w1.heap.size = X at *
  go_region_held3 (fun w' => w'.cell? ⟨X, 0, none⟩ = some (.string nm) ∧ w'.cell? ⟨X, 1, none⟩ = some (.bool false) ∧ w'.cell? ⟨X, 2, none⟩ = some (.bool true))
    (first | go_keep | exact ⟨Hc.out.1, Hc.out.2.1, Hc.out.2.2.1⟩)
    (first
      | (go_at_call 44; refine (C2.out _).mono ?_; rintro e wn ⟨g, rfl, ⟨⟨c, hr, hc, _⟩, _⟩, bn⟩; have HR := Lib.hid hr; have HC := Lib.hid hc; have hm := method_sign g _ _ HR.out rfl; have I := Lib.hid (I.out.trans (bn.mono I.out.size)); have Hc := Lib.hid (show _ ∧ _ ∧ _ ∧ _ from ⟨(bn.cell (p := ⟨X, 0, none⟩) Hc.out.2.2.2).trans Hc.out.1, (bn.cell (p := ⟨X, 1, none⟩) Hc.out.2.2.2).trans Hc.out.2.1, (bn.cell (p := ⟨X, 2, none⟩) Hc.out.2.2.2).trans Hc.out.2.2.1, Nat.lt_of_lt_of_le Hc.out.2.2.2 bn.size⟩); (try have P1 := Lib.hid (P1.out.below bn)); (try have P2 := Lib.hid (P2.out.below bn)); clear hr hc bn)
      | (go_at_call_of 7 vb; refine (clone vb b _ (HBs.out.below I.out) (by omega)).mono ?_; rintro e wn ⟨v1, rfl, own1, bn⟩; have P1 := Lib.hid (Bs.own own1); have I := Lib.hid (I.out.trans (bn.mono I.out.size)); have Hc := Lib.hid (show _ ∧ _ ∧ _ ∧ _ from ⟨(bn.cell (p := ⟨X, 0, none⟩) Hc.out.2.2.2).trans Hc.out.1, (bn.cell (p := ⟨X, 1, none⟩) Hc.out.2.2.2).trans Hc.out.2.1, (bn.cell (p := ⟨X, 2, none⟩) Hc.out.2.2.2).trans Hc.out.2.2.1, Nat.lt_of_lt_of_le Hc.out.2.2.2 bn.size⟩); (try have P2 := Lib.hid (P2.out.below bn)); (try (have HR := Lib.hid (HR.out.below bn HR.out.lt); have HC := Lib.hid (HC.out.below bn HC.out.lt); have hm := method_sign g _ _ HR.out rfl)); clear own1 bn)
      | (go_at_call_of 7 vk; refine (clone vk key _ (HKs.out.below I.out) (by omega)).mono ?_; rintro e wn ⟨v2, rfl, own1, bn⟩; have P2 := Lib.hid (Bs.own own1); have I := Lib.hid (I.out.trans (bn.mono I.out.size)); have Hc := Lib.hid (show _ ∧ _ ∧ _ ∧ _ from ⟨(bn.cell (p := ⟨X, 0, none⟩) Hc.out.2.2.2).trans Hc.out.1, (bn.cell (p := ⟨X, 1, none⟩) Hc.out.2.2.2).trans Hc.out.2.1, (bn.cell (p := ⟨X, 2, none⟩) Hc.out.2.2.2).trans Hc.out.2.2.1, Nat.lt_of_lt_of_le Hc.out.2.2.2 bn.size⟩); (try have P1 := Lib.hid (P1.out.below bn)); (try (have HR := Lib.hid (HR.out.below bn HR.out.lt); have HC := Lib.hid (HC.out.below bn HC.out.lt); have hm := method_sign g _ _ HR.out rfl)); clear own1 bn)
      | (go_at_call 248; refine (sign H nm c v1 v2 b key _ P1.out P2.out hbl hkl hpos (HKt.out.below I.out HKt.out.lt) HC.out eSignF).mono ?_; rintro e wn ⟨v', rfl, own1, bn⟩; have OW := Lib.hid (own_base own1 I.out.size); have I := Lib.hid (I.out.trans (bn.mono I.out.size)); have Hc := Lib.hid (show _ ∧ _ ∧ _ ∧ _ from ⟨(bn.cell (p := ⟨X, 0, none⟩) Hc.out.2.2.2).trans Hc.out.1, (bn.cell (p := ⟨X, 1, none⟩) Hc.out.2.2.2).trans Hc.out.2.1, (bn.cell (p := ⟨X, 2, none⟩) Hc.out.2.2.2).trans Hc.out.2.2.1, Nat.lt_of_lt_of_le Hc.out.2.2.2 bn.size⟩); clear own1 bn))
  all_goals (go_wp2_with fail; go_ret2; exact ⟨v', rfl, OW.out, I.out⟩)
end Go.Proofs.YtaemdppihpefnaaGreatDoor
