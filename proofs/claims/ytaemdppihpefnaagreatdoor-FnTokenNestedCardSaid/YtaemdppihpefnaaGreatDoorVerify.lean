/- The verifier's Verify at the right signature. -/
import Derived.Test.YtaemdppihpefnaaGreatDoorSign
namespace Go.Proofs.YtaemdppihpefnaaGreatDoor
open Go.RowKit
set_option linter.unusedVariables false

theorem eSignF : ∀ args w, (callFunc 117 args).run Tryz.prog w = .ok (.enter 117 args) w := fun args w => by
  have h1 : Tryz.f117.name ≠ "runtime.NumGoroutine" := by
    have : (Tryz.f117.name == "runtime.NumGoroutine") = false := by kernel_rfl
    simpa using this
  obtain ⟨c, hc⟩ : ∃ c, Tryz.f117.body = some c := ⟨_, rfl⟩
  simp [callFunc, Tryz.func117, h1, hc]

set_option maxRecDepth 100000 in
set_option maxHeartbeats 2000000 in
theorem verify (H : HK) (nm : ByteArray) (base g : Nat) (vp vs vk : Value) (p key : List Int) (w : World) (hs : SignerAt H.fNew nm base g w) (hp : Bs w vp p) (hv : Bs w vs (macOf H key p)) (hk : Bs w vk key) (hpb : p.length ≤ 65536) (hkb : key.length ≤ 65536) (hpos : 0 < key.length) (hkt : Row w H.kg H.kT H.kC) :
    Calls Tryz.prog 249 #[.agg #[.iface 153 (.pointer (some ⟨g, 0, none⟩))], vp, vs, .iface 22 vk] w fun e w' => e = .returned .nilIface ∧ Below w.heap.size w w' := by
  obtain ⟨⟨c, hr, hc, _⟩, _⟩ := hs
  have hb1 : ∀ o, Below w.heap.size w (w.alloc o) := fun o => (Below.refl _ _).alloc (Nat.le_refl _) o
  have hms := fun o => method_sign g #[.string nm, .bool false, .bool true, .func (.func 117) #[] #[.pointer (some ⟨c, 0, none⟩)]] (w.alloc o) (hr.allocd o) rfl
  have es : ∀ args w, (callFunc 248 args).run Tryz.prog w = .ok (.enter 248 args) w := fun args w => by
    have h1 : Tryz.f248.name ≠ "runtime.NumGoroutine" := by
      have : (Tryz.f248.name == "runtime.NumGoroutine") = false := by kernel_rfl
      simpa using this
    obtain ⟨c, hc⟩ : ∃ c, Tryz.f248.body = some c := ⟨_, rfl⟩
    simp [callFunc, Tryz.func248, h1, hc]
  have G : Hid (∀ o, Calls Tryz.prog 248 #[.agg #[.string nm, .bool false, .bool true, .func (.func 117) #[] #[.pointer (some ⟨c, 0, none⟩)]], vp, .iface 22 vk] (w.alloc o) fun e w' => ∃ v', e = .returned (.tuple #[v', .nilIface]) ∧ Hid (Bs w' v' (macOf H key p)) ∧ Hid (Below w.heap.size w w')) := by
    refine Lib.hid fun o => ?_
    have hb := hb1 o
    refine (sign H nm c vp vk p key (w.alloc o) (hp.below hb) (hk.below hb) hpb hkb hpos (hkt.allocd o) (hc.allocd o) eSignF).mono ?_
    intro e w' ⟨v', h1, h2, h3⟩
    exact ⟨v', h1, Lib.hid (Bs.own h2), Lib.hid (hb.trans (h3.mono hb.size))⟩
  have G2 : Hid (∀ wx v', Bs wx v' (macOf H key p) → Below w.heap.size w wx → Calls Tryz.prog 250 #[vs, v'] wx fun e w' => e = .returned (.int .i64 1) ∧ Hid (Below w.heap.size w w')) := by
    refine Lib.hid fun wx v' hb hx => ?_
    refine (ctc vs v' (macOf H key p) wx (hv.below hx) hb (macOf_byt H key p) (by rw [macOf_len]; have := H.size_le; omega)).mono ?_
    rintro e w' ⟨h1, n, rfl⟩
    exact ⟨h1, Lib.hid (below_drewN hx n)⟩
  clear hr hc hp hk hv hkt hb1
  go_enter Tryz.func249, Tryz.ntmps249
  go_wp2_with (first | (go_at_call 248; refine (G.out _).mono ?_; rintro e w2 ⟨v', rfl, hb2, hbl2⟩) | (go_at_call 250; refine (G2.out _ _ hb2.out hbl2.out).mono ?_; rintro e w3 ⟨rfl, hbl3⟩))
  go_ret
  exact ⟨rfl, hbl3.out⟩
end Go.Proofs.YtaemdppihpefnaaGreatDoor
