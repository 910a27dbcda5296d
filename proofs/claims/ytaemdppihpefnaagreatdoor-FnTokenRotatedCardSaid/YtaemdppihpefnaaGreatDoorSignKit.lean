/- The signer's Sign and the verifier's Verify, by their methods; impl.Signed. -/
import Derived.Test.YtaemdppihpefnaaGreatDoorRegKit
import Derived.Test.YtaemdppihpefnaaGreatDoorHashKit
import Derived.Laws.Rows
namespace Go.Proofs.YtaemdppihpefnaaGreatDoor
open Go.RowKit
set_option linter.unusedVariables false

theorem wrapped {P : Program} (ts : Array TypeId) (t : TypeId) (a : Addr) (x y : String) (w : World) : (Builtin.ssaWrapNilChk_ ts t #[.pointer (some a), strVal x, strVal y]).run P w = .ok (.pointer (some a)) w := rfl
theorem run_method_val {P : Program} (fuel : Nat) (T elem : TypeId) (nm : String) (f : FuncId) (hT : P.underlying T = some (.pointer elem)) (hm : ((P.info? T).bind (fun i => i.methods.find? (·.name == nm))).map (fun m => (m.path, m.func)) = some (#[], some (f, false)))
    (d : TypeDesc) (hu : P.underlying elem = some d) (hd : (match d with | .struct _ | .array _ _ => true | _ => false) = true) (g : Nat) (cs : Array Value) (hs : (P.info? elem).map (·.size) = some cs.size) (w : World) (h : w.heap[g]? = some (.cells cs elem (0, 0))) :
    (method (fuel + 1) T (.pointer (some ⟨g, 0, none⟩)) nm).run P w = .ok (f, .agg cs) w := by
  obtain ⟨m, hm1, hm2⟩ := Option.map_eq_some_iff.1 hm
  obtain ⟨i, hi, hf⟩ := Option.bind_eq_some_iff.1 hm1
  simp only [Prod.mk.injEq] at hm2
  have hl := run_loadVar_row w g _ _ cs (0, 0) _ h hu hd hs
  simp [method, typeInfo, hi, hf, hm2.1, hm2.2, follow, receiverAt, run_underlying hT, Place.get, wrapped, asAddr, hl]
theorem method_sign (g : Nat) (cs : Array Value) (w : World) (h : w.heap[g]? = some (.cells cs 158 (0, 0))) (hl : cs.size = 4) :
    (method 508 153 (.pointer (some ⟨g, 0, none⟩)) "Sign").run Tryz.prog w = .ok (248, .agg cs) w := by
  rw [show (508 : Nat) = 507 + 1 from rfl]
  exact run_method_val (P := Tryz.prog) 507 153 158 "Sign" 248 Tryz.underlying153 (by kernel_rfl) _ Tryz.underlying158 rfl g cs (by rw [hl]; kernel_rfl) w h
theorem nil_sign (a : Addr) (w : World) : (nilAhead 508 153 (.pointer (some a)) "Sign").run Tryz.prog w = .ok (some false) w := by kernel_rfl
theorem method_verify (g : Nat) (cs : Array Value) (w : World) (h : w.heap[g]? = some (.cells cs 161 (0, 0))) (hl : cs.size = 1) :
    (method 508 159 (.pointer (some ⟨g, 0, none⟩)) "Verify").run Tryz.prog w = .ok (249, .agg cs) w := by
  rw [show (508 : Nat) = 507 + 1 from rfl]
  exact run_method_val (P := Tryz.prog) 507 159 161 "Verify" 249 Tryz.underlying159 (by kernel_rfl) _ Tryz.underlying161 rfl g cs (by rw [hl]; kernel_rfl) w h
theorem nil_verify (a : Addr) (w : World) : (nilAhead 508 159 (.pointer (some a)) "Verify").run Tryz.prog w = .ok (some false) w := by kernel_rfl

set_option maxRecDepth 100000 in
set_option maxHeartbeats 2000000 in
/-- A signer signs, a key that is not empty. -/
theorem sign (H : HK) (nm : ByteArray) (c : Nat) (vp vk : Value) (p key : List Int) (w : World) (hp : Bs w vp p) (hk : Bs w vk key) (hpb : p.length ≤ 65536) (hkb : key.length ≤ 65536) (hpos : 0 < key.length) (hkt : Row w H.kg H.kT H.kC)
    (hc : Row w c 210 [.func (.func H.fNew) #[] #[]]) (eS : ∀ args w, (callFunc 117 args).run Tryz.prog w = .ok (.enter 117 args) w) :
    Calls Tryz.prog 248 #[.agg #[.string nm, .bool false, .bool true, .func (.func 117) #[] #[.pointer (some ⟨c, 0, none⟩)]], vp, .iface 22 vk] w fun e w' => ∃ v', e = .returned (.tuple #[v', .nilIface]) ∧ w'.ownsRow w.heap.size 5 1 v' H.size (cs8 (macOf H key p)) ∧ Below w.heap.size w w' := by
  obtain ⟨kp, kc, rfl, _, _, _⟩ := id hk
  have hk0 : ((key.length : Int) == 0) = false := by rw [beq_eq_false_iff_ne]; omega
  have hta : ∀ wx, (Instr.typeAssert (.iface 22 (.slice kp key.length kc)) 20 22 true).run Tryz.prog wx = .ok (.tuple #[.slice kp key.length kc, .bool true]) wx := fun _ => by kernel_rfl
  have dn : ∀ (b : Bool) (wx : World), (Op.unary .not (.bool b)).run Tryz.prog wx = .ok (.bool (!b)) wx := fun _ _ => rfl
  have G : Hid (∀ wx, Below w.heap.size w wx → Calls Tryz.prog 117 #[vp, .slice kp key.length kc, .pointer (some ⟨c, 0, none⟩)] wx fun e w' => ∃ v', e = .returned (.tuple #[v', .nilIface]) ∧ Hid (w'.ownsRow w.heap.size 5 1 v' H.size (cs8 (macOf H key p))) ∧ Hid (Below w.heap.size w w')) := by
    refine Lib.hid fun wx hb => ?_
    refine (signF H c vp _ p key wx (hp.below hb) (hk.below hb) hpb hkb (hkt.below hb hkt.lt) (by rw [(hc.below hb hc.lt).cell]; rfl)).mono ?_
    intro e w' ⟨v', h1, h2, h3⟩
    exact ⟨v', h1, Lib.hid (own_base h2 hb.size), Lib.hid (hb.trans (h3.mono hb.size))⟩
  clear hp hk hkt hc
  go_enter Tryz.func248, Tryz.ntmps248
  go_wp2_with fail
  refine (G.out _ ((Below.refl _ _).alloc (Nat.le_refl _) _)).mono ?_
  rintro e w3 ⟨v', rfl, own3, b3⟩
  go_wp2_with fail
  go_ret2
  exact ⟨v', rfl, own3.out, b3.out⟩
end Go.Proofs.YtaemdppihpefnaaGreatDoor

/- The verifier's Verify at the right signature. -/
namespace Go.Proofs.YtaemdppihpefnaaGreatDoor
open Go.RowKit
set_option linter.unusedVariables false

theorem eSignF : ∀ args w, (callFunc 117 args).run Tryz.prog w = .ok (.enter 117 args) w := fun args w => by
  have h1 : Tryz.f117.name ≠ "runtime.NumGoroutine" := by
    have : (Tryz.f117.name == "runtime.NumGoroutine") = false := by kernel_rfl
    simpa using this
  obtain ⟨c, hc⟩ : ∃ c, Tryz.f117.body = some c := ⟨_, rfl⟩
  simp [callFunc, Tryz.func117, h1, hc]

set_option maxRecDepth 100000 in
set_option maxHeartbeats 2000000 in
theorem verify (H : HK) (nm : ByteArray) (base g : Nat) (vp vs vk : Value) (p key : List Int) (w : World) (hs : SignerAt H.fNew nm base g w) (hp : Bs w vp p) (hv : Bs w vs (macOf H key p)) (hk : Bs w vk key) (hpb : p.length ≤ 65536) (hkb : key.length ≤ 65536) (hpos : 0 < key.length) (hkt : Row w H.kg H.kT H.kC) :
    Calls Tryz.prog 249 #[.agg #[.iface 153 (.pointer (some ⟨g, 0, none⟩))], vp, vs, .iface 22 vk] w fun e w' => e = .returned .nilIface ∧ Below w.heap.size w w' := by
  obtain ⟨⟨c, hr, hc, _⟩, _⟩ := hs
  have hb1 : ∀ o, Below w.heap.size w (w.alloc o) := fun o => (Below.refl _ _).alloc (Nat.le_refl _) o
  have hms := fun o => method_sign g #[.string nm, .bool false, .bool true, .func (.func 117) #[] #[.pointer (some ⟨c, 0, none⟩)]] (w.alloc o) (hr.allocd o) rfl
  have es : ∀ args w, (callFunc 248 args).run Tryz.prog w = .ok (.enter 248 args) w := fun args w => by
    have h1 : Tryz.f248.name ≠ "runtime.NumGoroutine" := by
      have : (Tryz.f248.name == "runtime.NumGoroutine") = false := by kernel_rfl
      simpa using this
    obtain ⟨c, hc⟩ : ∃ c, Tryz.f248.body = some c := ⟨_, rfl⟩
    simp [callFunc, Tryz.func248, h1, hc]
  have G : Hid (∀ o, Calls Tryz.prog 248 #[.agg #[.string nm, .bool false, .bool true, .func (.func 117) #[] #[.pointer (some ⟨c, 0, none⟩)]], vp, .iface 22 vk] (w.alloc o) fun e w' => ∃ v', e = .returned (.tuple #[v', .nilIface]) ∧ Hid (Bs w' v' (macOf H key p)) ∧ Hid (Below w.heap.size w w')) := by
    refine Lib.hid fun o => ?_
    have hb := hb1 o
    refine (sign H nm c vp vk p key (w.alloc o) (hp.below hb) (hk.below hb) hpb hkb hpos (hkt.allocd o) (hc.allocd o) eSignF).mono ?_
    intro e w' ⟨v', h1, h2, h3⟩
    exact ⟨v', h1, Lib.hid (Bs.own h2), Lib.hid (hb.trans (h3.mono hb.size))⟩
  have G2 : Hid (∀ wx v', Bs wx v' (macOf H key p) → Below w.heap.size w wx → Calls Tryz.prog 250 #[vs, v'] wx fun e w' => e = .returned (.int .i64 1) ∧ Hid (Below w.heap.size w w')) := by
    refine Lib.hid fun wx v' hb hx => ?_
    refine (ctc vs v' (macOf H key p) wx (hv.below hx) hb (macOf_byt H key p) (by rw [macOf_len]; have := H.size_le; omega)).mono ?_
    rintro e w' ⟨h1, n, rfl⟩
    exact ⟨h1, Lib.hid (below_drewN hx n)⟩
  clear hr hc hp hk hv hkt hb1
  go_enter Tryz.func249, Tryz.ntmps249
  go_wp2_with (first | (go_at_call 248; refine (G.out _).mono ?_; rintro e w2 ⟨v', rfl, hb2, hbl2⟩) | (go_at_call 250; refine (G2.out _ _ hb2.out hbl2.out).mono ?_; rintro e w3 ⟨rfl, hbl3⟩))
  go_ret
  exact ⟨rfl, hbl3.out⟩
end Go.Proofs.YtaemdppihpefnaaGreatDoor

/- impl.Signed, a key that is not empty. -/
namespace Go.Proofs.YtaemdppihpefnaaGreatDoor
open Go.RowKit
set_option linter.unusedVariables false

theorem eSign : ∀ args w, (callFunc 248 args).run Tryz.prog w = .ok (.enter 248 args) w := fun args w => by
  have h1 : Tryz.f248.name ≠ "runtime.NumGoroutine" := by
    have : (Tryz.f248.name == "runtime.NumGoroutine") = false := by kernel_rfl
    simpa using this
  obtain ⟨c, hc⟩ : ∃ c, Tryz.f248.body = some c := ⟨_, rfl⟩
  simp [callFunc, Tryz.func248, h1, hc]

/-- The contract of hmacOf, of NewHMACSigner, at a name. -/
def OfName (nm : ByteArray) : Prop := ∀ w, Calls Tryz.prog 43 #[.string nm] w fun e w' => e = .returned (.tuple #[.agg #[.string nm, .bool false, .bool true], .bool true]) ∧ Below w.heap.size w w'
def MadeSigner (f : FuncId) (nm : ByteArray) : Prop := ∀ w, Calls Tryz.prog 44 #[.agg #[.string nm, .bool false, .bool true]] w fun e w' => ∃ g, e = .returned (.iface 153 (.pointer (some ⟨g, 0, none⟩))) ∧ SignerAt f nm w.heap.size g w' ∧ Below w.heap.size w w'

set_option maxRecDepth 100000 in
set_option maxHeartbeats 4000000 in
theorem signedOf (H : HK) (nm : ByteArray) (c1 : OfName nm) (c2 : MadeSigner H.fNew nm) (vb vk : Value) (b key : List Int) (w : World) (hb : Bs w vb b) (hk : Bs w vk key) (hbl : b.length ≤ 65536) (hkl : key.length ≤ 65536) (hpos : 0 < key.length) (hkt : Row w H.kg H.kT H.kC) :
    Calls Tryz.prog 24 #[.string nm, vb, vk] w fun e w' => ∃ v', e = .returned (.tuple #[v', .bool true]) ∧ w'.ownsRow w.heap.size 5 1 v' H.size (cs8 (macOf H key b)) ∧ Below w.heap.size w w' := by
  have C1 := Lib.hid (c1 w)
  have C2 := Lib.hid c2
  have HBs := Lib.hid hb
  have HKs := Lib.hid hk
  have HKt := Lib.hid hkt
  clear c1 c2 hb hk hkt
  have hmf : ∀ (fn : Fn) (first cap : Array Value) (w : World), (Instr.makeFunc fn first cap).run Tryz.prog w = .ok (.func fn first cap) w := fun _ _ _ _ => rfl
  have dn : ∀ (b : Bool) (wx : World), (Op.unary .not (.bool b)).run Tryz.prog wx = .ok (.bool (!b)) wx := fun _ _ => rfl
  have hns := nil_sign
  have es := eSign
  go_enter Tryz.func24, Tryz.ntmps24
  go_wp2_with (go_at_call 43; refine C1.out.mono ?_; rintro e w1 ⟨rfl, b1⟩; have b1 := Lib.hid b1)
  obtain ⟨w2, hw2⟩ : ∃ w2 : World, w2 = w1.alloc (.cells #[.string nm, .bool false, .bool true] 112) := ⟨_, rfl⟩
  rw [← hw2]
  have X2 : Row w2 w1.heap.size 112 [.string nm, .bool false, .bool true] := by rw [hw2]; exact Row.new w1 _ _ _ rfl
  have I := Lib.hid (show Below w.heap.size w w2.drew by rw [hw2]; exact below_drewd (b1.out.trans (((Below.refl _ _).alloc (Nat.le_refl _) _).mono b1.out.size)))
  have hX : w1.heap.size < w2.heap.size := X2.lt
  have c0 : w2.cell? ⟨w1.heap.size, 0, none⟩ = some (.string nm) := by rw [X2.cell]; rfl
  have c1 : w2.cell? ⟨w1.heap.size, 1, none⟩ = some (.bool false) := by rw [X2.cell]; rfl
  have c2 : w2.cell? ⟨w1.heap.size, 2, none⟩ = some (.bool true) := by rw [X2.cell]; rfl
  have Hc := Lib.hid (show w2.drew.cell? ⟨w1.heap.size, 0, none⟩ = some (.string nm) ∧ w2.drew.cell? ⟨w1.heap.size, 1, none⟩ = some (.bool false) ∧ w2.drew.cell? ⟨w1.heap.size, 2, none⟩ = some (.bool true) ∧ w1.heap.size < w2.drew.heap.size from ⟨c0, c1, c2, hX⟩)
  clear hw2 X2 b1
  generalize w1.heap.size = X at *
  go_region_held3 (fun w' => w'.cell? ⟨X, 0, none⟩ = some (.string nm) ∧ w'.cell? ⟨X, 1, none⟩ = some (.bool false) ∧ w'.cell? ⟨X, 2, none⟩ = some (.bool true))
    (first | go_keep | exact ⟨Hc.out.1, Hc.out.2.1, Hc.out.2.2.1⟩)
    (first
      | (go_at_call 44; refine (C2.out _).mono ?_; rintro e wn ⟨g, rfl, ⟨⟨c, hr, hc, _⟩, _⟩, bn⟩; have HR := Lib.hid hr; have HC := Lib.hid hc; have hm := method_sign g _ _ HR.out rfl; have I := Lib.hid (I.out.trans (bn.mono I.out.size)); have Hc := Lib.hid (show _ ∧ _ ∧ _ ∧ _ from ⟨(bn.cell (p := ⟨X, 0, none⟩) Hc.out.2.2.2).trans Hc.out.1, (bn.cell (p := ⟨X, 1, none⟩) Hc.out.2.2.2).trans Hc.out.2.1, (bn.cell (p := ⟨X, 2, none⟩) Hc.out.2.2.2).trans Hc.out.2.2.1, Nat.lt_of_lt_of_le Hc.out.2.2.2 bn.size⟩); (try have P1 := Lib.hid (P1.out.below bn)); (try have P2 := Lib.hid (P2.out.below bn)); clear hr hc bn)
      | (go_at_call_of 7 vb; refine (clone vb b _ (HBs.out.below I.out) (by omega)).mono ?_; rintro e wn ⟨v1, rfl, own1, bn⟩; have P1 := Lib.hid (Bs.own own1); have I := Lib.hid (I.out.trans (bn.mono I.out.size)); have Hc := Lib.hid (show _ ∧ _ ∧ _ ∧ _ from ⟨(bn.cell (p := ⟨X, 0, none⟩) Hc.out.2.2.2).trans Hc.out.1, (bn.cell (p := ⟨X, 1, none⟩) Hc.out.2.2.2).trans Hc.out.2.1, (bn.cell (p := ⟨X, 2, none⟩) Hc.out.2.2.2).trans Hc.out.2.2.1, Nat.lt_of_lt_of_le Hc.out.2.2.2 bn.size⟩); (try have P2 := Lib.hid (P2.out.below bn)); (try (have HR := Lib.hid (HR.out.below bn HR.out.lt); have HC := Lib.hid (HC.out.below bn HC.out.lt); have hm := method_sign g _ _ HR.out rfl)); clear own1 bn)
      | (go_at_call_of 7 vk; refine (clone vk key _ (HKs.out.below I.out) (by omega)).mono ?_; rintro e wn ⟨v2, rfl, own1, bn⟩; have P2 := Lib.hid (Bs.own own1); have I := Lib.hid (I.out.trans (bn.mono I.out.size)); have Hc := Lib.hid (show _ ∧ _ ∧ _ ∧ _ from ⟨(bn.cell (p := ⟨X, 0, none⟩) Hc.out.2.2.2).trans Hc.out.1, (bn.cell (p := ⟨X, 1, none⟩) Hc.out.2.2.2).trans Hc.out.2.1, (bn.cell (p := ⟨X, 2, none⟩) Hc.out.2.2.2).trans Hc.out.2.2.1, Nat.lt_of_lt_of_le Hc.out.2.2.2 bn.size⟩); (try have P1 := Lib.hid (P1.out.below bn)); (try (have HR := Lib.hid (HR.out.below bn HR.out.lt); have HC := Lib.hid (HC.out.below bn HC.out.lt); have hm := method_sign g _ _ HR.out rfl)); clear own1 bn)
      | (go_at_call 248; refine (sign H nm c v1 v2 b key _ P1.out P2.out hbl hkl hpos (HKt.out.below I.out HKt.out.lt) HC.out eSignF).mono ?_; rintro e wn ⟨v', rfl, own1, bn⟩; have OW := Lib.hid (own_base own1 I.out.size); have I := Lib.hid (I.out.trans (bn.mono I.out.size)); have Hc := Lib.hid (show _ ∧ _ ∧ _ ∧ _ from ⟨(bn.cell (p := ⟨X, 0, none⟩) Hc.out.2.2.2).trans Hc.out.1, (bn.cell (p := ⟨X, 1, none⟩) Hc.out.2.2.2).trans Hc.out.2.1, (bn.cell (p := ⟨X, 2, none⟩) Hc.out.2.2.2).trans Hc.out.2.2.1, Nat.lt_of_lt_of_le Hc.out.2.2.2 bn.size⟩); clear own1 bn))
  all_goals (go_wp2_with fail; go_ret2; exact ⟨v', rfl, OW.out, I.out⟩)
end Go.Proofs.YtaemdppihpefnaaGreatDoor
