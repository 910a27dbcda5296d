/- The signer's Sign and the verifier's Verify, by their methods; impl.Signed. -/
import Derived.Test.YtaemdppihpefnaaGreatDoorSigner
import Derived.Test.YtaemdppihpefnaaGreatDoorCtc
import Derived.Test.YtaemdppihpefnaaGreatDoorBytes
import Derived.Laws.Rows
namespace Go.Proofs.YtaemdppihpefnaaGreatDoor
open Go.RowKit
set_option linter.unusedVariables false

theorem wrapped {P : Program} (ts : Array TypeId) (t : TypeId) (a : Addr) (x y : String) (w : World) : (Builtin.ssaWrapNilChk_ ts t #[.pointer (some a), strVal x, strVal y]).run P w = .ok (.pointer (some a)) w := rfl
theorem run_method_val {P : Program} (fuel : Nat) (T elem : TypeId) (nm : String) (f : FuncId) (hT : P.underlying T = some (.pointer elem)) (hm : ((P.info? T).bind (fun i => i.methods.find? (·.name == nm))).map (fun m => (m.path, m.func)) = some (#[], some (f, false)))
    (d : TypeDesc) (hu : P.underlying elem = some d) (hd : (match d with | .struct _ | .array _ _ => true | _ => false) = true) (g : Nat) (cs : Array Value) (hs : (P.info? elem).map (·.size) = some cs.size) (w : World) (h : w.heap[g]? = some (.cells cs elem (0, 0))) :
    (method (fuel + 1) T (.pointer (some ⟨g, 0, none⟩)) nm).run P w = .ok (f, .agg cs) w := by
  obtain ⟨m, hm1, hm2⟩ := Option.map_eq_some_iff.1 hm
  obtain ⟨i, hi, hf⟩ := Option.bind_eq_some_iff.1 hm1
  simp only [Prod.mk.injEq] at hm2
  have hl := run_loadVar_row w g _ _ cs (0, 0) _ h hu hd hs
  simp [method, typeInfo, hi, hf, hm2.1, hm2.2, follow, receiverAt, run_underlying hT, Place.get, wrapped, asAddr, hl]
theorem method_sign (g : Nat) (cs : Array Value) (w : World) (h : w.heap[g]? = some (.cells cs 158 (0, 0))) (hl : cs.size = 4) :
    (method 508 153 (.pointer (some ⟨g, 0, none⟩)) "Sign").run Tryz.prog w = .ok (248, .agg cs) w := by
  rw [show (508 : Nat) = 507 + 1 from rfl]
  exact run_method_val (P := Tryz.prog) 507 153 158 "Sign" 248 Tryz.underlying153 (by kernel_rfl) _ Tryz.underlying158 rfl g cs (by rw [hl]; kernel_rfl) w h
theorem nil_sign (a : Addr) (w : World) : (nilAhead 508 153 (.pointer (some a)) "Sign").run Tryz.prog w = .ok (some false) w := by kernel_rfl
theorem method_verify (g : Nat) (cs : Array Value) (w : World) (h : w.heap[g]? = some (.cells cs 161 (0, 0))) (hl : cs.size = 1) :
    (method 508 159 (.pointer (some ⟨g, 0, none⟩)) "Verify").run Tryz.prog w = .ok (249, .agg cs) w := by
  rw [show (508 : Nat) = 507 + 1 from rfl]
  exact run_method_val (P := Tryz.prog) 507 159 161 "Verify" 249 Tryz.underlying159 (by kernel_rfl) _ Tryz.underlying161 rfl g cs (by rw [hl]; kernel_rfl) w h
theorem nil_verify (a : Addr) (w : World) : (nilAhead 508 159 (.pointer (some a)) "Verify").run Tryz.prog w = .ok (some false) w := by kernel_rfl

set_option maxRecDepth 100000 in
set_option maxHeartbeats 2000000 in
/-- A signer signs, a key that is not empty. -/
theorem sign (H : HK) (nm : ByteArray) (c : Nat) (vp vk : Value) (p key : List Int) (w : World) (hp : Bs w vp p) (hk : Bs w vk key) (hpb : p.length ≤ 65536) (hkb : key.length ≤ 65536) (hpos : 0 < key.length) (hkt : Row w H.kg H.kT H.kC)
    (hc : Row w c 210 [.func (.func H.fNew) #[] #[]]) (eS : ∀ args w, (callFunc 117 args).run Tryz.prog w = .ok (.enter 117 args) w) :
    Calls Tryz.prog 248 #[.agg #[.string nm, .bool false, .bool true, .func (.func 117) #[] #[.pointer (some ⟨c, 0, none⟩)]], vp, .iface 22 vk] w fun e w' => ∃ v', e = .returned (.tuple #[v', .nilIface]) ∧ w'.ownsRow w.heap.size 5 1 v' H.size (cs8 (macOf H key p)) ∧ Below w.heap.size w w' := by
  obtain ⟨kp, kc, rfl, _, _, _⟩ := id hk
  have hk0 : ((key.length : Int) == 0) = false := by rw [beq_eq_false_iff_ne]; omega
  have hta : ∀ wx, (Instr.typeAssert (.iface 22 (.slice kp key.length kc)) 20 22 true).run Tryz.prog wx = .ok (.tuple #[.slice kp key.length kc, .bool true]) wx := fun _ => by kernel_rfl
  have dn : ∀ (b : Bool) (wx : World), (Op.unary .not (.bool b)).run Tryz.prog wx = .ok (.bool (!b)) wx := fun _ _ => rfl
  have G : Hid (∀ wx, Below w.heap.size w wx → Calls Tryz.prog 117 #[vp, .slice kp key.length kc, .pointer (some ⟨c, 0, none⟩)] wx fun e w' => ∃ v', e = .returned (.tuple #[v', .nilIface]) ∧ Hid (w'.ownsRow w.heap.size 5 1 v' H.size (cs8 (macOf H key p))) ∧ Hid (Below w.heap.size w w')) := by
    refine Lib.hid fun wx hb => ?_
    refine (signF H c vp _ p key wx (hp.below hb) (hk.below hb) hpb hkb (hkt.below hb hkt.lt) (by rw [(hc.below hb hc.lt).cell]; rfl)).mono ?_
    intro e w' ⟨v', h1, h2, h3⟩
    exact ⟨v', h1, Lib.hid (own_base h2 hb.size), Lib.hid (hb.trans (h3.mono hb.size))⟩
  clear hp hk hkt hc
  go_enter Tryz.func248, Tryz.ntmps248
  go_wp2_with fail
  refine (G.out _ ((Below.refl _ _).alloc (Nat.le_refl _) _)).mono ?_
  rintro e w3 ⟨v', rfl, own3, b3⟩
  go_wp2_with fail
  go_ret2
  exact ⟨v', rfl, own3.out, b3.out⟩
end Go.Proofs.YtaemdppihpefnaaGreatDoor
