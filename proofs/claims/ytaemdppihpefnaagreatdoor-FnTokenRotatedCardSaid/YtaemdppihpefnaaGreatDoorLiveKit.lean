/- impl.Verified at the right signature, a key that is not empty. -/
import Derived.Test.YtaemdppihpefnaaGreatDoorSignKit
import Derived.Test.YtaemdppihpefnaaGreatDoorMdB
import Derived.Lib.SlBytesConst
import Derived.Test.YtaemdppihpefnaaGreatDoorHashKit
import Derived.Test.YtaemdppihpefnaaGreatDoorMdD
import Derived.Test.YtaemdppihpefnaaGreatDoorRegKit
import Derived.Test.YtaemdppihpefnaaGreatDoorGlobal
namespace Go.Proofs.YtaemdppihpefnaaGreatDoor
open Go.RowKit
set_option linter.unusedVariables false

theorem eVerify : ∀ args w, (callFunc 249 args).run Tryz.prog w = .ok (.enter 249 args) w := fun args w => by
  have h1 : Tryz.f249.name ≠ "runtime.NumGoroutine" := by
    have : (Tryz.f249.name == "runtime.NumGoroutine") = false := by kernel_rfl
    simpa using this
  obtain ⟨c, hc⟩ : ∃ c, Tryz.f249.body = some c := ⟨_, rfl⟩
  simp [callFunc, Tryz.func249, h1, hc]

def MadeVerifier (f : FuncId) (nm : ByteArray) : Prop := ∀ w, Calls Tryz.prog 45 #[.agg #[.string nm, .bool false, .bool true]] w fun e w' => ∃ g h, e = .returned (.iface 159 (.pointer (some ⟨h, 0, none⟩))) ∧ Row w' h 161 [.iface 153 (.pointer (some ⟨g, 0, none⟩))] ∧ SignerAt f nm w.heap.size g w' ∧ Below w.heap.size w w'

set_option maxRecDepth 100000 in
set_option maxHeartbeats 16000000 in
theorem verifiedOf (H : HK) (nm : ByteArray) (c1 : OfName nm) (c2 : MadeVerifier H.fNew nm) (vb vs vk : Value) (b key : List Int) (w : World) (hb : Bs w vb b) (hs : Bs w vs (macOf H key b)) (hk : Bs w vk key) (hbl : b.length ≤ 65536) (hkl : key.length ≤ 65536) (hpos : 0 < key.length) (hkt : Row w H.kg H.kT H.kC) :
    Calls Tryz.prog 25 #[.string nm, vb, vs, vk] w fun e w' => e = .returned (.bool true) ∧ Below w.heap.size w w' := by
  have C1 := Lib.hid (c1 w)
  have C2 := Lib.hid c2
  have hml : (macOf H key b).length ≤ 64 := by rw [macOf_len]; exact H.size_le
  have HBs := Lib.hid hb
  have HSs := Lib.hid hs
  have HKs := Lib.hid hk
  have HKt := Lib.hid hkt
  clear c1 c2 hb hs hk hkt
  have hmf : ∀ (fn : Fn) (first cap : Array Value) (w : World), (Instr.makeFunc fn first cap).run Tryz.prog w = .ok (.func fn first cap) w := fun _ _ _ _ => rfl
  have hns := nil_verify
  have es := eVerify
  go_enter Tryz.func25, Tryz.ntmps25
  go_wp2_with (go_at_call 43; refine C1.out.mono ?_; rintro e w1 ⟨rfl, b1⟩; have b1 := Lib.hid b1)
  obtain ⟨w2, hw2⟩ : ∃ w2 : World, w2 = w1.alloc (.cells #[.string nm, .bool false, .bool true] 112) := ⟨_, rfl⟩
  rw [← hw2]
  have X2 : Row w2 w1.heap.size 112 [.string nm, .bool false, .bool true] := by rw [hw2]; exact Row.new w1 _ _ _ rfl
  have I := Lib.hid (show Below w.heap.size w w2.drew by rw [hw2]; exact below_drewd (b1.out.trans (((Below.refl _ _).alloc (Nat.le_refl _) _).mono b1.out.size)))
  have hX : w1.heap.size < w2.heap.size := X2.lt
  have c0 : w2.cell? ⟨w1.heap.size, 0, none⟩ = some (.string nm) := by rw [X2.cell]; rfl
  have c1 : w2.cell? ⟨w1.heap.size, 1, none⟩ = some (.bool false) := by rw [X2.cell]; rfl
  have c2 : w2.cell? ⟨w1.heap.size, 2, none⟩ = some (.bool true) := by rw [X2.cell]; rfl
  have Hc := Lib.hid (show w2.drew.cell? ⟨w1.heap.size, 0, none⟩ = some (.string nm) ∧ w2.drew.cell? ⟨w1.heap.size, 1, none⟩ = some (.bool false) ∧ w2.drew.cell? ⟨w1.heap.size, 2, none⟩ = some (.bool true) ∧ w1.heap.size < w2.drew.heap.size from ⟨c0, c1, c2, hX⟩)
  clear hw2 X2 b1
  generalize w1.heap.size = X at *
  go_region_held3 (fun w' => w'.cell? ⟨X, 0, none⟩ = some (.string nm) ∧ w'.cell? ⟨X, 1, none⟩ = some (.bool false) ∧ w'.cell? ⟨X, 2, none⟩ = some (.bool true))
    (first | go_keep | exact ⟨Hc.out.1, Hc.out.2.1, Hc.out.2.2.1⟩)
    (first
      | (go_at_call 45; refine (C2.out _).mono ?_; rintro e wn ⟨g, h, rfl, hr, sg, bn⟩; have HV := Lib.hid hr; have SG := Lib.hid sg; have hm := method_verify h _ _ HV.out rfl; have I := Lib.hid (I.out.trans (bn.mono I.out.size)); have Hc := Lib.hid (show _ ∧ _ ∧ _ ∧ _ from ⟨(bn.cell (p := ⟨X, 0, none⟩) Hc.out.2.2.2).trans Hc.out.1, (bn.cell (p := ⟨X, 1, none⟩) Hc.out.2.2.2).trans Hc.out.2.1, (bn.cell (p := ⟨X, 2, none⟩) Hc.out.2.2.2).trans Hc.out.2.2.1, Nat.lt_of_lt_of_le Hc.out.2.2.2 bn.size⟩); (try have P1 := Lib.hid (P1.out.below bn)); (try have P2 := Lib.hid (P2.out.below bn)); (try have P3 := Lib.hid (P3.out.below bn)); clear hr sg bn)
      | (go_at_call_of 7 vb; refine (clone vb b _ (HBs.out.below I.out) (by omega)).mono ?_; rintro e wn ⟨v1, rfl, own1, bn⟩; have P1 := Lib.hid (Bs.own own1); have I := Lib.hid (I.out.trans (bn.mono I.out.size)); have Hc := Lib.hid (show _ ∧ _ ∧ _ ∧ _ from ⟨(bn.cell (p := ⟨X, 0, none⟩) Hc.out.2.2.2).trans Hc.out.1, (bn.cell (p := ⟨X, 1, none⟩) Hc.out.2.2.2).trans Hc.out.2.1, (bn.cell (p := ⟨X, 2, none⟩) Hc.out.2.2.2).trans Hc.out.2.2.1, Nat.lt_of_lt_of_le Hc.out.2.2.2 bn.size⟩); (try have P2 := Lib.hid (P2.out.below bn)); (try have P3 := Lib.hid (P3.out.below bn)); (try (have HV := Lib.hid (HV.out.below bn HV.out.lt); have SG := Lib.hid (SG.out.below bn); have hm := method_verify h _ _ HV.out rfl)); clear own1 bn)
      | (go_at_call_of 7 vs; refine (clone vs _ _ (HSs.out.below I.out) (by omega)).mono ?_; rintro e wn ⟨v2, rfl, own1, bn⟩; have P2 := Lib.hid (Bs.own own1); have I := Lib.hid (I.out.trans (bn.mono I.out.size)); have Hc := Lib.hid (show _ ∧ _ ∧ _ ∧ _ from ⟨(bn.cell (p := ⟨X, 0, none⟩) Hc.out.2.2.2).trans Hc.out.1, (bn.cell (p := ⟨X, 1, none⟩) Hc.out.2.2.2).trans Hc.out.2.1, (bn.cell (p := ⟨X, 2, none⟩) Hc.out.2.2.2).trans Hc.out.2.2.1, Nat.lt_of_lt_of_le Hc.out.2.2.2 bn.size⟩); (try have P1 := Lib.hid (P1.out.below bn)); (try have P3 := Lib.hid (P3.out.below bn)); (try (have HV := Lib.hid (HV.out.below bn HV.out.lt); have SG := Lib.hid (SG.out.below bn); have hm := method_verify h _ _ HV.out rfl)); clear own1 bn)
      | (go_at_call_of 7 vk; refine (clone vk key _ (HKs.out.below I.out) (by omega)).mono ?_; rintro e wn ⟨v3, rfl, own1, bn⟩; have P3 := Lib.hid (Bs.own own1); have I := Lib.hid (I.out.trans (bn.mono I.out.size)); have Hc := Lib.hid (show _ ∧ _ ∧ _ ∧ _ from ⟨(bn.cell (p := ⟨X, 0, none⟩) Hc.out.2.2.2).trans Hc.out.1, (bn.cell (p := ⟨X, 1, none⟩) Hc.out.2.2.2).trans Hc.out.2.1, (bn.cell (p := ⟨X, 2, none⟩) Hc.out.2.2.2).trans Hc.out.2.2.1, Nat.lt_of_lt_of_le Hc.out.2.2.2 bn.size⟩); (try have P1 := Lib.hid (P1.out.below bn)); (try have P2 := Lib.hid (P2.out.below bn)); (try (have HV := Lib.hid (HV.out.below bn HV.out.lt); have SG := Lib.hid (SG.out.below bn); have hm := method_verify h _ _ HV.out rfl)); clear own1 bn)
      | (go_at_call 249; refine (verify H nm _ g v1 v2 v3 b key _ SG.out P1.out P2.out P3.out hbl hkl hpos (HKt.out.below I.out HKt.out.lt)).mono ?_; rintro e wn ⟨rfl, bn⟩; have I := Lib.hid (I.out.trans (bn.mono I.out.size)); have Hc := Lib.hid (show _ ∧ _ ∧ _ ∧ _ from ⟨(bn.cell (p := ⟨X, 0, none⟩) Hc.out.2.2.2).trans Hc.out.1, (bn.cell (p := ⟨X, 1, none⟩) Hc.out.2.2.2).trans Hc.out.2.1, (bn.cell (p := ⟨X, 2, none⟩) Hc.out.2.2.2).trans Hc.out.2.2.1, Nat.lt_of_lt_of_le Hc.out.2.2.2 bn.size⟩); clear bn))
  all_goals (go_wp2_with fail; go_ret; exact ⟨rfl, I.out⟩)
end Go.Proofs.YtaemdppihpefnaaGreatDoor

/- laws.tokenLive returns true. -/
namespace Go.Proofs.YtaemdppihpefnaaGreatDoor
open Go.RowKit
set_option linter.unusedVariables false

theorem bs_lit (w : World) (xs : List Int) (T : TypeId) (cs : Array Value) (fr : Nat × Nat) (h : cs = (cs8 xs).toArray) (n : Nat) (hn : xs.length = n) (g : Nat) (hg : g = w.heap.size) : Bs (w.alloc (.cells cs T fr)) (.slice (some ⟨g, 0, none⟩) n n) xs := by
  subst h hn hg
  refine ⟨_, xs.length, rfl, Nat.le_refl _, (fun h => by cases h), fun _ => ⟨w.heap.size, 0, rfl, fun i hi => ?_⟩⟩
  rw [cell_of_row _ _ _ _ _ _ (heap_alloc_new w _), Nat.zero_add]
  simpa using get_cs8 xs i hi
theorem two_lits (w : World) : ∃ w1 : World, w1 = (w.alloc (.cells #[.int .u8 97, .int .u8 98] 5 (2, 3))).alloc (.cells #[.int .u8 1] 5) ∧ Bs w1 (.slice (some ⟨w.heap.size, 0, none⟩) 2 2) [97, 98] ∧ Bs w1 (.slice (some ⟨w.heap.size + 1, 0, none⟩) 1 1) [1] ∧ Below w.heap.size w w1 :=
  ⟨_, rfl, (bs_lit w [97, 98] 5 _ (2, 3) rfl 2 rfl _ rfl).below ((Below.refl _ _).alloc (Nat.le_refl _) _), bs_lit _ [1] 5 _ (0, 0) rfl 1 rfl _ (by simp), ((Below.refl _ _).alloc (Nat.le_refl _) _).alloc (by simp) _⟩
theorem own_form {w : World} {base : Nat} {e : TypeId} {v : Value} {n : Nat} {xs : List Value} (h : w.ownsRow base e 1 v n xs) (hn : 0 < n) : ∃ g cap, v = .slice (some ⟨g, 0, none⟩) n cap := by
  obtain ⟨_, h2⟩ := h
  rcases h2 with ⟨_, h0⟩ | ⟨g, cap, cur, hv, _⟩
  · omega
  · exact ⟨g, cap, hv⟩

set_option maxRecDepth 100000 in
set_option maxHeartbeats 4000000 in
theorem tokenLive (K : List Int) (hK : K.length = 64) (w : World) (hkt : Row w 8 380 (cs32 K)) :
    Calls Tryz.prog 6 #[] w fun e w' => e = .returned (.bool true) ∧ Below w.heap.size w w' := by
  have HKt := Lib.hid hkt
  clear hkt
  have kc := fun (w : World) (C : Array Value) (n c : Nat) => Lib.run_convert_bytes_const (P := Tryz.prog) w 22 5 C n c Tryz.underlying22 Tryz.underlying5
  go_enter Tryz.func6, Tryz.ntmps6
  go_wp2_with fail
  obtain ⟨w1, hw1, B1, B2, L1⟩ := two_lits w
  rw [← hw1]
  clear hw1
  have K1 := HKt.out.below L1 HKt.out.lt
  refine (signedOf (hk256 K hK) ⟨#[72, 83, 50, 53, 54]⟩ hmacOf0 newSigner0 _ _ [97, 98] [1] w1 B1 B2 (by decide) (by decide) (by decide) K1).mono ?_
  rintro e w2 ⟨v', rfl, own, b2⟩
  have hex : ∃ g cap, v' = .slice (some ⟨g, 0, none⟩) 32 cap := own_form own (show 0 < 32 by decide)
  have Bv := Bs.own own
  have L2 := Lib.hid (L1.trans (b2.mono L1.size))
  have K2 := Lib.hid (K1.below b2 K1.lt)
  clear own b2 K1 B1 B2 L1
  obtain ⟨g, cap, hv⟩ := hex
  rw [hv] at Bv ⊢
  have Bv := Lib.hid Bv
  clear hv
  go_wp2_with fail
  obtain ⟨w3, hw3, B1, B2, L3⟩ := two_lits w2
  rw [← hw3]
  clear hw3
  refine (verifiedOf (hk256 K hK) ⟨#[72, 83, 50, 53, 54]⟩ hmacOf0 newVerifier0 _ _ _ [97, 98] [1] w3 B1 (Bv.out.below L3) B2 (by decide) (by decide) (by decide) (K2.out.below L3 K2.out.lt)).mono ?_
  rintro e w4 ⟨rfl, b4⟩
  have L4 := Lib.hid ((L2.out.trans (L3.mono L2.out.size)).trans (b4.mono ((L2.out.trans (L3.mono L2.out.size)).size)))
  clear b4 B1 B2 L3
  go_wp2_with fail
  go_ret
  exact ⟨rfl, L4.out⟩
end Go.Proofs.YtaemdppihpefnaaGreatDoor

/- The algorithms and their hashes; tokenLive in any well-shaped world. -/
namespace Go.Proofs.YtaemdppihpefnaaGreatDoor
open Go.RowKit
set_option linter.unusedVariables false

/-- An algorithm's name, and the hash that it goes with. -/
structure AlgOk (n : Nat) (H : HK) : Prop where
  of : OfName (hsName n)
  sg : MadeSigner H.fNew (hsName n)
  mv : MadeVerifier H.fNew (hsName n)
/-- tokenLive returns true, from w on. -/
def Live (w : World) : Prop := ∀ w', Below w.heap.size w w' → Calls Tryz.prog 6 #[] w' fun e w'' => e = .returned (.bool true) ∧ Below w'.heap.size w' w''
theorem equalT (v1 v2 : Value) (xs : List Int) (w : World) (h1 : Bs w v1 xs) (h2 : Bs w v2 xs) (hx : Byt xs) :
    Calls Tryz.prog 12 #[v1, v2] w fun e w' => e = .returned (.bool true) ∧ w = w' := by
  have h := equal v1 v2 xs xs w h1 h2 hx hx
  simpa using h

theorem algOk0 (K : List Int) (hK : K.length = 64) : AlgOk 0 (hk256 K hK) := ⟨hmacOf0, newSigner0, newVerifier0⟩
theorem algOk1 (K : List Int) (hK : K.length = 80) : AlgOk 1 (hk384 K hK) := ⟨hmacOf1, newSigner1, newVerifier1⟩
theorem algOk2 (K : List Int) (hK : K.length = 80) : AlgOk 2 (hk512 K hK) := ⟨hmacOf2, newSigner2, newVerifier2⟩
theorem live_of (w : World) (h : w.ShapedOpen Tryz.prog) : Live w := by
  obtain ⟨K, hK, r⟩ := table256 w h
  exact fun w' b => tokenLive K hK w' (r.below b r.lt)
end Go.Proofs.YtaemdppihpefnaaGreatDoor
