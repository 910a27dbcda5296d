/- laws.tokenMade: a compact token, over whatever hash the algorithm has. -/
import Derived.Test.YtaemdppihpefnaaGreatDoorHeadKit
import Derived.Test.YtaemdppihpefnaaGreatDoorBsB
import Derived.Test.YtaemdppihpefnaaGreatDoorBsD
import Derived.Test.YtaemdppihpefnaaGreatDoorJsB
import Derived.Test.YtaemdppihpefnaaGreatDoorLiveKit
import Derived.Test.YtaemdppihpefnaaGreatDoorDotKit
import Derived.Test.YtaemdppihpefnaaGreatDoorHashKit
import Derived.Lib.AppendZeros
namespace Go.Proofs.YtaemdppihpefnaaGreatDoor
open Go.RowKit
set_option linter.unusedVariables false

def toN (xs : List Int) : List Nat := xs.map Int.toNat
theorem bi_toN {xs : List Int} (h : Byt xs) : bi (toN xs) = xs := by
  apply List.ext_getElem
  · simp [bi, toN]
  · intro i h1 h2
    have := h xs[i] (List.getElem_mem h2)
    simp [bi, toN]
    omega
theorem toN_lt {xs : List Int} (h : Byt xs) : ∀ x ∈ toN xs, x < 256 := by
  intro x hx
  obtain ⟨y, hy, rfl⟩ := List.mem_map.1 hx
  have := h y hy
  omega
theorem toN_len (xs : List Int) : (toN xs).length = xs.length := by simp [toN]
theorem toN_bi (xs : List Nat) : toN (bi xs) = xs := by
  apply List.ext_getElem
  · simp [bi, toN]
  · intro i h1 h2; simp [bi, toN]

/-- An algorithm's name. -/
def nmI (n : Nat) : List Int := if n = 0 then [72, 83, 50, 53, 54] else if n = 1 then [72, 83, 51, 56, 52] else [72, 83, 53, 49, 50]
theorem nm0 : (⟨#[72, 83, 50, 53, 54]⟩ : ByteArray) = strOfNums [72, 83, 50, 53, 54] := by kernel_rfl
theorem nm1 : (⟨#[72, 83, 51, 56, 52]⟩ : ByteArray) = strOfNums [72, 83, 51, 56, 52] := by kernel_rfl
theorem nm2 : (⟨#[72, 83, 53, 49, 50]⟩ : ByteArray) = strOfNums [72, 83, 53, 49, 50] := by kernel_rfl
theorem nm_eq (n : Nat) : hsName n = strOfNums (nmI n) := by
  unfold hsName nmI
  split
  · exact nm0
  · split
    · exact nm1
    · exact nm2
theorem nm_len (n : Nat) : (nmI n).length = 5 := by unfold nmI; split; rfl; split <;> rfl
theorem nm_plain (n : Nat) : Plain (nmI n) := by
  unfold nmI
  intro x hx
  split at hx
  · simp at hx; omega
  · split at hx <;> (simp at hx; omega)

def headN (n : Nat) : List Nat := toN (headB (nmI n))
theorem headN_bi (n : Nat) : bi (headN n) = headB (nmI n) := bi_toN (headB_byt (nm_plain n).byt)
theorem headN_lt (n : Nat) : ∀ x ∈ headN n, x < 256 := toN_lt (headB_byt (nm_plain n).byt)
theorem headN_len (n : Nat) : (headN n).length = 27 := by rw [headN, toN_len, headB_len, nm_len]

def macN (H : HK) (n : Nat) (pay : List Nat) (key : List Int) : List Nat := toN (macOf H key (sigB (headN n) pay))
/-- The token. -/
def tokB (H : HK) (n : Nat) (pay : List Nat) (key : List Int) : List Int := joinB (headN n) pay (macN H n pay key)

theorem byt_app {a b : List Int} (ha : Byt a) (hb : Byt b) : Byt (a ++ b) := fun x hx => by
  rcases List.mem_append.1 hx with h | h
  · exact ha x h
  · exact hb x h
theorem enc_lt {xs : List Nat} (h : ∀ x ∈ xs, x < 256) : ∀ c ∈ B64.enc xs, c < 256 := fun c hc => (lets (B64.enc_letters xs h c hc)).2.2.2.2
theorem sigB_byt {xs ys : List Nat} (hx : ∀ x ∈ xs, x < 256) (hy : ∀ x ∈ ys, x < 256) : Byt (sigB xs ys) :=
  byt_app (byt_app (bi_byt (enc_lt hx)) (fun x hx => by simp at hx; omega)) (bi_byt (enc_lt hy))
theorem macN_lt (H : HK) (n : Nat) (pay : List Nat) (key : List Int) : ∀ x ∈ macN H n pay key, x < 256 := toN_lt (macOf_byt _ _ _)
theorem macN_len (H : HK) (n : Nat) (pay : List Nat) (key : List Int) : (macN H n pay key).length ≤ 64 := by rw [macN, toN_len, macOf_len]; exact H.size_le
theorem tokB_byt (H : HK) (n : Nat) (pay : List Nat) (key : List Int) (hp : ∀ x ∈ pay, x < 256) : Byt (tokB H n pay key) :=
  byt_app (byt_app (sigB_byt (headN_lt n) hp) (fun x hx => by simp at hx; omega)) (bi_byt (enc_lt (macN_lt H n pay key)))
theorem tokB_len (H : HK) (n : Nat) (pay : List Nat) (key : List Int) : (tokB H n pay key).length ≤ pay.length * 4 / 3 + 200 := by
  have h1 := macN_len H n pay key
  have h2 := headN_len n
  simp only [tokB, joinB, sigB, List.length_append, bi_len, B64.enc_len, List.length_cons, List.length_nil]
  omega

set_option maxRecDepth 100000 in
set_option maxHeartbeats 2000000 in
theorem tokenMade (H : HK) (n : Nat) (hA : AlgOk n H) (vh vp vk : Value) (pay : List Nat) (key : List Int) (w : World) (hh : Bs w vh (bi (headN n))) (hp : Bs w vp (bi pay)) (hk : Bs w vk key) (hpb : ∀ x ∈ pay, x < 256) (hpl : pay.length ≤ 20000) (hkl : key.length ≤ 65536) (hpos : 0 < key.length) (hkt : Row w H.kg H.kT H.kC) :
    Calls Tryz.prog 9 #[.string (hsName n), vh, vp, vk, .bool true] w fun e w' => (∃ v, e = .returned (.tuple #[v, .bool true]) ∧ Hid (Bs w' v (tokB H n pay key))) ∧ Hid (Below w.heap.size w w') := by
  have HH := Lib.hid hh
  have HP := Lib.hid hp
  have HKy := Lib.hid hk
  have HPB := Lib.hid hpb
  have HKT := Lib.hid hkt
  have HA := Lib.hid hA
  have dn : ∀ (b : Bool) (wx : World), (Op.unary .not (.bool b)).run Tryz.prog wx = .ok (.bool (!b)) wx := fun _ _ => rfl
  have C1 := Lib.hid (clone vh _ w hh (by rw [bi_len, headN_len]; omega))
  have HNM := Lib.hid (rfl : hsName n = hsName n)
  generalize hnm : hsName n = nm
  have Hnm := Lib.hid hnm
  clear hh hp hk hpb hkt hA hnm HNM
  go_enter Tryz.func9, Tryz.ntmps9
  go_wp2_with fail
  go_at_call 7
  refine C1.out.mono ?_
  rintro e w1 ⟨v1, rfl, own1, hb1⟩
  have B1 := Lib.hid hb1
  have S1 := Lib.hid (Bs.own own1)
  have C2 := Lib.hid (clone vp _ w1 (HP.out.below hb1) (by rw [bi_len]; omega))
  clear own1 hb1 C1
  go_wp2_with fail
  go_at_call 7
  refine C2.out.mono ?_
  rintro e w2 ⟨v2, rfl, own2, hb2⟩
  have B2 := Lib.hid (B1.out.trans (hb2.mono B1.out.size))
  have S2 := Lib.hid (Bs.own own2)
  have S1 := Lib.hid (S1.out.below hb2)
  have SG := Lib.hid (signing v1 v2 (headN n) pay w2 S1.out S2.out (headN_lt n) HPB.out (by rw [headN_len]; omega) (by omega))
  clear own2 hb2 C2
  go_wp2_with fail
  go_at_call 26
  refine SG.out.mono ?_
  rintro e w3 ⟨⟨v3, rfl, hv3⟩, hb3⟩
  have B3 := Lib.hid (B2.out.trans (hb3.mono B2.out.size))
  have S3 := Lib.hid hv3
  have C4 := Lib.hid (clone vk _ w3 (HKy.out.below B3.out) (by omega))
  clear hv3 hb3 SG
  go_wp2_with fail
  go_at_call 7
  refine C4.out.mono ?_
  rintro e w4 ⟨v4, rfl, own4, hb4⟩
  have B4 := Lib.hid (B3.out.trans (hb4.mono B3.out.size))
  have S4 := Lib.hid (Bs.own own4)
  have S3 := Lib.hid (S3.out.below hb4)
  have hsl := sigB_len (headN n) pay (by rw [headN_len]; omega) (by omega)
  have hsl2 : (sigB (headN n) pay).length ≤ 65536 := by
    simp only [sigB, List.length_append, bi_len, B64.enc_len, List.length_cons, List.length_nil, headN_len]; omega
  have SI := Lib.hid (signedOf H nm (by rw [← Hnm.out]; exact HA.out.of) (by rw [← Hnm.out]; exact HA.out.sg) v3 v4 (sigB (headN n) pay) key w4 S3.out S4.out hsl2 hkl hpos (HKT.out.below B4.out HKT.out.lt))
  clear own4 hb4 C4 hsl hsl2
  go_wp2_with fail
  go_at_call 24
  refine SI.out.mono ?_
  rintro e w5 ⟨v5, rfl, own5, hb5⟩
  have B5 := Lib.hid (B4.out.trans (hb5.mono B4.out.size))
  have S5 : Hid (Bs w5 v5 (bi (macN H n pay key))) := Lib.hid (by rw [macN, bi_toN (macOf_byt _ _ _)]; exact Bs.own own5)
  have C6 := Lib.hid (clone vh _ w5 (HH.out.below B5.out) (by rw [bi_len, headN_len]; omega))
  clear own5 hb5 SI S3 S4
  go_wp2_with fail
  go_at_call 7
  refine C6.out.mono ?_
  rintro e w6 ⟨v6, rfl, own6, hb6⟩
  have B6 := Lib.hid (B5.out.trans (hb6.mono B5.out.size))
  have S6 := Lib.hid (Bs.own own6)
  have S5 := Lib.hid (S5.out.below hb6)
  have C7 := Lib.hid (clone vp _ w6 (HP.out.below B6.out) (by rw [bi_len]; omega))
  clear own6 hb6 C6
  go_wp2_with fail
  go_at_call 7
  refine C7.out.mono ?_
  rintro e w7 ⟨v7, rfl, own7, hb7⟩
  have B7 := Lib.hid (B6.out.trans (hb7.mono B6.out.size))
  have S7 := Lib.hid (Bs.own own7)
  have S5 := Lib.hid (S5.out.below hb7)
  have S6 := Lib.hid (S6.out.below hb7)
  have JO := Lib.hid (joined v6 v7 v5 (headN n) pay (macN H n pay key) w7 S6.out S7.out S5.out (headN_lt n) HPB.out (macN_lt H n pay key) (by rw [headN_len]; omega) (by omega) (by have := macN_len H n pay key; omega))
  clear own7 hb7 C7
  go_wp2_with fail
  go_at_call 27
  refine JO.out.mono ?_
  rintro e w8 ⟨⟨v8, rfl, hv8, _⟩, hb8⟩
  have B8 := Lib.hid (B7.out.trans (hb8.mono B7.out.size))
  have S8 := Lib.hid hv8
  clear hv8 hb8 JO
  go_wp2_with fail
  go_ret2
  exact ⟨⟨v8, rfl, S8⟩, B8⟩
end Go.Proofs.YtaemdppihpefnaaGreatDoor

/- laws.tokenRead, of a token that was made. -/
namespace Go.Proofs.YtaemdppihpefnaaGreatDoor
open Go.RowKit
set_option linter.unusedVariables false

theorem no_dot {xs : List Nat} (h : ∀ x ∈ xs, x < 256) : ∀ c ∈ bi (B64.enc xs), c ≠ 46 := by
  intro c hc
  obtain ⟨n, hn, rfl⟩ := List.mem_map.1 hc
  have := (lets (B64.enc_letters xs h n hn)).2.1
  omega
theorem tok_parts (x y z : List Nat) (hx : ∀ a ∈ x, a < 256) (hy : ∀ a ∈ y, a < 256) (hz : ∀ a ∈ z, a < 256) :
    spOk (joinB x y z) = true ∧ sp1 (joinB x y z) = bi (B64.enc x) ∧ sp2 (joinB x y z) = bi (B64.enc y) ∧ sp3 (joinB x y z) = bi (B64.enc z) := by
  have e : joinB x y z = bi (B64.enc x) ++ 46 :: (bi (B64.enc y) ++ 46 :: bi (B64.enc z)) := by simp [joinB, sigB]
  have c1 := cutB_dot (bi (B64.enc x)) (bi (B64.enc y) ++ 46 :: bi (B64.enc z)) (no_dot hx)
  have c2 := cutB_dot (bi (B64.enc y)) (bi (B64.enc z)) (no_dot hy)
  have c3 := cutB_no (bi (B64.enc z)) (no_dot hz)
  rw [e]
  simp [spOk, sp1, sp2, sp3, c1, c2, c3]

/-- The header's fields. -/
def hK (i : Nat) : List Int := if i = 0 then sAlg else sTyp
def hV (n i : Nat) : List Int := if i = 0 then nmI n else sJwt
theorem head_text (n : Nat) : jtext hK (hV n) 2 = headB (nmI n) := by
  simp [jtext, jrest, hK, hV, headB, item]
theorem head_fit (n : Nat) : Fit hK (hV n) 2 where
  n0 := by omega
  n10 := by omega
  kB := fun i => by unfold hK; split <;> (intro x hx; simp [sAlg, sTyp] at hx; omega)
  vB := fun i => by
    unfold hV
    split
    · intro x hx; have := nm_plain n x hx; omega
    · intro x hx; simp [sJwt] at hx; omega
  kL := fun i => by unfold hK; split <;> simp [sAlg, sTyp]
  vL := fun i => by unfold hV; split; rw [nm_len]; omega; simp [sJwt]
  vP := fun i => by unfold hV; split; rw [nm_len]; omega; simp [sJwt]

def P3 (x y : List Int) (i : Nat) : List Int := if i = 0 then x else if i = 1 then [46] else y
def A3 (p1 p2 : Option Addr) (g : Nat) (i : Nat) : Option Addr := if i = 0 then p1 else if i = 1 then some ⟨g, 0, none⟩ else p2
def C3 (c1 c2 : Nat) (i : Nat) : Nat := if i = 0 then c1 else if i = 1 then 1 else c2
theorem parts3 {w W : World} {T1 T2 : TypeId} {p1 p2 : Option Addr} {c1 c2 : Nat} {x y : List Int}
    (h : (w.alloc (.cells #[.int .u8 46] T1)).alloc (.cells #[.slice p1 x.length c1, .slice (some ⟨w.heap.size, 0, none⟩) 1 1, .slice p2 y.length c2] T2) = W)
    (h1 : Bs w (.slice p1 x.length c1) x) (h2 : Bs w (.slice p2 y.length c2) y) :
    Parts W (some ⟨w.heap.size + 1, 0, none⟩) 3 (A3 p1 p2 w.heap.size) (C3 c1 c2) (P3 x y) ∧ Below w.heap.size w W := by
  obtain ⟨R1, R2, hs, hB⟩ := two h
  refine ⟨⟨fun _ => ⟨_, 0, rfl, R2.lt, fun i hi => ?_⟩, fun i hi => ?_⟩, hB⟩
  · have hc : i = 0 ∨ i = 1 ∨ i = 2 := by omega
    rcases hc with rfl | rfl | rfl <;> (rw [R2.cell]; rfl)
  · have hc : i = 0 ∨ i = 1 ∨ i = 2 := by omega
    rcases hc with rfl | rfl | rfl
    · exact h1.below hB
    · exact Bs.row R1 0 1 [46] (by decide) (fun i hi => by
        have : i = 0 := by simp at hi; omega
        subst this; rfl)
    · exact h2.below hB
theorem cc3 (x y : List Nat) : cc (P3 (bi (B64.enc x)) (bi (B64.enc y))) 3 = sigB x y := by simp [cc, P3, sigB]

set_option maxRecDepth 100000 in
set_option maxHeartbeats 4000000 in
theorem tokenRead (H : HK) (n : Nat) (hA : AlgOk n H) (vt vk : Value) (pay : List Nat) (key : List Int) (w : World) (ht : Bs w vt (tokB H n pay key)) (hk : Bs w vk key) (hpb : ∀ x ∈ pay, x < 256) (hpl : pay.length ≤ 20000) (hkl : key.length ≤ 65536) (hpos : 0 < key.length) (hkt : Row w H.kg H.kT H.kC) (he : Ev w) :
    Calls Tryz.prog 11 #[vt, vk] w fun e w' => (∃ v1 v2, e = .returned (.tuple #[v1, v2, .bool true, .bool true]) ∧ Hid (Bs w' v2 (bi pay))) ∧ Hid (Below w.heap.size w w') := by
  have HKy := Lib.hid hk
  have HPB := Lib.hid hpb
  have HKT := Lib.hid hkt
  have HA := Lib.hid hA
  have HE := Lib.hid he
  have dn : ∀ (b : Bool) (wx : World), (Op.unary .not (.bool b)).run Tryz.prog wx = .ok (.bool (!b)) wx := fun _ _ => rfl
  have htl := tokB_len H n pay key
  have C1 := Lib.hid (clone vt _ w ht (by omega))
  have HTL := Lib.hid htl
  clear ht hk hpb hkt hA he htl
  go_enter Tryz.func11, Tryz.ntmps11
  go_wp2_with fail
  go_at_call 7
  refine C1.out.mono ?_
  rintro e w1 ⟨v1, rfl, own1, hb1⟩
  have B1 := Lib.hid hb1
  have S := Lib.hid (split v1 (tokB H n pay key) w1 (Bs.own own1) (by have := HTL.out; omega) (HE.out.below hb1))
  clear own1 hb1 C1
  go_wp2_with fail
  go_at_call 18
  refine S.out.mono ?_
  rintro e w2 ⟨hs4, hb2⟩
  obtain ⟨p0, p1, p2, p3⟩ := tok_parts (headN n) pay (macN H n pay key) (headN_lt n) HPB.out (macN_lt H n pay key)
  have hs4 : Split4 w2 (joinB (headN n) pay (macN H n pay key)) e := hs4
  rw [Split4, p0, if_pos rfl, p1, p2, p3] at hs4
  obtain ⟨a, b, c, rfl, ha, hb, hc⟩ := hs4
  have SA := Lib.hid ha
  have SB := Lib.hid hb
  have SC := Lib.hid hc
  have B2 := Lib.hid (B1.out.trans (hb2.mono B1.out.size))
  have C2 := Lib.hid (clone a _ w2 ha (by rw [bi_len, B64.enc_len, headN_len]; omega))
  clear ha hb hc hb2 S p0 p1 p2 p3
  go_wp2_with fail
  -- the header
  go_at_call 7
  refine C2.out.mono ?_
  rintro e w3 ⟨v3, rfl, own3, hb3⟩
  have B3 := Lib.hid (B2.out.trans (hb3.mono B2.out.size))
  have SA := Lib.hid (SA.out.below hb3)
  have SB := Lib.hid (SB.out.below hb3)
  have SC := Lib.hid (SC.out.below hb3)
  have D3 := Lib.hid (decoded v3 (headN n) w3 (Bs.own own3) (headN_lt n) (by rw [headN_len]; omega))
  clear own3 hb3 C2
  go_wp2_with fail
  go_at_call 29
  refine D3.out.mono ?_
  rintro e w4 ⟨⟨v4, rfl, hv4⟩, hb4⟩
  have B4 := Lib.hid (B3.out.trans (hb4.mono B3.out.size))
  have SA := Lib.hid (SA.out.below hb4)
  have SB := Lib.hid (SB.out.below hb4)
  have SC := Lib.hid (SC.out.below hb4)
  have S4 := Lib.hid hv4
  have C4 := Lib.hid (clone b _ w4 SB.out (by rw [bi_len, B64.enc_len]; omega))
  clear hv4 hb4 D3
  go_wp2_with fail
  -- the payload
  go_at_call 7
  refine C4.out.mono ?_
  rintro e w5 ⟨v5, rfl, own5, hb5⟩
  have B5 := Lib.hid (B4.out.trans (hb5.mono B4.out.size))
  have SA := Lib.hid (SA.out.below hb5)
  have SB := Lib.hid (SB.out.below hb5)
  have SC := Lib.hid (SC.out.below hb5)
  have S4 := Lib.hid (S4.out.below hb5)
  have D5 := Lib.hid (decoded v5 pay w5 (Bs.own own5) HPB.out (by omega))
  clear own5 hb5 C4
  go_wp2_with fail
  go_at_call 29
  refine D5.out.mono ?_
  rintro e w6 ⟨⟨v6, rfl, hv6⟩, hb6⟩
  have B6 := Lib.hid (B5.out.trans (hb6.mono B5.out.size))
  have SA := Lib.hid (SA.out.below hb6)
  have SB := Lib.hid (SB.out.below hb6)
  have SC := Lib.hid (SC.out.below hb6)
  have S4 := Lib.hid (S4.out.below hb6)
  have S6 := Lib.hid hv6
  have C6 := Lib.hid (clone c _ w6 SC.out (by rw [bi_len, B64.enc_len]; have := macN_len H n pay key; omega))
  clear hv6 hb6 D5
  go_wp2_with fail
  -- the signature
  go_at_call 7
  refine C6.out.mono ?_
  rintro e w7 ⟨v7, rfl, own7, hb7⟩
  have B7 := Lib.hid (B6.out.trans (hb7.mono B6.out.size))
  have SA := Lib.hid (SA.out.below hb7)
  have SB := Lib.hid (SB.out.below hb7)
  have S4 := Lib.hid (S4.out.below hb7)
  have S6 := Lib.hid (S6.out.below hb7)
  have D7 := Lib.hid (decoded v7 (macN H n pay key) w7 (Bs.own own7) (macN_lt H n pay key) (by have := macN_len H n pay key; omega))
  clear own7 hb7 C6 SC
  go_wp2_with fail
  go_at_call 29
  refine D7.out.mono ?_
  rintro e w8 ⟨⟨v8, rfl, hv8⟩, hb8⟩
  have B8 := Lib.hid (B7.out.trans (hb8.mono B7.out.size))
  have SA := Lib.hid (SA.out.below hb8)
  have SB := Lib.hid (SB.out.below hb8)
  have S4 := Lib.hid (S4.out.below hb8)
  have S6 := Lib.hid (S6.out.below hb8)
  have S8 : Hid (Bs w8 v8 (macOf H key (sigB (headN n) pay))) := Lib.hid (by rw [macN, bi_toN (macOf_byt _ _ _)] at hv8; exact hv8)
  have C8 := Lib.hid (clone v4 _ w8 S4.out (by rw [bi_len, headN_len]; omega))
  clear hv8 hb8 D7
  go_wp2_with fail
  -- the algorithm
  go_at_call 7
  refine C8.out.mono ?_
  rintro e w9 ⟨v9, rfl, own9, hb9⟩
  have B9 := Lib.hid (B8.out.trans (hb9.mono B8.out.size))
  have SA := Lib.hid (SA.out.below hb9)
  have SB := Lib.hid (SB.out.below hb9)
  have S6 := Lib.hid (S6.out.below hb9)
  have S8 := Lib.hid (S8.out.below hb9)
  have HS := Lib.hid (headStringC 2 0 hK (hV n) sAlg v9 w9 (by rw [head_text, ← headN_bi]; exact Bs.own own9) (by omega) rfl (fun j hj => by omega) (by intro x hx; simp [sAlg] at hx; omega) (head_fit n))
  rw [eAlg, show strOfNums (hV n 0) = hsName n from (nm_eq n).symm] at HS
  clear own9 hb9 C8
  go_wp2_with fail
  go_at_call 30
  refine HS.out.mono ?_
  rintro e w10 ⟨rfl, hb10⟩
  have B10 := Lib.hid (B9.out.trans (hb10.out.mono B9.out.size))
  have SA := Lib.hid (SA.out.below hb10.out)
  have SB := Lib.hid (SB.out.below hb10.out)
  have S6 := Lib.hid (S6.out.below hb10.out)
  have S8 := Lib.hid (S8.out.below hb10.out)
  clear hb10 HS
  obtain ⟨pa, ca, rfl, _, _, _⟩ := id SA.out
  obtain ⟨pb, cb, rfl, _, _, _⟩ := id SB.out
  obtain ⟨W, hW⟩ : ∃ W : World, (w10.alloc (.cells #[.int .u8 46] 5)).alloc (.cells #[.slice pa (bi (B64.enc (headN n))).length ca, .slice (some ⟨w10.heap.size, 0, none⟩) 1 1, .slice pb (bi (B64.enc pay)).length cb] 22) = W := ⟨_, rfl⟩
  obtain ⟨hparts, hbW⟩ := parts3 hW SA.out SB.out
  have HCC := Lib.hid (concat _ 3 3 _ _ _ W hparts (by omega) (fun i hi => by
    unfold P3
    split
    · rw [bi_len, B64.enc_len, headN_len]; omega
    · split
      · simp
      · rw [bi_len, B64.enc_len]; omega) (by rw [cc3]; simp [sigB]; omega))
  rw [cc3] at HCC
  have BW := Lib.hid (B10.out.trans (hbW.mono B10.out.size))
  have S6 := Lib.hid (S6.out.below hbW)
  have S8 := Lib.hid (S8.out.below hbW)
  have HW := Lib.hid hW
  generalize (bi (B64.enc (headN n))).length = la at *
  generalize (bi (B64.enc pay)).length = lb at *
  have Hnm := Lib.hid (show hsName n = hsName n from rfl)
  obtain ⟨nm, hnm⟩ : ∃ nm, hsName n = nm := ⟨_, rfl⟩
  have HNM := Lib.hid hnm
  rw [hnm]
  clear hparts hbW hW Hnm hnm SA SB
  go_wp2_with fail
  rw [HW.out]
  go_at_call 31
  refine HCC.out.mono ?_
  rintro e w11 ⟨⟨v11, rfl, hv11⟩, hb11⟩
  have B11 := Lib.hid (BW.out.trans (hb11.mono BW.out.size))
  have S11 := Lib.hid hv11
  have S6 := Lib.hid (S6.out.below hb11)
  have S8 := Lib.hid (S8.out.below hb11)
  have C11 := Lib.hid (clone vk _ w11 (HKy.out.below B11.out) (by omega))
  clear hv11 hb11 HCC HW
  go_wp2_with fail
  go_at_call 7
  refine C11.out.mono ?_
  rintro e w12 ⟨v12, rfl, own12, hb12⟩
  have B12 := Lib.hid (B11.out.trans (hb12.mono B11.out.size))
  have S11 := Lib.hid (S11.out.below hb12)
  have S6 := Lib.hid (S6.out.below hb12)
  have S8 := Lib.hid (S8.out.below hb12)
  have hsl2 : (sigB (headN n) pay).length ≤ 65536 := by
    simp only [sigB, List.length_append, bi_len, B64.enc_len, List.length_cons, List.length_nil, headN_len]; omega
  have VF := Lib.hid (verifiedOf H nm (by rw [← HNM.out]; exact HA.out.of) (by rw [← HNM.out]; exact HA.out.mv) v11 v8 v12 (sigB (headN n) pay) key w12 S11.out S8.out (Bs.own own12) hsl2 hkl hpos (HKT.out.below B12.out HKT.out.lt))
  clear own12 hb12 hsl2 C11
  go_wp2_with fail
  go_at_call 25
  refine VF.out.mono ?_
  rintro e w13 ⟨rfl, hb13⟩
  have B13 := Lib.hid (B12.out.trans (hb13.mono B12.out.size))
  have S6 := Lib.hid (S6.out.below hb13)
  clear hb13 VF
  go_wp2_with fail
  refine bodyPost_ret (results_tmp4 rfl _ _ _) rfl ?_
  exact ⟨⟨_, _, rfl, S6⟩, B13⟩
end Go.Proofs.YtaemdppihpefnaaGreatDoor

/- laws.tokenMade and tokenRead over whatever header. -/
namespace Go.Proofs.YtaemdppihpefnaaGreatDoor
open Go.RowKit
set_option linter.unusedVariables false

def macG (H : HK) (hd pay : List Nat) (key : List Int) : List Nat := toN (macOf H key (sigB hd pay))
/-- The token of a header. -/
def tokG (H : HK) (hd pay : List Nat) (key : List Int) : List Int := joinB hd pay (macG H hd pay key)
theorem macG_lt (H : HK) (hd pay : List Nat) (key : List Int) : ∀ x ∈ macG H hd pay key, x < 256 := toN_lt (macOf_byt _ _ _)
theorem macG_len (H : HK) (hd pay : List Nat) (key : List Int) : (macG H hd pay key).length ≤ 64 := by rw [macG, toN_len, macOf_len]; exact H.size_le
theorem tokG_byt (H : HK) (hd pay : List Nat) (key : List Int) (hh : ∀ x ∈ hd, x < 256) (hp : ∀ x ∈ pay, x < 256) : Byt (tokG H hd pay key) :=
  byt_app (byt_app (sigB_byt hh hp) (fun x hx => by simp at hx; omega)) (bi_byt (enc_lt (macG_lt H hd pay key)))
theorem tokG_len (H : HK) (hd pay : List Nat) (key : List Int) (hl : hd.length ≤ 200) : (tokG H hd pay key).length ≤ pay.length * 4 / 3 + 500 := by
  have h1 := macG_len H hd pay key
  simp only [tokG, joinB, sigB, List.length_append, bi_len, B64.enc_len, List.length_cons, List.length_nil]
  omega

set_option maxRecDepth 100000 in
set_option maxHeartbeats 2000000 in
theorem tokenMadeG (H : HK) (n : Nat) (hd : List Nat) (hA : AlgOk n H) (vh vp vk : Value) (pay : List Nat) (key : List Int) (w : World) (hh : Bs w vh (bi (hd))) (hp : Bs w vp (bi pay)) (hk : Bs w vk key) (hdb : ∀ x ∈ hd, x < 256) (hdl : hd.length ≤ 200) (hpb : ∀ x ∈ pay, x < 256) (hpl : pay.length ≤ 20000) (hkl : key.length ≤ 65536) (hpos : 0 < key.length) (hkt : Row w H.kg H.kT H.kC) :
    Calls Tryz.prog 9 #[.string (hsName n), vh, vp, vk, .bool true] w fun e w' => (∃ v, e = .returned (.tuple #[v, .bool true]) ∧ Hid (Bs w' v (tokG H hd pay key)) ∧ Hid (Fresh w v)) ∧ Hid (Below w.heap.size w w') := by
  have HH := Lib.hid hh
  have HP := Lib.hid hp
  have HKy := Lib.hid hk
  have HPB := Lib.hid hpb
  have HDB := Lib.hid hdb
  have HKT := Lib.hid hkt
  have HA := Lib.hid hA
  have dn : ∀ (b : Bool) (wx : World), (Op.unary .not (.bool b)).run Tryz.prog wx = .ok (.bool (!b)) wx := fun _ _ => rfl
  have C1 := Lib.hid (clone vh _ w hh (by rw [bi_len]; omega))
  have HNM := Lib.hid (rfl : hsName n = hsName n)
  generalize hnm : hsName n = nm
  have Hnm := Lib.hid hnm
  clear hh hp hk hdb hpb hkt hA hnm HNM
  go_enter Tryz.func9, Tryz.ntmps9
  go_wp2_with fail
  go_at_call 7
  refine C1.out.mono ?_
  rintro e w1 ⟨v1, rfl, own1, hb1⟩
  have B1 := Lib.hid hb1
  have S1 := Lib.hid (Bs.own own1)
  have C2 := Lib.hid (clone vp _ w1 (HP.out.below hb1) (by rw [bi_len]; omega))
  clear own1 hb1 C1
  go_wp2_with fail
  go_at_call 7
  refine C2.out.mono ?_
  rintro e w2 ⟨v2, rfl, own2, hb2⟩
  have B2 := Lib.hid (B1.out.trans (hb2.mono B1.out.size))
  have S2 := Lib.hid (Bs.own own2)
  have S1 := Lib.hid (S1.out.below hb2)
  have SG := Lib.hid (signing v1 v2 (hd) pay w2 S1.out S2.out HDB.out HPB.out (by omega) (by omega))
  clear own2 hb2 C2
  go_wp2_with fail
  go_at_call 26
  refine SG.out.mono ?_
  rintro e w3 ⟨⟨v3, rfl, hv3⟩, hb3⟩
  have B3 := Lib.hid (B2.out.trans (hb3.mono B2.out.size))
  have S3 := Lib.hid hv3
  have C4 := Lib.hid (clone vk _ w3 (HKy.out.below B3.out) (by omega))
  clear hv3 hb3 SG
  go_wp2_with fail
  go_at_call 7
  refine C4.out.mono ?_
  rintro e w4 ⟨v4, rfl, own4, hb4⟩
  have B4 := Lib.hid (B3.out.trans (hb4.mono B3.out.size))
  have S4 := Lib.hid (Bs.own own4)
  have S3 := Lib.hid (S3.out.below hb4)
  have hsl := sigB_len (hd) pay (by omega) (by omega)
  have hsl2 : (sigB (hd) pay).length ≤ 65536 := by
    simp only [sigB, List.length_append, bi_len, B64.enc_len, List.length_cons, List.length_nil] ; omega
  have SI := Lib.hid (signedOf H nm (by rw [← Hnm.out]; exact HA.out.of) (by rw [← Hnm.out]; exact HA.out.sg) v3 v4 (sigB (hd) pay) key w4 S3.out S4.out hsl2 hkl hpos (HKT.out.below B4.out HKT.out.lt))
  clear own4 hb4 C4 hsl hsl2
  go_wp2_with fail
  go_at_call 24
  refine SI.out.mono ?_
  rintro e w5 ⟨v5, rfl, own5, hb5⟩
  have B5 := Lib.hid (B4.out.trans (hb5.mono B4.out.size))
  have S5 : Hid (Bs w5 v5 (bi (macG H hd pay key))) := Lib.hid (by rw [macG, bi_toN (macOf_byt _ _ _)]; exact Bs.own own5)
  have C6 := Lib.hid (clone vh _ w5 (HH.out.below B5.out) (by rw [bi_len]; omega))
  clear own5 hb5 SI S3 S4
  go_wp2_with fail
  go_at_call 7
  refine C6.out.mono ?_
  rintro e w6 ⟨v6, rfl, own6, hb6⟩
  have B6 := Lib.hid (B5.out.trans (hb6.mono B5.out.size))
  have S6 := Lib.hid (Bs.own own6)
  have S5 := Lib.hid (S5.out.below hb6)
  have C7 := Lib.hid (clone vp _ w6 (HP.out.below B6.out) (by rw [bi_len]; omega))
  clear own6 hb6 C6
  go_wp2_with fail
  go_at_call 7
  refine C7.out.mono ?_
  rintro e w7 ⟨v7, rfl, own7, hb7⟩
  have B7 := Lib.hid (B6.out.trans (hb7.mono B6.out.size))
  have S7 := Lib.hid (Bs.own own7)
  have S5 := Lib.hid (S5.out.below hb7)
  have S6 := Lib.hid (S6.out.below hb7)
  have JO := Lib.hid (joined v6 v7 v5 (hd) pay (macG H hd pay key) w7 S6.out S7.out S5.out HDB.out HPB.out (macG_lt H hd pay key) (by omega) (by omega) (by have := macG_len H hd pay key; omega))
  clear own7 hb7 C7
  go_wp2_with fail
  go_at_call 27
  refine JO.out.mono ?_
  rintro e w8 ⟨⟨v8, rfl, hv8, hf8⟩, hb8⟩
  have HF8 : Hid (Fresh w v8) := Lib.hid (fun k hk => Nat.le_trans B7.out.size (hf8 k hk))
  have B8 := Lib.hid (B7.out.trans (hb8.mono B7.out.size))
  have S8 := Lib.hid hv8
  clear hv8 hb8 hf8 JO
  go_wp2_with fail
  go_ret2
  exact ⟨⟨v8, rfl, S8, HF8⟩, B8⟩

set_option maxRecDepth 100000 in
set_option maxHeartbeats 4000000 in
theorem tokenReadG (H : HK) (n : Nat) (hd : List Nat) (hA : AlgOk n H) (vt vk : Value) (pay : List Nat) (key : List Int) (w : World) (ht : Bs w vt (tokG H hd pay key)) (hk : Bs w vk key) (hdb : ∀ x ∈ hd, x < 256) (hdl : hd.length ≤ 200) (hpb : ∀ x ∈ pay, x < 256) (hpl : pay.length ≤ 20000) (hkl : key.length ≤ 65536) (hpos : 0 < key.length) (hkt : Row w H.kg H.kT H.kC) (he : Ev w) (m : Nat) (K V : Nat → List Int) (hjt : jtext K V m = bi hd) (hk0 : K 0 = sAlg) (hv0 : V 0 = nmI n) (hm : 0 < m) (hfit : Fit K V m) :
    Calls Tryz.prog 11 #[vt, vk] w fun e w' => (∃ v1 v2, e = .returned (.tuple #[v1, v2, .bool true, .bool true]) ∧ Hid (Bs w' v2 (bi pay))) ∧ Hid (Below w.heap.size w w') := by
  have HKy := Lib.hid hk
  have HPB := Lib.hid hpb
  have HDB := Lib.hid hdb
  have HKT := Lib.hid hkt
  have HA := Lib.hid hA
  have HE := Lib.hid he
  have HJT := Lib.hid hjt
  have HK0 := Lib.hid hk0
  have HV0 := Lib.hid hv0
  have HFT := Lib.hid hfit
  have dn : ∀ (b : Bool) (wx : World), (Op.unary .not (.bool b)).run Tryz.prog wx = .ok (.bool (!b)) wx := fun _ _ => rfl
  have htl := tokG_len H hd pay key hdl
  have C1 := Lib.hid (clone vt _ w ht (by omega))
  have HTL := Lib.hid htl
  clear ht hk hdb hpb hkt hA he hjt hk0 hv0 hfit htl
  go_enter Tryz.func11, Tryz.ntmps11
  go_wp2_with fail
  go_at_call 7
  refine C1.out.mono ?_
  rintro e w1 ⟨v1, rfl, own1, hb1⟩
  have B1 := Lib.hid hb1
  have S := Lib.hid (split v1 (tokG H hd pay key) w1 (Bs.own own1) (by have := HTL.out; omega) (HE.out.below hb1))
  clear own1 hb1 C1
  go_wp2_with fail
  go_at_call 18
  refine S.out.mono ?_
  rintro e w2 ⟨hs4, hb2⟩
  obtain ⟨p0, p1, p2, p3⟩ := tok_parts hd pay (macG H hd pay key) HDB.out HPB.out (macG_lt H hd pay key)
  have hs4 : Split4 w2 (joinB hd pay (macG H hd pay key)) e := hs4
  rw [Split4, p0, if_pos rfl, p1, p2, p3] at hs4
  obtain ⟨a, b, c, rfl, ha, hb, hc⟩ := hs4
  have SA := Lib.hid ha
  have SB := Lib.hid hb
  have SC := Lib.hid hc
  have B2 := Lib.hid (B1.out.trans (hb2.mono B1.out.size))
  have C2 := Lib.hid (clone a _ w2 ha (by rw [bi_len, B64.enc_len] ; omega))
  clear ha hb hc hb2 S p0 p1 p2 p3
  go_wp2_with fail
  -- the header
  go_at_call 7
  refine C2.out.mono ?_
  rintro e w3 ⟨v3, rfl, own3, hb3⟩
  have B3 := Lib.hid (B2.out.trans (hb3.mono B2.out.size))
  have SA := Lib.hid (SA.out.below hb3)
  have SB := Lib.hid (SB.out.below hb3)
  have SC := Lib.hid (SC.out.below hb3)
  have D3 := Lib.hid (decoded v3 hd w3 (Bs.own own3) HDB.out (by omega))
  clear own3 hb3 C2
  go_wp2_with fail
  go_at_call 29
  refine D3.out.mono ?_
  rintro e w4 ⟨⟨v4, rfl, hv4⟩, hb4⟩
  have B4 := Lib.hid (B3.out.trans (hb4.mono B3.out.size))
  have SA := Lib.hid (SA.out.below hb4)
  have SB := Lib.hid (SB.out.below hb4)
  have SC := Lib.hid (SC.out.below hb4)
  have S4 := Lib.hid hv4
  have C4 := Lib.hid (clone b _ w4 SB.out (by rw [bi_len, B64.enc_len]; omega))
  clear hv4 hb4 D3
  go_wp2_with fail
  -- the payload
  go_at_call 7
  refine C4.out.mono ?_
  rintro e w5 ⟨v5, rfl, own5, hb5⟩
  have B5 := Lib.hid (B4.out.trans (hb5.mono B4.out.size))
  have SA := Lib.hid (SA.out.below hb5)
  have SB := Lib.hid (SB.out.below hb5)
  have SC := Lib.hid (SC.out.below hb5)
  have S4 := Lib.hid (S4.out.below hb5)
  have D5 := Lib.hid (decoded v5 pay w5 (Bs.own own5) HPB.out (by omega))
  clear own5 hb5 C4
  go_wp2_with fail
  go_at_call 29
  refine D5.out.mono ?_
  rintro e w6 ⟨⟨v6, rfl, hv6⟩, hb6⟩
  have B6 := Lib.hid (B5.out.trans (hb6.mono B5.out.size))
  have SA := Lib.hid (SA.out.below hb6)
  have SB := Lib.hid (SB.out.below hb6)
  have SC := Lib.hid (SC.out.below hb6)
  have S4 := Lib.hid (S4.out.below hb6)
  have S6 := Lib.hid hv6
  have C6 := Lib.hid (clone c _ w6 SC.out (by rw [bi_len, B64.enc_len]; have := macG_len H hd pay key; omega))
  clear hv6 hb6 D5
  go_wp2_with fail
  -- the signature
  go_at_call 7
  refine C6.out.mono ?_
  rintro e w7 ⟨v7, rfl, own7, hb7⟩
  have B7 := Lib.hid (B6.out.trans (hb7.mono B6.out.size))
  have SA := Lib.hid (SA.out.below hb7)
  have SB := Lib.hid (SB.out.below hb7)
  have S4 := Lib.hid (S4.out.below hb7)
  have S6 := Lib.hid (S6.out.below hb7)
  have D7 := Lib.hid (decoded v7 (macG H hd pay key) w7 (Bs.own own7) (macG_lt H hd pay key) (by have := macG_len H hd pay key; omega))
  clear own7 hb7 C6 SC
  go_wp2_with fail
  go_at_call 29
  refine D7.out.mono ?_
  rintro e w8 ⟨⟨v8, rfl, hv8⟩, hb8⟩
  have B8 := Lib.hid (B7.out.trans (hb8.mono B7.out.size))
  have SA := Lib.hid (SA.out.below hb8)
  have SB := Lib.hid (SB.out.below hb8)
  have S4 := Lib.hid (S4.out.below hb8)
  have S6 := Lib.hid (S6.out.below hb8)
  have S8 : Hid (Bs w8 v8 (macOf H key (sigB hd pay))) := Lib.hid (by rw [macG, bi_toN (macOf_byt _ _ _)] at hv8; exact hv8)
  have C8 := Lib.hid (clone v4 _ w8 S4.out (by rw [bi_len]; omega))
  clear hv8 hb8 D7
  go_wp2_with fail
  -- the algorithm
  go_at_call 7
  refine C8.out.mono ?_
  rintro e w9 ⟨v9, rfl, own9, hb9⟩
  have B9 := Lib.hid (B8.out.trans (hb9.mono B8.out.size))
  have SA := Lib.hid (SA.out.below hb9)
  have SB := Lib.hid (SB.out.below hb9)
  have S6 := Lib.hid (S6.out.below hb9)
  have S8 := Lib.hid (S8.out.below hb9)
  have HS := Lib.hid (headStringC m 0 K V sAlg v9 w9 (by rw [HJT.out]; exact Bs.own own9) hm HK0.out (fun j hj => by omega) (by intro x hx; simp [sAlg] at hx; omega) HFT.out)
  rw [eAlg, show strOfNums (V 0) = hsName n by rw [HV0.out, nm_eq]] at HS
  clear own9 hb9 C8
  go_wp2_with fail
  go_at_call 30
  refine HS.out.mono ?_
  rintro e w10 ⟨rfl, hb10⟩
  have B10 := Lib.hid (B9.out.trans (hb10.out.mono B9.out.size))
  have SA := Lib.hid (SA.out.below hb10.out)
  have SB := Lib.hid (SB.out.below hb10.out)
  have S6 := Lib.hid (S6.out.below hb10.out)
  have S8 := Lib.hid (S8.out.below hb10.out)
  clear hb10 HS
  obtain ⟨pa, ca, rfl, _, _, _⟩ := id SA.out
  obtain ⟨pb, cb, rfl, _, _, _⟩ := id SB.out
  obtain ⟨W, hW⟩ : ∃ W : World, (w10.alloc (.cells #[.int .u8 46] 5)).alloc (.cells #[.slice pa (bi (B64.enc hd)).length ca, .slice (some ⟨w10.heap.size, 0, none⟩) 1 1, .slice pb (bi (B64.enc pay)).length cb] 22) = W := ⟨_, rfl⟩
  obtain ⟨hparts, hbW⟩ := parts3 hW SA.out SB.out
  have HCC := Lib.hid (concat _ 3 3 _ _ _ W hparts (by omega) (fun i hi => by
    unfold P3
    split
    · rw [bi_len, B64.enc_len] ; omega
    · split
      · simp
      · rw [bi_len, B64.enc_len]; omega) (by rw [cc3]; simp [sigB]; omega))
  rw [cc3] at HCC
  have BW := Lib.hid (B10.out.trans (hbW.mono B10.out.size))
  have S6 := Lib.hid (S6.out.below hbW)
  have S8 := Lib.hid (S8.out.below hbW)
  have HW := Lib.hid hW
  generalize (bi (B64.enc hd)).length = la at *
  generalize (bi (B64.enc pay)).length = lb at *
  have Hnm := Lib.hid (show hsName n = hsName n from rfl)
  obtain ⟨nm, hnm⟩ : ∃ nm, hsName n = nm := ⟨_, rfl⟩
  have HNM := Lib.hid hnm
  rw [hnm]
  clear hparts hbW hW Hnm hnm SA SB
  go_wp2_with fail
  rw [HW.out]
  go_at_call 31
  refine HCC.out.mono ?_
  rintro e w11 ⟨⟨v11, rfl, hv11⟩, hb11⟩
  have B11 := Lib.hid (BW.out.trans (hb11.mono BW.out.size))
  have S11 := Lib.hid hv11
  have S6 := Lib.hid (S6.out.below hb11)
  have S8 := Lib.hid (S8.out.below hb11)
  have C11 := Lib.hid (clone vk _ w11 (HKy.out.below B11.out) (by omega))
  clear hv11 hb11 HCC HW
  go_wp2_with fail
  go_at_call 7
  refine C11.out.mono ?_
  rintro e w12 ⟨v12, rfl, own12, hb12⟩
  have B12 := Lib.hid (B11.out.trans (hb12.mono B11.out.size))
  have S11 := Lib.hid (S11.out.below hb12)
  have S6 := Lib.hid (S6.out.below hb12)
  have S8 := Lib.hid (S8.out.below hb12)
  have hsl2 : (sigB hd pay).length ≤ 65536 := by
    simp only [sigB, List.length_append, bi_len, B64.enc_len, List.length_cons, List.length_nil] ; omega
  have VF := Lib.hid (verifiedOf H nm (by rw [← HNM.out]; exact HA.out.of) (by rw [← HNM.out]; exact HA.out.mv) v11 v8 v12 (sigB hd pay) key w12 S11.out S8.out (Bs.own own12) hsl2 hkl hpos (HKT.out.below B12.out HKT.out.lt))
  clear own12 hb12 hsl2 C11
  go_wp2_with fail
  go_at_call 25
  refine VF.out.mono ?_
  rintro e w13 ⟨rfl, hb13⟩
  have B13 := Lib.hid (B12.out.trans (hb13.mono B12.out.size))
  have S6 := Lib.hid (S6.out.below hb13)
  clear hb13 VF
  go_wp2_with fail
  refine bodyPost_ret (results_tmp4 rfl _ _ _) rfl ?_
  exact ⟨⟨_, _, rfl, S6⟩, B13⟩
end Go.Proofs.YtaemdppihpefnaaGreatDoor

/- laws.tokenHead, with a key's name and no style. -/
namespace Go.Proofs.YtaemdppihpefnaaGreatDoor
open Go.RowKit
set_option linter.unusedVariables false

def sKid : List Int := [107, 105, 100]
theorem eKid : strOfNums sKid = (⟨#[107, 105, 100]⟩ : ByteArray) := by kernel_rfl
/-- The header's fields. -/
def kK (i : Nat) : List Int := if i = 0 then sAlg else if i = 1 then sTyp else sKid
def kV (xs id : List Int) (i : Nat) : List Int := if i = 0 then xs else if i = 1 then sJwt else id
/-- The header of an algorithm's name and a key's name. -/
def headKB (xs id : List Int) : List Int := jtext kK (kV xs id) 3
theorem headKB_rend (xs id : List Int) : 123 :: (rend kK (kV xs id) 3 ++ [125]) = headKB xs id := by
  simp [rend, headKB, jtext, jrest, kK, kV, item]
theorem kFit {xs id : List Int} (hx : Plain xs) (hi : Plain id) (hxl : xs.length ≤ 50) (hil : id.length ≤ 50) (hx0 : 0 < xs.length) (hi0 : 0 < id.length) : Fit kK (kV xs id) 3 where
  n0 := by omega
  n10 := by omega
  kB := fun i => by unfold kK; split; (intro x hx; simp [sAlg] at hx; omega); split <;> (intro x hx; simp [sTyp, sKid] at hx; omega)
  vB := fun i => by
    unfold kV
    split
    · intro x h; have := hx x h; omega
    · split
      · intro x hx; simp [sJwt] at hx; omega
      · intro x h; have := hi x h; omega
  kL := fun i => by unfold kK; split; simp [sAlg]; split <;> simp [sTyp, sKid]
  vL := fun i => by unfold kV; split; omega; split; simp [sJwt]; omega
  vP := fun i => by unfold kV; split; omega; split; simp [sJwt]; omega
theorem headKB_len {xs id : List Int} : (headKB xs id).length = xs.length + id.length + 31 := by
  simp [← headKB_rend, rend, kK, kV, item, sAlg, sTyp, sKid, sJwt]; omega

theorem kid_fld (id : List Int) : fld sKid id = [.string (⟨#[107, 105, 100]⟩ : ByteArray), .int .u8 3, .bool false, .bool false, .int .u64 0, .string (strOfNums id), .slice none 0 0] := by
  simp only [fld, eKid]

def X14 (xs : List Int) : Array Value := #[.string (⟨#[97, 108, 103]⟩ : ByteArray), .int .u8 3, .bool false, .bool false, .int .u64 0, .string (strOfNums xs), .slice none 0 0, .string (⟨#[116, 121, 112]⟩ : ByteArray), .int .u8 3, .bool false, .bool false, .int .u64 0, .string (⟨#[74, 87, 84]⟩ : ByteArray), .slice none 0 0]
def Y7 (id : List Int) : Array Value := #[.string (⟨#[107, 105, 100]⟩ : ByteArray), .int .u8 3, .bool false, .bool false, .int .u64 0, .string (strOfNums id), .slice none 0 0]
theorem cells21 (xs id : List Int) (Z : Array Value) : X14 xs ++ (Y7 id ++ Z) = ((fld sAlg xs ++ fld sTyp sJwt) ++ fld sKid id ++ Z.toList).toArray := by
  rw [two_flds, kid_fld]
  apply Array.toList_inj.1
  simp [X14, Y7]

theorem text3 (xs id : List Int) (hx : Plain xs) (hi : Plain id) (hl : xs.length ≤ 50) (hil : id.length ≤ 50) (w : World) (Z : Array Value) (c : Nat) (hc : 3 ≤ c) :
    Calls Tryz.prog 28 #[.slice (some ⟨w.heap.size + 1 + 1, 0, none⟩) 3 c, .int .u64 0] ((((w.alloc (.cells (X14 xs) 68)).alloc (.cells (Y7 id) 68)).alloc (.cells (X14 xs ++ (Y7 id ++ Z)) 68)).drew) fun e w' => e = .returned (.string (strOfNums (headKB xs id))) ∧ Below w.heap.size w w' := by
  obtain ⟨W0, hW0⟩ : ∃ W0 : World, W0 = (w.alloc (.cells (X14 xs) 68)).alloc (.cells (Y7 id) 68) := ⟨_, rfl⟩
  have hs0 : W0.heap.size = w.heap.size + 1 + 1 := by rw [hW0]; simp
  have hb0 : Below w.heap.size w W0 := by rw [hW0]; exact ((Below.refl _ _).alloc (Nat.le_refl _) _).alloc (by simp) _
  rw [← hW0]
  obtain ⟨W, hW⟩ : ∃ W : World, W = (W0.alloc (.cells (X14 xs ++ (Y7 id ++ Z)) 68)).drew := ⟨_, rfl⟩
  have hr : Row W (w.heap.size + 1 + 1) 68 ((fld sAlg xs ++ fld sTyp sJwt) ++ fld sKid id ++ Z.toList) := by
    rw [hW, cells21, ← hs0]
    exact row_drewd (Row.alloc W0 _ _)
  have hb : Below w.heap.size w W := by rw [hW]; exact below_drewd (hb0.alloc hb0.size _)
  rw [← hW]
  refine (headText (w.heap.size + 1 + 1) c 3 kK (kV xs id) W hr.lt ?_ (by omega) hc ?_ ?_ ?_ ?_).mono ?_
  · intro i hi j v hj
    have hj7 : j < 7 := by have := (List.getElem?_eq_some_iff.1 hj).1; simpa [fld] using this
    have hc3 : i = 0 ∨ i = 1 ∨ i = 2 := by omega
    rw [hr.cell]
    rcases hc3 with rfl | rfl | rfl
    · rw [List.getElem?_append_left (by simp [fld]; omega), List.getElem?_append_left (by simp [fld]; omega), List.getElem?_append_left (by simp [fld]; omega), show 7 * 0 + j = j by omega]
      exact hj
    · rw [List.getElem?_append_left (by simp [fld]; omega), List.getElem?_append_left (by simp [fld]; omega), List.getElem?_append_right (by simp [fld]), show 7 * 1 + j - (fld sAlg xs).length = j by simp [fld]]
      exact hj
    · rw [List.getElem?_append_left (by simp [fld]; omega), List.getElem?_append_right (by simp [fld]), show 7 * 2 + j - (fld sAlg xs ++ fld sTyp sJwt).length = j by simp [fld]]
      exact hj
  · intro i hi; unfold kK; split; (intro x hx; simp [sAlg] at hx; omega); split <;> (intro x hx; simp [sTyp, sKid] at hx; omega)
  · intro i hi'; unfold kV; split; exact hx; split; (intro x hx; simp [sJwt] at hx; omega); exact hi
  · intro i hi; unfold kK; split; simp [sAlg]; split <;> simp [sTyp, sKid]
  · intro i hi; unfold kV; split; omega; split; simp [sJwt]; omega
  · rintro e w' ⟨rfl, hb'⟩
    rw [headKB_rend]
    exact ⟨rfl, hb.trans (hb'.mono hb.size)⟩

set_option maxRecDepth 100000 in
set_option maxHeartbeats 2000000 in
theorem tokenHeadK (xs id : List Int) (hx : Plain xs) (hi : Plain id) (hl : xs.length ≤ 50) (hil : id.length ≤ 50) (hx0 : 0 < xs.length) (hi0 : 0 < id.length) (w : World) :
    Calls Tryz.prog 10 #[.string (strOfNums xs), .string (strOfNums id), .int .u64 0] w fun e w' => (∃ v, e = .returned v ∧ Bs w' v (headKB xs id)) ∧ Below w.heap.size w w' := by
  have HT := Lib.hid (text3 xs id hx hi hl hil w)
  have hge := grownCap_ge w 3 2 68
  unfold grownCap at hge
  have HGE := Lib.hid hge
  have HX := Lib.hid (jtext_byt (kFit hx hi hl hil hx0 hi0))
  have hne : (strOfNums id).toList.isEmpty = false := by
    cases id with
    | nil => simp at hi0
    | cons x r => rw [Lib.strOfNums_toList]; rfl
  clear hge hx hi
  go_enter Tryz.func10, Tryz.ntmps10
  go_wp2_with fail
  go_at_call 28
  refine (HT.out _ _ HGE.out).mono ?_
  rintro e w2 ⟨rfl, hb2⟩
  have HB2 := Lib.hid hb2
  obtain ⟨v, w3, hrun, hv, hb3⟩ := run_bytesS (P := Tryz.prog) 9 22 5 Tryz.underlying9 Tryz.underlying22 Tryz.underlying5 (headKB xs id) HX.out w2
  have HV := Lib.hid hv
  have HB3 := Lib.hid (HB2.out.trans (hb3.mono HB2.out.size))
  clear hb2 hv hb3
  go_wp2_with fail
  go_ret
  exact ⟨⟨v, rfl, HV.out⟩, HB3.out⟩
end Go.Proofs.YtaemdppihpefnaaGreatDoor
