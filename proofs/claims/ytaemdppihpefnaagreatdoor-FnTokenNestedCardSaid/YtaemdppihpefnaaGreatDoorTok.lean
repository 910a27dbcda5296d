/- laws.tokenMade: a compact token, over whatever hash the algorithm has. -/
import Derived.Test.YtaemdppihpefnaaGreatDoorHeadKit
import Derived.Test.YtaemdppihpefnaaGreatDoorBsB
import Derived.Test.YtaemdppihpefnaaGreatDoorBsD
import Derived.Test.YtaemdppihpefnaaGreatDoorJsB
import Derived.Test.YtaemdppihpefnaaGreatDoorAlgOk
import Derived.Test.YtaemdppihpefnaaGreatDoorDotKit
import Derived.Test.YtaemdppihpefnaaGreatDoorFits
import Derived.Test.YtaemdppihpefnaaGreatDoorOpened
namespace Go.Proofs.YtaemdppihpefnaaGreatDoor
open Go.RowKit
set_option linter.unusedVariables false

def toN (xs : List Int) : List Nat := xs.map Int.toNat
theorem bi_toN {xs : List Int} (h : Byt xs) : bi (toN xs) = xs := by
  apply List.ext_getElem
  · simp [bi, toN]
  · intro i h1 h2
    have := h xs[i] (List.getElem_mem h2)
    simp [bi, toN]
    omega
theorem toN_lt {xs : List Int} (h : Byt xs) : ∀ x ∈ toN xs, x < 256 := by
  intro x hx
  obtain ⟨y, hy, rfl⟩ := List.mem_map.1 hx
  have := h y hy
  omega
theorem toN_len (xs : List Int) : (toN xs).length = xs.length := by simp [toN]
theorem toN_bi (xs : List Nat) : toN (bi xs) = xs := by
  apply List.ext_getElem
  · simp [bi, toN]
  · intro i h1 h2; simp [bi, toN]

/-- An algorithm's name. -/
def nmI (n : Nat) : List Int := if n = 0 then [72, 83, 50, 53, 54] else if n = 1 then [72, 83, 51, 56, 52] else [72, 83, 53, 49, 50]
theorem nm0 : (⟨#[72, 83, 50, 53, 54]⟩ : ByteArray) = strOfNums [72, 83, 50, 53, 54] := by kernel_rfl
theorem nm1 : (⟨#[72, 83, 51, 56, 52]⟩ : ByteArray) = strOfNums [72, 83, 51, 56, 52] := by kernel_rfl
theorem nm2 : (⟨#[72, 83, 53, 49, 50]⟩ : ByteArray) = strOfNums [72, 83, 53, 49, 50] := by kernel_rfl
theorem nm_eq (n : Nat) : hsName n = strOfNums (nmI n) := by
  unfold hsName nmI
  split
  · exact nm0
  · split
    · exact nm1
    · exact nm2
theorem nm_len (n : Nat) : (nmI n).length = 5 := by unfold nmI; split; rfl; split <;> rfl
theorem nm_plain (n : Nat) : Plain (nmI n) := by
  unfold nmI
  intro x hx
  split at hx
  · simp at hx; omega
  · split at hx <;> (simp at hx; omega)

def headN (n : Nat) : List Nat := toN (headB (nmI n))
theorem headN_bi (n : Nat) : bi (headN n) = headB (nmI n) := bi_toN (headB_byt (nm_plain n).byt)
theorem headN_lt (n : Nat) : ∀ x ∈ headN n, x < 256 := toN_lt (headB_byt (nm_plain n).byt)
theorem headN_len (n : Nat) : (headN n).length = 27 := by rw [headN, toN_len, headB_len, nm_len]

def macN (H : HK) (n : Nat) (pay : List Nat) (key : List Int) : List Nat := toN (macOf H key (sigB (headN n) pay))
/-- The token. -/
def tokB (H : HK) (n : Nat) (pay : List Nat) (key : List Int) : List Int := joinB (headN n) pay (macN H n pay key)

theorem byt_app {a b : List Int} (ha : Byt a) (hb : Byt b) : Byt (a ++ b) := fun x hx => by
  rcases List.mem_append.1 hx with h | h
  · exact ha x h
  · exact hb x h
theorem enc_lt {xs : List Nat} (h : ∀ x ∈ xs, x < 256) : ∀ c ∈ B64.enc xs, c < 256 := fun c hc => (lets (B64.enc_letters xs h c hc)).2.2.2.2
theorem sigB_byt {xs ys : List Nat} (hx : ∀ x ∈ xs, x < 256) (hy : ∀ x ∈ ys, x < 256) : Byt (sigB xs ys) :=
  byt_app (byt_app (bi_byt (enc_lt hx)) (fun x hx => by simp at hx; omega)) (bi_byt (enc_lt hy))
theorem macN_lt (H : HK) (n : Nat) (pay : List Nat) (key : List Int) : ∀ x ∈ macN H n pay key, x < 256 := toN_lt (macOf_byt _ _ _)
theorem macN_len (H : HK) (n : Nat) (pay : List Nat) (key : List Int) : (macN H n pay key).length ≤ 64 := by rw [macN, toN_len, macOf_len]; exact H.size_le
theorem tokB_byt (H : HK) (n : Nat) (pay : List Nat) (key : List Int) (hp : ∀ x ∈ pay, x < 256) : Byt (tokB H n pay key) :=
  byt_app (byt_app (sigB_byt (headN_lt n) hp) (fun x hx => by simp at hx; omega)) (bi_byt (enc_lt (macN_lt H n pay key)))
theorem tokB_len (H : HK) (n : Nat) (pay : List Nat) (key : List Int) : (tokB H n pay key).length ≤ pay.length * 4 / 3 + 200 := by
  have h1 := macN_len H n pay key
  have h2 := headN_len n
  simp only [tokB, joinB, sigB, List.length_append, bi_len, B64.enc_len, List.length_cons, List.length_nil]
  omega

set_option maxRecDepth 100000 in
set_option maxHeartbeats 2000000 in
theorem tokenMade (H : HK) (n : Nat) (hA : AlgOk n H) (vh vp vk : Value) (pay : List Nat) (key : List Int) (w : World) (hh : Bs w vh (bi (headN n))) (hp : Bs w vp (bi pay)) (hk : Bs w vk key) (hpb : ∀ x ∈ pay, x < 256) (hpl : pay.length ≤ 20000) (hkl : key.length ≤ 65536) (hpos : 0 < key.length) (hkt : Row w H.kg H.kT H.kC) :
    Calls Tryz.prog 9 #[.string (hsName n), vh, vp, vk, .bool true] w fun e w' => (∃ v, e = .returned (.tuple #[v, .bool true]) ∧ Hid (Bs w' v (tokB H n pay key))) ∧ Hid (Below w.heap.size w w') := by
  have HH := Lib.hid hh
  have HP := Lib.hid hp
  have HKy := Lib.hid hk
  have HPB := Lib.hid hpb
  have HKT := Lib.hid hkt
  have HA := Lib.hid hA
  have dn : ∀ (b : Bool) (wx : World), (Op.unary .not (.bool b)).run Tryz.prog wx = .ok (.bool (!b)) wx := fun _ _ => rfl
  have C1 := Lib.hid (clone vh _ w hh (by rw [bi_len, headN_len]; omega))
  have HNM := Lib.hid (rfl : hsName n = hsName n)
  generalize hnm : hsName n = nm
  have Hnm := Lib.hid hnm
  clear hh hp hk hpb hkt hA hnm HNM
  go_enter Tryz.func9, Tryz.ntmps9
  go_wp2_with fail
  go_at_call 7
  refine C1.out.mono ?_
  rintro e w1 ⟨v1, rfl, own1, hb1⟩
  have B1 := Lib.hid hb1
  have S1 := Lib.hid (Bs.own own1)
  have C2 := Lib.hid (clone vp _ w1 (HP.out.below hb1) (by rw [bi_len]; omega))
  clear own1 hb1 C1
  go_wp2_with fail
  go_at_call 7
  refine C2.out.mono ?_
  rintro e w2 ⟨v2, rfl, own2, hb2⟩
  have B2 := Lib.hid (B1.out.trans (hb2.mono B1.out.size))
  have S2 := Lib.hid (Bs.own own2)
  have S1 := Lib.hid (S1.out.below hb2)
  have SG := Lib.hid (signing v1 v2 (headN n) pay w2 S1.out S2.out (headN_lt n) HPB.out (by rw [headN_len]; omega) (by omega))
  clear own2 hb2 C2
  go_wp2_with fail
  go_at_call 26
  refine SG.out.mono ?_
  rintro e w3 ⟨⟨v3, rfl, hv3⟩, hb3⟩
  have B3 := Lib.hid (B2.out.trans (hb3.mono B2.out.size))
  have S3 := Lib.hid hv3
  have C4 := Lib.hid (clone vk _ w3 (HKy.out.below B3.out) (by omega))
  clear hv3 hb3 SG
  go_wp2_with fail
  go_at_call 7
  refine C4.out.mono ?_
  rintro e w4 ⟨v4, rfl, own4, hb4⟩
  have B4 := Lib.hid (B3.out.trans (hb4.mono B3.out.size))
  have S4 := Lib.hid (Bs.own own4)
  have S3 := Lib.hid (S3.out.below hb4)
  have hsl := sigB_len (headN n) pay (by rw [headN_len]; omega) (by omega)
  have hsl2 : (sigB (headN n) pay).length ≤ 65536 := by
    simp only [sigB, List.length_append, bi_len, B64.enc_len, List.length_cons, List.length_nil, headN_len]; omega
  have SI := Lib.hid (signedOf H nm (by rw [← Hnm.out]; exact HA.out.of) (by rw [← Hnm.out]; exact HA.out.sg) v3 v4 (sigB (headN n) pay) key w4 S3.out S4.out hsl2 hkl hpos (HKT.out.below B4.out HKT.out.lt))
  clear own4 hb4 C4 hsl hsl2
  go_wp2_with fail
  go_at_call 24
  refine SI.out.mono ?_
  rintro e w5 ⟨v5, rfl, own5, hb5⟩
  have B5 := Lib.hid (B4.out.trans (hb5.mono B4.out.size))
  have S5 : Hid (Bs w5 v5 (bi (macN H n pay key))) := Lib.hid (by rw [macN, bi_toN (macOf_byt _ _ _)]; exact Bs.own own5)
  have C6 := Lib.hid (clone vh _ w5 (HH.out.below B5.out) (by rw [bi_len, headN_len]; omega))
  clear own5 hb5 SI S3 S4
  go_wp2_with fail
  go_at_call 7
  refine C6.out.mono ?_
  rintro e w6 ⟨v6, rfl, own6, hb6⟩
  have B6 := Lib.hid (B5.out.trans (hb6.mono B5.out.size))
  have S6 := Lib.hid (Bs.own own6)
  have S5 := Lib.hid (S5.out.below hb6)
  have C7 := Lib.hid (clone vp _ w6 (HP.out.below B6.out) (by rw [bi_len]; omega))
  clear own6 hb6 C6
  go_wp2_with fail
  go_at_call 7
  refine C7.out.mono ?_
  rintro e w7 ⟨v7, rfl, own7, hb7⟩
  have B7 := Lib.hid (B6.out.trans (hb7.mono B6.out.size))
  have S7 := Lib.hid (Bs.own own7)
  have S5 := Lib.hid (S5.out.below hb7)
  have S6 := Lib.hid (S6.out.below hb7)
  have JO := Lib.hid (joined v6 v7 v5 (headN n) pay (macN H n pay key) w7 S6.out S7.out S5.out (headN_lt n) HPB.out (macN_lt H n pay key) (by rw [headN_len]; omega) (by omega) (by have := macN_len H n pay key; omega))
  clear own7 hb7 C7
  go_wp2_with fail
  go_at_call 27
  refine JO.out.mono ?_
  rintro e w8 ⟨⟨v8, rfl, hv8⟩, hb8⟩
  have B8 := Lib.hid (B7.out.trans (hb8.mono B7.out.size))
  have S8 := Lib.hid hv8
  clear hv8 hb8 JO
  go_wp2_with fail
  go_ret2
  exact ⟨⟨v8, rfl, S8⟩, B8⟩
end Go.Proofs.YtaemdppihpefnaaGreatDoor

/- laws.tokenRead, of a token that was made. -/
namespace Go.Proofs.YtaemdppihpefnaaGreatDoor
open Go.RowKit
set_option linter.unusedVariables false

theorem no_dot {xs : List Nat} (h : ∀ x ∈ xs, x < 256) : ∀ c ∈ bi (B64.enc xs), c ≠ 46 := by
  intro c hc
  obtain ⟨n, hn, rfl⟩ := List.mem_map.1 hc
  have := (lets (B64.enc_letters xs h n hn)).2.1
  omega
theorem tok_parts (x y z : List Nat) (hx : ∀ a ∈ x, a < 256) (hy : ∀ a ∈ y, a < 256) (hz : ∀ a ∈ z, a < 256) :
    spOk (joinB x y z) = true ∧ sp1 (joinB x y z) = bi (B64.enc x) ∧ sp2 (joinB x y z) = bi (B64.enc y) ∧ sp3 (joinB x y z) = bi (B64.enc z) := by
  have e : joinB x y z = bi (B64.enc x) ++ 46 :: (bi (B64.enc y) ++ 46 :: bi (B64.enc z)) := by simp [joinB, sigB]
  have c1 := cutB_dot (bi (B64.enc x)) (bi (B64.enc y) ++ 46 :: bi (B64.enc z)) (no_dot hx)
  have c2 := cutB_dot (bi (B64.enc y)) (bi (B64.enc z)) (no_dot hy)
  have c3 := cutB_no (bi (B64.enc z)) (no_dot hz)
  rw [e]
  simp [spOk, sp1, sp2, sp3, c1, c2, c3]

/-- The header's fields. -/
def hK (i : Nat) : List Int := if i = 0 then sAlg else sTyp
def hV (n i : Nat) : List Int := if i = 0 then nmI n else sJwt
theorem head_text (n : Nat) : jtext hK (hV n) 2 = headB (nmI n) := by
  simp [jtext, jrest, hK, hV, headB, item]
theorem head_fit (n : Nat) : Fit hK (hV n) 2 where
  n0 := by omega
  n10 := by omega
  kB := fun i => by unfold hK; split <;> (intro x hx; simp [sAlg, sTyp] at hx; omega)
  vB := fun i => by
    unfold hV
    split
    · intro x hx; have := nm_plain n x hx; omega
    · intro x hx; simp [sJwt] at hx; omega
  kL := fun i => by unfold hK; split <;> simp [sAlg, sTyp]
  vL := fun i => by unfold hV; split; rw [nm_len]; omega; simp [sJwt]
  vP := fun i => by unfold hV; split; rw [nm_len]; omega; simp [sJwt]

def P3 (x y : List Int) (i : Nat) : List Int := if i = 0 then x else if i = 1 then [46] else y
def A3 (p1 p2 : Option Addr) (g : Nat) (i : Nat) : Option Addr := if i = 0 then p1 else if i = 1 then some ⟨g, 0, none⟩ else p2
def C3 (c1 c2 : Nat) (i : Nat) : Nat := if i = 0 then c1 else if i = 1 then 1 else c2
theorem parts3 {w W : World} {T1 T2 : TypeId} {p1 p2 : Option Addr} {c1 c2 : Nat} {x y : List Int}
    (h : (w.alloc (.cells #[.int .u8 46] T1)).alloc (.cells #[.slice p1 x.length c1, .slice (some ⟨w.heap.size, 0, none⟩) 1 1, .slice p2 y.length c2] T2) = W)
    (h1 : Bs w (.slice p1 x.length c1) x) (h2 : Bs w (.slice p2 y.length c2) y) :
    Parts W (some ⟨w.heap.size + 1, 0, none⟩) 3 (A3 p1 p2 w.heap.size) (C3 c1 c2) (P3 x y) ∧ Below w.heap.size w W := by
  obtain ⟨R1, R2, hs, hB⟩ := two h
  refine ⟨⟨fun _ => ⟨_, 0, rfl, R2.lt, fun i hi => ?_⟩, fun i hi => ?_⟩, hB⟩
  · have hc : i = 0 ∨ i = 1 ∨ i = 2 := by omega
    rcases hc with rfl | rfl | rfl <;> (rw [R2.cell]; rfl)
  · have hc : i = 0 ∨ i = 1 ∨ i = 2 := by omega
    rcases hc with rfl | rfl | rfl
    · exact h1.below hB
    · exact Bs.row R1 0 1 [46] (by decide) (fun i hi => by
        have : i = 0 := by simp at hi; omega
        subst this; rfl)
    · exact h2.below hB
theorem cc3 (x y : List Nat) : cc (P3 (bi (B64.enc x)) (bi (B64.enc y))) 3 = sigB x y := by simp [cc, P3, sigB]

set_option maxRecDepth 100000 in
set_option maxHeartbeats 4000000 in
theorem tokenRead (H : HK) (n : Nat) (hA : AlgOk n H) (vt vk : Value) (pay : List Nat) (key : List Int) (w : World) (ht : Bs w vt (tokB H n pay key)) (hk : Bs w vk key) (hpb : ∀ x ∈ pay, x < 256) (hpl : pay.length ≤ 20000) (hkl : key.length ≤ 65536) (hpos : 0 < key.length) (hkt : Row w H.kg H.kT H.kC) (he : Ev w) :
    Calls Tryz.prog 11 #[vt, vk] w fun e w' => (∃ v1 v2, e = .returned (.tuple #[v1, v2, .bool true, .bool true]) ∧ Hid (Bs w' v2 (bi pay))) ∧ Hid (Below w.heap.size w w') := by
  have HKy := Lib.hid hk
  have HPB := Lib.hid hpb
  have HKT := Lib.hid hkt
  have HA := Lib.hid hA
  have HE := Lib.hid he
  have dn : ∀ (b : Bool) (wx : World), (Op.unary .not (.bool b)).run Tryz.prog wx = .ok (.bool (!b)) wx := fun _ _ => rfl
  have htl := tokB_len H n pay key
  have C1 := Lib.hid (clone vt _ w ht (by omega))
  have HTL := Lib.hid htl
  clear ht hk hpb hkt hA he htl
  go_enter Tryz.func11, Tryz.ntmps11
  go_wp2_with fail
  go_at_call 7
  refine C1.out.mono ?_
  rintro e w1 ⟨v1, rfl, own1, hb1⟩
  have B1 := Lib.hid hb1
  have S := Lib.hid (split v1 (tokB H n pay key) w1 (Bs.own own1) (by have := HTL.out; omega) (HE.out.below hb1))
  clear own1 hb1 C1
  go_wp2_with fail
  go_at_call 18
  refine S.out.mono ?_
  rintro e w2 ⟨hs4, hb2⟩
  obtain ⟨p0, p1, p2, p3⟩ := tok_parts (headN n) pay (macN H n pay key) (headN_lt n) HPB.out (macN_lt H n pay key)
  have hs4 : Split4 w2 (joinB (headN n) pay (macN H n pay key)) e := hs4
  rw [Split4, p0, if_pos rfl, p1, p2, p3] at hs4
  obtain ⟨a, b, c, rfl, ha, hb, hc⟩ := hs4
  have SA := Lib.hid ha
  have SB := Lib.hid hb
  have SC := Lib.hid hc
  have B2 := Lib.hid (B1.out.trans (hb2.mono B1.out.size))
  have C2 := Lib.hid (clone a _ w2 ha (by rw [bi_len, B64.enc_len, headN_len]; omega))
  clear ha hb hc hb2 S p0 p1 p2 p3
  go_wp2_with fail
  -- the header
  go_at_call 7
  refine C2.out.mono ?_
  rintro e w3 ⟨v3, rfl, own3, hb3⟩
  have B3 := Lib.hid (B2.out.trans (hb3.mono B2.out.size))
  have SA := Lib.hid (SA.out.below hb3)
  have SB := Lib.hid (SB.out.below hb3)
  have SC := Lib.hid (SC.out.below hb3)
  have D3 := Lib.hid (decoded v3 (headN n) w3 (Bs.own own3) (headN_lt n) (by rw [headN_len]; omega))
  clear own3 hb3 C2
  go_wp2_with fail
  go_at_call 29
  refine D3.out.mono ?_
  rintro e w4 ⟨⟨v4, rfl, hv4⟩, hb4⟩
  have B4 := Lib.hid (B3.out.trans (hb4.mono B3.out.size))
  have SA := Lib.hid (SA.out.below hb4)
  have SB := Lib.hid (SB.out.below hb4)
  have SC := Lib.hid (SC.out.below hb4)
  have S4 := Lib.hid hv4
  have C4 := Lib.hid (clone b _ w4 SB.out (by rw [bi_len, B64.enc_len]; omega))
  clear hv4 hb4 D3
  go_wp2_with fail
  -- the payload
  go_at_call 7
  refine C4.out.mono ?_
  rintro e w5 ⟨v5, rfl, own5, hb5⟩
  have B5 := Lib.hid (B4.out.trans (hb5.mono B4.out.size))
  have SA := Lib.hid (SA.out.below hb5)
  have SB := Lib.hid (SB.out.below hb5)
  have SC := Lib.hid (SC.out.below hb5)
  have S4 := Lib.hid (S4.out.below hb5)
  have D5 := Lib.hid (decoded v5 pay w5 (Bs.own own5) HPB.out (by omega))
  clear own5 hb5 C4
  go_wp2_with fail
  go_at_call 29
  refine D5.out.mono ?_
  rintro e w6 ⟨⟨v6, rfl, hv6⟩, hb6⟩
  have B6 := Lib.hid (B5.out.trans (hb6.mono B5.out.size))
  have SA := Lib.hid (SA.out.below hb6)
  have SB := Lib.hid (SB.out.below hb6)
  have SC := Lib.hid (SC.out.below hb6)
  have S4 := Lib.hid (S4.out.below hb6)
  have S6 := Lib.hid hv6
  have C6 := Lib.hid (clone c _ w6 SC.out (by rw [bi_len, B64.enc_len]; have := macN_len H n pay key; omega))
  clear hv6 hb6 D5
  go_wp2_with fail
  -- the signature
  go_at_call 7
  refine C6.out.mono ?_
  rintro e w7 ⟨v7, rfl, own7, hb7⟩
  have B7 := Lib.hid (B6.out.trans (hb7.mono B6.out.size))
  have SA := Lib.hid (SA.out.below hb7)
  have SB := Lib.hid (SB.out.below hb7)
  have S4 := Lib.hid (S4.out.below hb7)
  have S6 := Lib.hid (S6.out.below hb7)
  have D7 := Lib.hid (decoded v7 (macN H n pay key) w7 (Bs.own own7) (macN_lt H n pay key) (by have := macN_len H n pay key; omega))
  clear own7 hb7 C6 SC
  go_wp2_with fail
  go_at_call 29
  refine D7.out.mono ?_
  rintro e w8 ⟨⟨v8, rfl, hv8⟩, hb8⟩
  have B8 := Lib.hid (B7.out.trans (hb8.mono B7.out.size))
  have SA := Lib.hid (SA.out.below hb8)
  have SB := Lib.hid (SB.out.below hb8)
  have S4 := Lib.hid (S4.out.below hb8)
  have S6 := Lib.hid (S6.out.below hb8)
  have S8 : Hid (Bs w8 v8 (macOf H key (sigB (headN n) pay))) := Lib.hid (by rw [macN, bi_toN (macOf_byt _ _ _)] at hv8; exact hv8)
  have C8 := Lib.hid (clone v4 _ w8 S4.out (by rw [bi_len, headN_len]; omega))
  clear hv8 hb8 D7
  go_wp2_with fail
  -- the algorithm
  go_at_call 7
  refine C8.out.mono ?_
  rintro e w9 ⟨v9, rfl, own9, hb9⟩
  have B9 := Lib.hid (B8.out.trans (hb9.mono B8.out.size))
  have SA := Lib.hid (SA.out.below hb9)
  have SB := Lib.hid (SB.out.below hb9)
  have S6 := Lib.hid (S6.out.below hb9)
  have S8 := Lib.hid (S8.out.below hb9)
  have HS := Lib.hid (headStringC 2 0 hK (hV n) sAlg v9 w9 (by rw [head_text, ← headN_bi]; exact Bs.own own9) (by omega) rfl (fun j hj => by omega) (by intro x hx; simp [sAlg] at hx; omega) (head_fit n))
  rw [eAlg, show strOfNums (hV n 0) = hsName n from (nm_eq n).symm] at HS
  clear own9 hb9 C8
  go_wp2_with fail
  go_at_call 30
  refine HS.out.mono ?_
  rintro e w10 ⟨rfl, hb10⟩
  have B10 := Lib.hid (B9.out.trans (hb10.out.mono B9.out.size))
  have SA := Lib.hid (SA.out.below hb10.out)
  have SB := Lib.hid (SB.out.below hb10.out)
  have S6 := Lib.hid (S6.out.below hb10.out)
  have S8 := Lib.hid (S8.out.below hb10.out)
  clear hb10 HS
  obtain ⟨pa, ca, rfl, _, _, _⟩ := id SA.out
  obtain ⟨pb, cb, rfl, _, _, _⟩ := id SB.out
  obtain ⟨W, hW⟩ : ∃ W : World, (w10.alloc (.cells #[.int .u8 46] 5)).alloc (.cells #[.slice pa (bi (B64.enc (headN n))).length ca, .slice (some ⟨w10.heap.size, 0, none⟩) 1 1, .slice pb (bi (B64.enc pay)).length cb] 22) = W := ⟨_, rfl⟩
  obtain ⟨hparts, hbW⟩ := parts3 hW SA.out SB.out
  have HCC := Lib.hid (concat _ 3 3 _ _ _ W hparts (by omega) (fun i hi => by
    unfold P3
    split
    · rw [bi_len, B64.enc_len, headN_len]; omega
    · split
      · simp
      · rw [bi_len, B64.enc_len]; omega) (by rw [cc3]; simp [sigB]; omega))
  rw [cc3] at HCC
  have BW := Lib.hid (B10.out.trans (hbW.mono B10.out.size))
  have S6 := Lib.hid (S6.out.below hbW)
  have S8 := Lib.hid (S8.out.below hbW)
  have HW := Lib.hid hW
  generalize (bi (B64.enc (headN n))).length = la at *
  generalize (bi (B64.enc pay)).length = lb at *
  have Hnm := Lib.hid (show hsName n = hsName n from rfl)
  obtain ⟨nm, hnm⟩ : ∃ nm, hsName n = nm := ⟨_, rfl⟩
  have HNM := Lib.hid hnm
  rw [hnm]
  clear hparts hbW hW Hnm hnm SA SB
  go_wp2_with fail
  rw [HW.out]
  go_at_call 31
  refine HCC.out.mono ?_
  rintro e w11 ⟨⟨v11, rfl, hv11⟩, hb11⟩
  have B11 := Lib.hid (BW.out.trans (hb11.mono BW.out.size))
  have S11 := Lib.hid hv11
  have S6 := Lib.hid (S6.out.below hb11)
  have S8 := Lib.hid (S8.out.below hb11)
  have C11 := Lib.hid (clone vk _ w11 (HKy.out.below B11.out) (by omega))
  clear hv11 hb11 HCC HW
  go_wp2_with fail
  go_at_call 7
  refine C11.out.mono ?_
  rintro e w12 ⟨v12, rfl, own12, hb12⟩
  have B12 := Lib.hid (B11.out.trans (hb12.mono B11.out.size))
  have S11 := Lib.hid (S11.out.below hb12)
  have S6 := Lib.hid (S6.out.below hb12)
  have S8 := Lib.hid (S8.out.below hb12)
  have hsl2 : (sigB (headN n) pay).length ≤ 65536 := by
    simp only [sigB, List.length_append, bi_len, B64.enc_len, List.length_cons, List.length_nil, headN_len]; omega
  have VF := Lib.hid (verifiedOf H nm (by rw [← HNM.out]; exact HA.out.of) (by rw [← HNM.out]; exact HA.out.mv) v11 v8 v12 (sigB (headN n) pay) key w12 S11.out S8.out (Bs.own own12) hsl2 hkl hpos (HKT.out.below B12.out HKT.out.lt))
  clear own12 hb12 hsl2 C11
  go_wp2_with fail
  go_at_call 25
  refine VF.out.mono ?_
  rintro e w13 ⟨rfl, hb13⟩
  have B13 := Lib.hid (B12.out.trans (hb13.mono B12.out.size))
  have S6 := Lib.hid (S6.out.below hb13)
  clear hb13 VF
  go_wp2_with fail
  refine bodyPost_ret (results_tmp4 rfl _ _ _) rfl ?_
  exact ⟨⟨_, _, rfl, S6⟩, B13⟩
end Go.Proofs.YtaemdppihpefnaaGreatDoor

/- laws.FnTokenNested returns true: whatever hashes the algorithms have. -/
namespace Go.Proofs.YtaemdppihpefnaaGreatDoor
open Go.RowKit
set_option linter.unusedVariables false

theorem tokenHeadN (n : Nat) (w : World) : Calls Tryz.prog 10 #[.string (hsName n), .string (⟨#[]⟩ : ByteArray), .int .u64 0] w fun e w' => (∃ v, e = .returned v ∧ Bs w' v (bi (headN n))) ∧ Below w.heap.size w w' := by
  rw [nm_eq, headN_bi]
  exact tokenHead0 (nmI n) (nm_plain n) (by rw [nm_len]; omega) w

/-- 'append(key, byte(i))', key cloned. -/
theorem run_key (w : World) (base : Nat) (v : Value) (key : List Int) (k : Int) (ho : w.ownsRow base 5 1 v key.length (cs8 key)) (hB : base ≤ w.heap.size) (hl : key.length ≤ 100000) :
    ∃ v' w', (∀ ty, (Builtin.append_ #[22, 22] ty #[v, .slice (some ⟨w.heap.size, 0, none⟩) 1 1]).run Tryz.prog (w.alloc (.cells #[.int .u8 k] 5)) = .ok v' w') ∧ Bs w' v' (key ++ [k]) ∧ Below base w w' := by
  have hb : Below base w (w.alloc (.cells #[.int .u8 k] 5)) := (Below.refl _ _).alloc hB _
  have hr : Row (w.alloc (.cells #[.int .u8 k] 5)) w.heap.size 5 (cs8 [k]) := Row.alloc w (cs8 [k]) _
  obtain ⟨v', w', h1, h2, h3⟩ := run_appendG (P := Tryz.prog) (w := w.alloc (.cells #[.int .u8 k] 5)) 22 0 base 5 Tryz.underlying22 (by kernel_rfl) v key.length (cs8 key) (ho.alloc _) (.slice (some ⟨w.heap.size, 0, none⟩) 1 1) [k]
    (Bs.row hr 0 1 [k] (Nat.le_refl _) (fun i hi => by rw [Nat.zero_add, get_cs8 _ _ hi])) (by simp; omega) (Nat.le_trans hB hb.size)
  refine ⟨v', w', fun ty => h1, ?_, ?_⟩
  · rw [cs8_append] at h2
    have hk : key.length + [k].length = (key ++ [k]).length := by simp
    rw [hk] at h2
    exact Bs.own h2
  · exact hb.grown h3 (Nat.le_trans hB hb.size) (fun j hj => (ho.lt j hj).1)

def aN (al : List Int) (k : Nat) : Nat := (al.getD k 0 % 3).toNat
/-- A token in a token, k times. -/
def nest (Hs : Nat → HK) (al key pay : List Int) : Nat → List Int
  | 0 => pay
  | k + 1 => tokB (Hs (aN al k)) (aN al k) (toN (nest Hs al key pay k)) (key ++ [(k : Int)])
theorem nest_byt (Hs : Nat → HK) (al key pay : List Int) (hp : Byt pay) : ∀ k, Byt (nest Hs al key pay k)
  | 0 => hp
  | k + 1 => tokB_byt _ _ _ _ (toN_lt (nest_byt Hs al key pay hp k))
theorem nest_len (Hs : Nat → HK) (al key pay : List Int) (hp : pay.length ≤ 300) : ∀ k, (nest Hs al key pay k).length ≤ 600 * 2 ^ k
  | 0 => by simp [nest]; omega
  | k + 1 => by
    have ih := nest_len Hs al key pay hp k
    have h := tokB_len (Hs (aN al k)) (aN al k) (toN (nest Hs al key pay k)) (key ++ [(k : Int)])
    rw [toN_len] at h
    have hpw : 0 < 2 ^ k := Nat.two_pow_pos k
    rw [Nat.pow_succ]
    show (tokB _ _ _ _).length ≤ _
    omega
theorem nest_len4 (Hs : Nat → HK) (al key pay : List Int) (hp : pay.length ≤ 300) (k : Nat) (hk : k ≤ 4) : (nest Hs al key pay k).length ≤ 9600 := by
  have h := nest_len Hs al key pay hp k
  have : k = 0 ∨ k = 1 ∨ k = 2 ∨ k = 3 ∨ k = 4 := by omega
  rcases this with rfl | rfl | rfl | rfl | rfl <;> (simp at h; omega)

set_option maxRecDepth 100000 in
set_option maxHeartbeats 8000000 in
theorem lawNested (Hs : Nat → HK) (va vp vk : Value) (al pay key : List Int) (w : World) (hA : ∀ n, n < 3 → AlgOk n (Hs n) ∧ Row w (Hs n).kg (Hs n).kT (Hs n).kC) (hl : Live w) (he : Ev w)
    (ha : Bs w va al) (hp : Bs w vp pay) (hk : Bs w vk key) (hya : Byt al) (hyp : Byt pay) (hyk : Byt key) :
    Calls Tryz.prog 3 #[va, vp, vk] w fun e w' => e = .returned (.bool true) ∧ Below w.heap.size w w' := by
  obtain ⟨pa, ca, rfl, hca, _, _⟩ := id ha
  obtain ⟨pp, cp, rfl, _, _, _⟩ := id hp
  obtain ⟨pk, ck, rfl, _, _, _⟩ := id hk
  have HA := Lib.hid hA
  have HL := Lib.hid hl
  have HE := Lib.hid he
  have Ha := Lib.hid ha
  have Hp := Lib.hid hp
  have Hk := Lib.hid hk
  have Hya := Lib.hid hya
  have Hyp := Lib.hid hyp
  have Hyk := Lib.hid hyk
  have dn : ∀ (b : Bool) (wx : World), (Op.unary .not (.bool b)).run Tryz.prog wx = .ok (.bool (!b)) wx := fun _ _ => rfl
  clear hA hl he ha hp hk hya hyp hyk
  by_cases ha1 : al.length ≤ 2147483647
  · have ha2 : ¬ (2147483647 : Int) < al.length := by omega
    by_cases hp1 : pay.length ≤ 2147483647
    · have hp2 : ¬ (2147483647 : Int) < pay.length := by omega
      by_cases hk1 : key.length ≤ 2147483647
      · have hk2 : ¬ (2147483647 : Int) < key.length := by omega
        have F : Hid (Calls Tryz.prog 5 #[.slice pp pay.length cp, .slice (some ⟨w.heap.size, 0, none⟩) 1 1] (w.alloc (.cells #[.slice pk key.length ck] 22)) fun e w' => e = .returned (.bool (decide (pay.length ≤ 1000) && keyB key.length)) ∧ w.alloc (.cells #[.slice pk key.length ck] 22) = w') := by
          have hba : Below w.heap.size w (w.alloc (.cells #[.slice pk key.length ck] 22)) := (Below.refl _ _).alloc (Nat.le_refl _) _
          exact Lib.hid (fits1 w.heap.size _ _ pay key _ (Hp.out.below hba) (Hk.out.below hba) (by rw [(Row.alloc w [_] _).cell]; rfl))
        have L0 : Hid (Below w.heap.size w (w.alloc (.cells #[.slice pk key.length ck] 22))) := Lib.hid ((Below.refl _ _).alloc (Nat.le_refl _) _)
        obtain ⟨fb, hfb⟩ : ∃ fb, (decide (pay.length ≤ 1000) && keyB key.length) = fb := ⟨_, rfl⟩
        rw [hfb] at F
        rcases Bool.eq_false_or_eq_true fb with hft | hff
        · subst hft
          by_cases hp3 : pay.length ≤ 300
          · have hp4 : ¬ (300 : Int) < pay.length := by omega
            by_cases ha3 : al.length ≤ 4
            · have ha4 : ¬ (4 : Int) < al.length := by omega
              have hlim : pay.length ≤ 1000 ∧ 0 < key.length ∧ key.length ≤ 300 := by
                simp only [Bool.and_eq_true, decide_eq_true_eq, keyB] at hfb; exact hfb
              obtain ⟨_, hks, hks2⟩ := hlim
              have HNB := Lib.hid (nest_byt Hs al key pay Hyp.out)
              have HNL := Lib.hid (nest_len4 Hs al key pay hp3)
              clear hfb
              go_enter Tryz.func3, Tryz.ntmps3
              go_wp2_with (go_at_call 5; refine F.out.mono ?_; rintro e w' ⟨rfl, rfl⟩)
              go_at_call 7
              refine (clone _ pay _ (Hp.out.below L0.out) (by omega)).mono ?_
              rintro e w1 ⟨v1, rfl, own1, hb1⟩
              have L1 := Lib.hid (L0.out.trans (hb1.mono L0.out.size))
              have S1 : Hid (Bs w1 v1 (nest Hs al key pay 0)) := Lib.hid (Bs.own own1)
              clear own1 hb1 F L0
              go_wp2_with fail
              go_loopw [7, 51] (fun v i wr => ∃ k : Nat, k ≤ al.length ∧ i = .int .i64 k ∧ Hid (Bs wr v (nest Hs al key pay k)) ∧ Hid (Below w.heap.size w wr)) (fun _ i _ => al.length - (intOf i).toNat)
              case atStart => exact ⟨0, by omega, rfl, S1, L1⟩
              case round =>
                clear S1 L1
                obtain ⟨k, hk, rfl, hS, hB⟩ := hrel
                by_cases hkn : k < al.length
                · as_aux_lemma =>
                  obtain ⟨ba, oa, rfl, hcell⟩ := Ha.out.at (by omega)
                  have hkI : (k : Int) < al.length := by omega
                  have hab := Hya.out.at hkn
                  have c0 : wr.cell? ⟨ba, oa + k, none⟩ = some (.int .u8 (al.getD k 0)) := by
                    have h := hcell k hkn
                    rw [hB.out.cell (p := ⟨ba, oa + k, none⟩) (World.block_lt_of_cell? w _ h)]; exact h
                  have hn3 : aN al k < 3 := by unfold aN; omega
                  have HT1 := Lib.hid (tokenAlg (al.getD k 0) wr hab.1 hab.2)
                  rw [show (al.getD k 0 % 3).toNat = aN al k from rfl] at HT1
                  have HNX : Hid (nest Hs al key pay (k + 1) = tokB (Hs (aN al k)) (aN al k) (toN (nest Hs al key pay k)) (key ++ [(k : Int)])) := Lib.hid rfl
                  have HXB := Lib.hid (HNB.out k)
                  have hXL := HNL.out k (by omega)
                  obtain ⟨X, hX⟩ : ∃ X, nest Hs al key pay k = X := ⟨_, rfl⟩
                  rw [hX] at hS HNX HXB hXL
                  have HAn := Lib.hid (HA.out (aN al k) hn3)
                  generalize aN al k = n at HT1 HNX HAn hn3
                  generalize al.getD k 0 = a at c0 HT1 hab
                  have HTH := Lib.hid (tokenHeadN n)
                  have HTM := Lib.hid (fun vh vp vk w' hh hp hk hkt => tokenMade (Hs n) n HAn.out.1 vh vp vk (toN X) (key ++ [(k : Int)]) w' hh hp hk (toN_lt HXB.out) (by rw [toN_len]; omega) (by simp; omega) (by simp) hkt)
                  generalize hsName n = nm at HT1 HTH HTM
                  have hkw : IntKind.i64.wrap ((k : Int) + 1) = (k : Int) + 1 := IntWalk.i64_in _ (by omega)
                  have hk8 : IntKind.u8.wrap (k : Int) = k := IntWalk.u8_in _ (by omega)
                  clear hcell hX hab
                  go_wp2_with fail
                  go_at_call 8
                  refine HT1.out.mono ?_
                  rintro e w1 ⟨rfl, b1⟩
                  have B1 := Lib.hid (hB.out.trans (b1.mono hB.out.size))
                  have S1 := Lib.hid (hS.out.below b1)
                  clear b1 HT1
                  go_wp2_with fail
                  go_at_call 10
                  refine (HTH.out w1).mono ?_
                  rintro e w2 ⟨⟨vh, rfl, hvh⟩, b2⟩
                  have B2 := Lib.hid (B1.out.trans (b2.mono B1.out.size))
                  have S2 := Lib.hid (S1.out.below b2)
                  have VH := Lib.hid hvh
                  clear b2 hvh HTH S1
                  go_wp2_with fail
                  go_at_call 7
                  refine (clone _ key w2 (Hk.out.below B2.out) (by omega)).mono ?_
                  rintro e w3 ⟨v3, rfl, own3, b3⟩
                  have B3 := Lib.hid (B2.out.trans (b3.mono B2.out.size))
                  have S3 := Lib.hid (S2.out.below b3)
                  have VH3 := Lib.hid (VH.out.below b3)
                  obtain ⟨v4, w4, hr4, hv4, b4⟩ := run_key w3 w2.heap.size v3 key k own3 b3.size (by omega)
                  have HR4 := Lib.hid hr4
                  have b4' : Below w2.heap.size w2 w4 := b3.trans b4
                  have B4 := Lib.hid (B2.out.trans (b4'.mono B2.out.size))
                  have S4 := Lib.hid (S2.out.below b4')
                  have VH4 := Lib.hid (VH.out.below b4')
                  have TM := Lib.hid (HTM.out vh u7 v4 w4 VH4.out (by rw [bi_toN HXB.out]; exact S4.out) hv4 (HAn.out.2.below B4.out HAn.out.2.lt))
                  clear own3 b3 hr4 hv4 b4 b4' VH VH3 S2 S3 HTM
                  go_wp2_with (at_builtin; refine Lib.wpList_append_run _ rfl _ _ _ _ rfl _ _ rfl rfl _ _ (HR4.out _) ?_)
                  go_at_call 9
                  refine TM.out.mono ?_
                  rintro e w5 ⟨⟨v5, rfl, hv5⟩, b5⟩
                  have B5 := Lib.hid (B4.out.trans (b5.out.mono B4.out.size))
                  clear TM b5
                  go_wp2_with fail
                  exact ⟨⟨k + 1, by omega, by rw [show ((k + 1 : Nat) : Int) = (k : Int) + 1 by omega], by rw [HNX.out]; exact hv5, B5⟩, by simp [intOf]; omega⟩
                · as_aux_lemma =>
                  obtain ⟨wo, rfl⟩ : ∃ wo : World, wo = wr := ⟨_, rfl⟩
                  have hkk : k = al.length := by omega
                  subst hkk
                  have hkI : ¬ (al.length : Int) < al.length := by omega
                  have hlw : IntKind.i64.wrap ((al.length : Int) - 1) = (al.length : Int) - 1 := IntWalk.i64_in _ (by omega)
                  go_wp2_with fail
                  go_loopw [7, 13] (fun v i wr => ∃ k : Nat, k ≤ al.length ∧ i = .int .i64 ((k : Int) - 1) ∧ Hid (Bs wr v (nest Hs al key pay k)) ∧ Hid (Below w.heap.size w wr)) (fun _ i _ => (intOf i + 1).toNat)
                  case atStart => exact ⟨al.length, Nat.le_refl _, rfl, hS, hB⟩
                  case round =>
                    clear hS hB
                    obtain ⟨k, hk, rfl, hS, hB⟩ := hrel
                    rcases Nat.eq_zero_or_pos k with hk0 | hk0
                    · as_aux_lemma =>
                      subst hk0
                      have e0 : ((0 : Nat) : Int) - 1 = -1 := rfl
                      have hS0 : Hid (Bs wr u7 pay) := hS
                      rw [e0]
                      have HEQ := Lib.hid (equalT u7 (.slice pp pay.length cp) pay wr hS0.out (Hp.out.below hB.out) Hyp.out)
                      go_wp2_with fail
                      go_at_call 12
                      refine HEQ.out.mono ?_
                      rintro e w' ⟨rfl, rfl⟩
                      go_wp2_with fail
                      refine (HL.out _ hB.out).mono ?_
                      rintro e w2 ⟨rfl, b2⟩
                      have L2 := Lib.hid (hB.out.trans (b2.mono hB.out.size))
                      clear b2
                      go_wp2_with fail
                      go_ret
                      exact ⟨rfl, L2.out⟩
                    · as_aux_lemma =>
                      obtain ⟨j, rfl⟩ : ∃ j, k = j + 1 := ⟨k - 1, by omega⟩
                      have hab := Hya.out.at (show j < al.length by omega)
                      have hn3 : aN al j < 3 := by unfold aN; omega
                      have hS1 : Hid (Bs wr u7 (tokB (Hs (aN al j)) (aN al j) (toN (nest Hs al key pay j)) (key ++ [(j : Int)]))) := hS
                      have HXB := Lib.hid (HNB.out j)
                      have hXL := HNL.out j (by omega)
                      have HAn := Lib.hid (HA.out (aN al j) hn3)
                      have HX : Hid (bi (toN (nest Hs al key pay j)) = nest Hs al key pay j) := Lib.hid (bi_toN HXB.out)
                      have HPL := Lib.hid (show (toN (nest Hs al key pay j)).length ≤ 20000 by rw [toN_len]; omega)
                      have HPB := Lib.hid (toN_lt HXB.out)
                      generalize toN (nest Hs al key pay j) = Y at hS1 HX HPL HPB
                      generalize aN al j = n at hS1 HAn hn3
                      have ej : ((j + 1 : Nat) : Int) - 1 = (j : Int) := by omega
                      rw [ej]
                      have hj0 : (0 : Int) ≤ j := by omega
                      have hk8 : IntKind.u8.wrap (j : Int) = j := IntWalk.u8_in _ (by omega)
                      have hjw : IntKind.i64.wrap ((j : Int) - 1) = (j : Int) - 1 := IntWalk.i64_in _ (by omega)
                      clear hab hS
                      go_wp2_with fail
                      go_at_call 7
                      refine (clone _ key wr (Hk.out.below hB.out) (by omega)).mono ?_
                      rintro e w3 ⟨v3, rfl, own3, b3⟩
                      obtain ⟨v4, w4, hr4, hv4, b4⟩ := run_key w3 wr.heap.size v3 key j own3 b3.size (by omega)
                      have HR4 := Lib.hid hr4
                      have b4' : Below wr.heap.size wr w4 := b3.trans b4
                      have B4 := Lib.hid (hB.out.trans (b4'.mono hB.out.size))
                      have TR := Lib.hid (tokenRead (Hs n) n HAn.out.1 u7 v4 Y (key ++ [(j : Int)]) w4 (hS1.out.below b4') hv4 HPB.out HPL.out (by simp; omega) (by simp) (HAn.out.2.below B4.out HAn.out.2.lt) (HE.out.below B4.out))
                      clear own3 b3 hr4 hv4 b4 b4'
                      go_wp2_with (at_builtin; refine Lib.wpList_append_run _ rfl _ _ _ _ rfl _ _ rfl rfl _ _ (HR4.out _) ?_)
                      go_at_call 11
                      refine TR.out.mono ?_
                      rintro e w5 ⟨⟨v1, v2, rfl, hv2⟩, b5⟩
                      have B5 := Lib.hid (B4.out.trans (b5.out.mono B4.out.size))
                      have S5 : Hid (Bs w5 v2 (nest Hs al key pay j)) := Lib.hid (by rw [← HX.out]; exact hv2.out)
                      clear TR b5 hv2
                      go_wp2_with fail
                      exact ⟨⟨j, by omega, rfl, S5, B5⟩, by simp [intOf]⟩
            · have ha4 : (4 : Int) < al.length := by omega
              go_enter Tryz.func3, Tryz.ntmps3
              go_wp2_with (go_at_call 5; refine F.out.mono ?_; rintro e w' ⟨rfl, rfl⟩)
              refine (HL.out _ L0.out).mono ?_
              rintro e w2 ⟨rfl, b2⟩
              have L2 := Lib.hid (L0.out.trans (b2.mono L0.out.size))
              clear b2
              go_wp2_with fail
              go_ret
              exact ⟨rfl, L2.out⟩
          · have hp4 : (300 : Int) < pay.length := by omega
            go_enter Tryz.func3, Tryz.ntmps3
            go_wp2_with (go_at_call 5; refine F.out.mono ?_; rintro e w' ⟨rfl, rfl⟩)
            refine (HL.out _ L0.out).mono ?_
            rintro e w2 ⟨rfl, b2⟩
            have L2 := Lib.hid (L0.out.trans (b2.mono L0.out.size))
            clear b2
            go_wp2_with fail
            go_ret
            exact ⟨rfl, L2.out⟩
        · subst hff
          go_enter Tryz.func3, Tryz.ntmps3
          go_wp2_with (go_at_call 5; refine F.out.mono ?_; rintro e w' ⟨rfl, rfl⟩)
          refine (HL.out _ L0.out).mono ?_
          rintro e w2 ⟨rfl, b2⟩
          have L2 := Lib.hid (L0.out.trans (b2.mono L0.out.size))
          clear b2
          go_wp2_with fail
          go_ret
          exact ⟨rfl, L2.out⟩
      · have hk2 : (2147483647 : Int) < key.length := by omega
        go_enter Tryz.func3, Tryz.ntmps3
        go_wp2_with fail
        go_ret
        exact ⟨rfl, Below.refl _ _⟩
    · have hp2 : (2147483647 : Int) < pay.length := by omega
      go_enter Tryz.func3, Tryz.ntmps3
      go_wp2_with fail
      go_ret
      exact ⟨rfl, Below.refl _ _⟩
  · have ha2 : (2147483647 : Int) < al.length := by omega
    go_enter Tryz.func3, Tryz.ntmps3
    go_wp2_with fail
    go_ret
    exact ⟨rfl, Below.refl _ _⟩
end Go.Proofs.YtaemdppihpefnaaGreatDoor

/- laws.FnTokenNested over any well-shaped world in which jwsbb's error is one. -/
namespace Go.Proofs.YtaemdppihpefnaaGreatDoor
open Go.RowKit
set_option linter.unusedVariables false

theorem nested (va vp vk : Value) (al pay key : List Int) (w : World) (h : w.ShapedOpen Tryz.prog) (he : Ev w)
    (ha : Bs w va al) (hp : Bs w vp pay) (hk : Bs w vk key) (hya : Byt al) (hyp : Byt pay) (hyk : Byt key) :
    Calls Tryz.prog 3 #[va, vp, vk] w fun e w' => e = .returned (.bool true) ∧ Below w.heap.size w w' := by
  obtain ⟨K, hK, r⟩ := table256 w h
  obtain ⟨L, hL, s⟩ := table512 w h
  refine lawNested (fun n => if n = 0 then hk256 K hK else if n = 1 then hk384 L hL else hk512 L hL) va vp vk al pay key w (fun n hn => ?_) (live_of w h) he ha hp hk hya hyp hyk
  have hc : n = 0 ∨ n = 1 ∨ n = 2 := by omega
  rcases hc with rfl | rfl | rfl
  · exact ⟨algOk0 K hK, r⟩
  · exact ⟨algOk1 L hL, s⟩
  · exact ⟨algOk2 L hL, s⟩
end Go.Proofs.YtaemdppihpefnaaGreatDoor
