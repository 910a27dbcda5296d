/- impl.KeyRun: keys made, a set with some steps, what each step gives. -/
import Derived.Test.YtaemdppihpefnaaGreatDoorKeyKitC
import Derived.Test.YtaemdppihpefnaaGreatDoorSlKit
import Derived.Deep.RegionLaw
import Derived.Deep.RegionHeld3
import Derived.Deep.QuietTactic
import Derived.BigQuiet
import Derived.Deep.Cut
import Derived.Deep.CutRange
import Derived.Deep.CutBlock
import Derived.Deep.MidRow
namespace Go.Proofs.YtaemdppihpefnaaGreatDoor
open Go.RowKit
set_option linter.unusedVariables false

set_option maxRecDepth 100000 in
set_option maxHeartbeats 80000000 in
theorem keyRun (kg kc sg sc : Nat) (L : Steps) (w : World) (hk : KD w kg) (hs : SD w sg L) (h0 : 0 < L.length) (hL : L.length ≤ 41) (hok : ∀ x ∈ L, (x.1 = 0 ∨ x.1 = 1 ∨ x.1 = 4) ∧ x.2.1 < 6 ∧ Byt x.2.2) :
    Calls Tryz.prog 20 #[.slice (some ⟨kg, 0, none⟩) 6 kc, .slice (some ⟨sg, 0, none⟩) L.length sc] w fun e w' => (∃ v B ps xs, e = .returned v ∧ ps.length = 6 ∧ ps.Nodup ∧ w.heap.size ≤ B ∧ w'.ownsRow B 59 6 v L.length xs ∧ Fin_ ps L L.length xs) ∧ Below w.heap.size w w' := by
  have HK := Lib.hid hk
  have HS := Lib.hid hs
  have HO := Lib.hid hok
  have hkd := Lib.hid (show (Tryz.prog.info? 39).map (·.size) = some 3 by kernel_rfl)
  have hkgl : kg < w.heap.size := by obtain ⟨v, h1, _⟩ := hk 0 (by omega); exact World.block_lt_of_cell? w _ h1
  clear hk hs hok
  go_enter Tryz.func20, Tryz.ntmps20
  go_upto_region 2 with (fail)
  obtain ⟨W0, hW0⟩ : ∃ W0 : World, w.alloc (.cells #[.slice none 0 0] 84) = W0 := ⟨_, rfl⟩
  have hb0 : Below w.heap.size w W0 := by rw [← hW0]; exact (Below.refl _ _).alloc (Nat.le_refl _) _
  have HR0 : Hid (R1 w w.heap.size W0 0) := Lib.hid ⟨.slice none 0 0, [], rfl, List.nodup_nil, (fun p h => by cases h), (by rw [← hW0]; exact Row.alloc w _ _), .inl ⟨rfl, rfl⟩, (fun j h => by simp at h), hb0⟩
  rw [hW0]
  clear hW0 hb0
  go_wp2_with fail
  go_loopw [28] (fun i wr => ∃ k : Nat, k ≤ 6 ∧ i = .int .i64 k ∧ Hid (R1 w w.heap.size wr k)) (fun i _ => 6 - (intOf i).toNat)
  case atStart => exact ⟨0, by omega, rfl, HR0⟩
  case round =>
    clear HR0
    obtain ⟨k, hk6, rfl, hR⟩ := hrel
    by_cases hkn : k < 6
    · have hkI : (k : Int) < 6 := by omega
      obtain ⟨v, ps, hpl, hpn, hpB, hmb, hown, hkeys, hB⟩ := hR.out
      have HMB := Lib.hid hmb
      have HOW := Lib.hid hown
      have HKE := Lib.hid hkeys
      have HB := Lib.hid hB
      have HPN := Lib.hid hpn
      have HPB := Lib.hid hpB
      have HKD := Lib.hid (HK.out.below hB)
      obtain ⟨ov, c0, hov, c1, c2⟩ := HKD.out k hkn
      obtain ⟨op, oc, rfl, _, _, _⟩ := id hov
      have HOV := Lib.hid hov
      clear hmb hown hkeys hB hR hov hpn hpB
      go_upto_region 5 with (fail)
      obtain ⟨W1, hW1⟩ : ∃ W1 : World, wr.alloc (.cells #[.slice op (octL k).length oc, .bool true, .string (strOfNums (idL k))] 39) = W1 := ⟨_, rfl⟩
      have hb1 : Below wr.heap.size wr W1 := by rw [← hW1]; exact (Below.refl _ _).alloc (Nat.le_refl _) _
      have hx1 : Row W1 wr.heap.size 39 [.slice op (octL k).length oc, .bool true, .string (strOfNums (idL k))] := by rw [← hW1]; exact Row.alloc wr _ _
      obtain ⟨v2, w2, hr2, hv2, hb2⟩ := run_oct W1 (.slice op (octL k).length oc) (octL k) (HOV.out.below hb1) (by simp [octL])
      have HR2 := Lib.hid hr2
      have b2 : Below wr.heap.size wr w2 := hb1.trans (hb2.mono hb1.size)
      have HB2 := Lib.hid b2
      have HNS := Lib.hid (newSymmetric v2 (octL k) w2 hv2 (by simp [octL]) (by simp [octL]))
      have HX2 := Lib.hid (hx1.below hb2 hx1.lt)
      have e0 : (W1.alloc (.cells #[] 5)).cell? ⟨wr.heap.size, 0, none⟩ = some (.slice op (octL k).length oc) := by rw [(hx1.allocd _).cell]; rfl
      rw [hW1]
      have HW1 := Lib.hid hW1
      clear hr2 hv2 hb2 b2 hb1 hx1 hW1
      go_wp2_with (at_builtin; refine Lib.wpList_append_run _ rfl _ _ _ _ rfl _ _ rfl rfl _ _ (HR2.out _) ?_)
      go_at_call 37
      refine HNS.out.mono ?_
      rintro e w3 ⟨p, m, ov, rfl, hp, hr3, hb3⟩
      have HB3 := Lib.hid (HB2.out.trans (hb3.mono HB2.out.size))
      have hx3 := HX2.out.below hb3 HX2.out.lt
      have e1 : w3.cell? ⟨wr.heap.size, 1, none⟩ = some (.bool true) := by rw [hx3.cell]; rfl
      have e2 : w3.cell? ⟨wr.heap.size, 2, none⟩ = some (.string (strOfNums (idL k))) := by rw [hx3.cell]; rfl
      have HSK := Lib.hid (setKid p m ov (idL k) w3 hr3)
      have HP : Hid (wr.heap.size ≤ p ∧ p ≤ w3.heap.size) := Lib.hid ⟨by have := HB2.out.size; omega, Nat.le_of_lt hr3.lt⟩
      have hmS := mSet ⟨p, 0, none⟩
      clear hr3 hb3 hx3 HX2 HNS HR2 e0
      go_wp2_with fail
      go_at_call 61
      refine HSK.out.mono ?_
      rintro e w4 ⟨rfl, hk4, hbut⟩
      have b4 : Below wr.heap.size wr w4 := HB3.out.trans (hbut.below HP.out.1 HP.out.2)
      have HB4 := Lib.hid b4
      have HK4 := Lib.hid hk4
      have hml := HMB.out.lt
      have hm4 := HMB.out.below b4 hml
      have k4 : w4.cell? ⟨w.heap.size, 0, none⟩ = some v := by rw [hm4.cell]; rfl
      obtain ⟨W5, hW5⟩ : ∃ W5 : World, W5 = w4.alloc (.cells #[.iface 146 (.pointer (some ⟨p, 0, none⟩))] 91) := ⟨_, rfl⟩
      have b5 : Below w4.heap.size w4 W5 := by rw [hW5]; exact (Below.refl _ _).alloc (Nat.le_refl _) _
      have hx5 : W5.cell? ⟨w4.heap.size, 0, none⟩ = some (kv p) := by rw [hW5, (Row.new w4 _ _ _ rfl).cell]; rfl
      have b45 : Below wr.heap.size wr W5 := b4.trans (b5.mono b4.size)
      obtain ⟨v', w6, hrun, ho6, hg6, -⟩ := run_appK W5 (w.heap.size + 1) 84 v ps p (HOW.out.below b45) (by have := b45.size; omega) (by omega) ⟨w4.heap.size, 0, none⟩ 1 hx5 rfl
      have hm6 : Row w6 w.heap.size 84 [v] := Row.grown (hm4.below b5 hm4.lt) hg6 (fun e => by have := ((HOW.out.below b45).rowOf e.symm).1; omega)
      have k0 : w6.cell? ⟨w.heap.size, 0, none⟩ = some v := by rw [hm6.cell]; rfl
      have kf : w6.frozen? ⟨w.heap.size, 0, none⟩ = false := hm6.unfrozen 0
      have hv' : ∃ a n c, v' = .slice a n c := by
        rcases ho6 with ⟨_, h⟩ | ⟨g, o, c, cur, h, _⟩
        · simp at h
        · exact ⟨_, _, _, h⟩
      obtain ⟨a', n', c', rfl⟩ := hv'
      have HRUN := Lib.hid hrun
      have HO6 := Lib.hid ho6
      have HG6 := Lib.hid hg6
      have HM6 := Lib.hid hm6
      have HW5 := Lib.hid hW5
      have HB5 := Lib.hid b5
      have hkw : IntKind.i64.wrap ((k : Int) + 1) = (k : Int) + 1 := IntWalk.i64_in _ (by omega)
      clear hk4 hbut b4 hm4 b5 hx5 b45 hrun ho6 hg6 hm6 hW5 HSK hmS e1 e2
      go_wp2_with (at_builtin; rw [← HW5.out]; refine Lib.wpList_append_run _ rfl _ _ _ _ rfl _ _ rfl rfl _ _ HRUN.out ?_)
      refine ⟨⟨k + 1, by omega, by rw [show ((k + 1 : Nat) : Int) = (k : Int) + 1 by omega], Lib.hid ?_⟩, by simp [intOf]; omega⟩
      exact R1.more hpl HPN.out HPB.out HMB.out HOW.out HKE.out HB.out (Nat.le_refl _) HB4.out HP.out.1 HK4.out HB5.out HO6.out HG6.out (Only.set w6 w.heap.size 0 (.slice a' n' c')) (HM6.out.set 0 _)
    · obtain ⟨wo, rfl⟩ : ∃ wo : World, wo = wr := ⟨_, rfl⟩
      have hkk : k = 6 := by omega
      subst hkk
      have hkI : ¬ ((6 : Nat) : Int) < 6 := by omega
      obtain ⟨vm, ps, hpl, hpn, hpB, hmb, hown, hkeys, hB⟩ := hR.out
      obtain ⟨gm, om, cm, rfl, hgm⟩ : ∃ g o c, vm = .slice (some ⟨g, o, none⟩) 6 c ∧ ∀ i (h : i < ps.length), wo.cell? ⟨g, o + i, none⟩ = some (kv ps[i]) := by
        rcases id hown with ⟨_, h⟩ | ⟨g, o, c, cur, rfl, _, hr, _, _, _, hc⟩
        · rw [h] at hpl; simp at hpl
        · exact ⟨g, o, c, by rw [hpl], fun i hi => by rw [hr.cell]; exact hc i hi⟩
      have HMB := Lib.hid hmb
      have HOW := Lib.hid hown
      have HKE := Lib.hid hkeys
      have HB := Lib.hid hB
      have HPN := Lib.hid hpn
      have HPL := Lib.hid hpl
      have HNS := Lib.hid (newSet wo)
      clear hmb hown hkeys hB hR hpn hpB hgm hpl
      go_wp2_with fail
      go_at_call 39
      refine HNS.out.mono ?_
      rintro e w1 ⟨s, m, rfl, hm1, hs1, hsl, hmap, hset, hb1⟩
      have HKS : Hid (KS w1 w1.heap.size w.heap.size s m (.slice (some ⟨gm, om, none⟩) 6 cm) ps (.slice none 0 0) []) := Lib.hid
        ⟨hset, .inl ⟨rfl, rfl⟩, hmap, HMB.out.below hb1 HMB.out.lt, (HOW.out.below hb1).mono (by omega), fun r hr => ((HOW.out.below hb1).rowOf hr).2.1, fun j hj => (HKE.out j hj).later hb1, (fun p hp => by cases hp), (by simp), (by have := HPL.out; omega), hsl, (by have := (HMB.out.below hb1 HMB.out.lt).lt; omega), (Array.getElem?_eq_some_iff.1 hmap).1, Nat.le_refl _⟩
      have HB1 := Lib.hid (HB.out.trans (hb1.mono HB.out.size))
      have HR2 : Hid (R2 w w1.heap.size w.heap.size s m (.slice (some ⟨gm, om, none⟩) 6 cm) ps L (.slice none 0 0) w1 0) := Lib.hid ⟨_, [], HKS.out, World.ownsRow_nil _ _ _ _, (fun j h => absurd h (Nat.not_lt_zero _)), HB1.out⟩
      obtain ⟨B, hBB⟩ : ∃ B, w1.heap.size = B := ⟨_, rfl⟩
      have HB0 : Hid (w.heap.size < B) := Lib.hid (by have := HKS.out.mbB; omega)
      have HG0 : Hid (w.heap.size ≤ s) := Lib.hid (by have := HB.out.size; omega)
      rw [hBB] at HR2
      clear hm1 hs1 hsl hmap hset hb1 HNS HKS HB1 HMB HOW HKE HB hBB
      go_wp2_with fail
      go_loopw [11, 12, 63] (fun vs vo i wr => ∃ k : Nat, k ≤ L.length ∧ vs = .iface 148 (.pointer (some ⟨s, 0, none⟩)) ∧ i = .int .i64 k ∧ Hid (R2 w B w.heap.size s m (.slice (some ⟨gm, om, none⟩) 6 cm) ps L vo wr k)) (fun _ _ i _ => L.length - (intOf i).toNat)
      case atStart => exact ⟨0, by omega, rfl, rfl, HR2⟩
      case round =>
        clear HR2
        obtain ⟨k, hkL, rfl, rfl, hR⟩ := hrel
        by_cases hkn : k < L.length
        · have hkI : (k : Int) < L.length := by omega
          obtain ⟨v, xs, hks, hxo, hfin, hB⟩ := hR.out
          obtain ⟨d0, d1, d2, d3, d4⟩ := (HS.out.below hB) k hkn
          have hst : stp L k = L[k] := by simp [stp, List.getD, hkn]
          rw [← hst] at d0 d1 d3
          obtain ⟨hka, hkq, hki⟩ := HO.out _ (List.getElem_mem hkn)
          rw [← hst] at hka hkq hki
          have HKS := Lib.hid hks
          have HXO := Lib.hid hxo
          have HFI := Lib.hid hfin
          have HB := Lib.hid hB
          have HST := Lib.hid (setP_take (ps := ps) hkn)
          have HKI := Lib.hid hki
          have HLK : Hid (lookAt ps L k = (setP ps (L.take k)).find? (fun p => decide (idOf ps p = (stp L k).2.2))) := Lib.hid rfl
          obtain ⟨x, hx⟩ : ∃ x, stp L k = x := ⟨_, rfl⟩
          rw [hx] at d0 d1 d3 hka hkq hki HST HLK HKI
          obtain ⟨ka, kq, id⟩ := x
          have HX := Lib.hid hx
          have HXL0 : Hid (∀ r, u12.ownBlock = some r → r < wr.heap.size) := Lib.hid (fun r hr => (own_row hxo hr).2.1)
          simp only at d0 d1 d3 hka hkq hki HKI HLK
          clear hks hxo hfin hB hst hki hR hx
          go_upto_region 17 with (fail)
          obtain ⟨W1, hW1⟩ : ∃ W1 : World, (wr.alloc (.cells #[.int .i64 ka, .int .i64 kq, .int .i64 0, .string (strOfNums id), .string (⟨#[]⟩ : ByteArray)] 45)).alloc (.cells #[.bool true, .int .i64 (-1), .int .i64 (-1), .int .i64 0, .slice none 0 0, .slice none 0 0] 59) = W1 := ⟨_, rfl⟩
          obtain ⟨hrs, hrx, hs1, hb1⟩ := two hW1
          have HRX := Lib.hid hrx
          have HRS := Lib.hid hrs
          have HKS1 := Lib.hid (HKS.out.below hb1)
          have HXO1 := Lib.hid (own_below HXO.out hb1)
          have HB1 := Lib.hid (HB.out.trans (hb1.mono HB.out.size))
          have HBs : Hid (B ≤ wr.heap.size) := Lib.hid HKS.out.BB
          have f0 : W1.cell? ⟨wr.heap.size, 0, none⟩ = some (.int .i64 ka) := by rw [hrs.cell]; rfl
          have f1 : W1.cell? ⟨wr.heap.size, 1, none⟩ = some (.int .i64 kq) := by rw [hrs.cell]; rfl
          have f3 : W1.cell? ⟨wr.heap.size, 3, none⟩ = some (.string (strOfNums id)) := by rw [hrs.cell]; rfl
          have fm : W1.cell? ⟨w.heap.size, 0, none⟩ = some (.slice (some ⟨gm, om, none⟩) 6 cm) := by rw [HKS1.out.mbx.cell]; rfl
          have hq0 : (0 : Int) ≤ kq := by omega
          have hq6 : (kq : Int) < 6 := by omega
          rw [hW1]
          clear hrs hrx hs1 hb1 hW1 d0 d1 d2 d3 d4 HKS HXO HB
          go_upto_block 4 with (fail)
          go_cut [11] from 64 to 249 (fun vs wc => vs = .iface 148 (.pointer (some ⟨s, 0, none⟩)) ∧ Hid (R3 w B w.heap.size s m (.slice (some ⟨gm, om, none⟩) 6 cm) ps L u12 k (wr.heap.size + 1) xs wc))
          case first =>
            have HSL : Hid ((setP ps (L.take k)).length ≤ 800) := Lib.hid (by have := setP_len ps (L.take k) []; simp at this; unfold setP; omega)
            have HXL : Hid (∀ r, u12.ownBlock = some r → r < wr.heap.size + 1) := Lib.hid (fun r hr => by have := HXL0.out r hr; omega)
            have hkql : kq < ps.length := by have := HPL.out; omega
            obtain ⟨pq, hpq⟩ : ∃ p, ps[kq] = p := ⟨_, rfl⟩
            have fq : W1.cell? ⟨gm, om + kq, none⟩ = some (kv pq) := by rw [← hpq]; exact HKS1.out.elem kq hkql
            have HQM : Hid (pq ∈ ps) := Lib.hid (by rw [← hpq]; exact List.getElem_mem hkql)
            have HQD : Hid (ps.getD kq 0 = pq) := Lib.hid (by simp [List.getD, hkql, hpq])
            have hmA := mAdd ⟨s, 0, none⟩
            have hmR := mRemove ⟨s, 0, none⟩
            have hnA := nAdd ⟨s, 0, none⟩
            have hnR := nRemove ⟨s, 0, none⟩
            have hmL := mLook ⟨s, 0, none⟩
            unfold kv at *
            rcases hka with rfl | rfl | rfl
            · have e0 : ((0 : Nat) : Int) = 0 := rfl
              rw [e0] at f0
              have HA := Lib.hid (HKS1.out.add2 hkql HSL.out HRX.out (by have := HBs.out; omega) HRS.out HBs.out rfl)
              rw [hpq] at HA
              unfold kv at HA
              go_upto_region 19 with (fail)
              have SQ1 : Hid (SQ W1.drew w.heap.size wr.heap.size gm (om + kq) (.slice (some ⟨gm, om, none⟩) 6 cm) kq pq) := Lib.hid ⟨fm, f1, fq⟩
              clear hpq
              go_region_held3 (fun w' => w'.cell? ⟨w.heap.size, 0, none⟩ = some (.slice (some ⟨gm, om, none⟩) 6 cm) ∧ w'.cell? ⟨wr.heap.size, 1, none⟩ = some (.int .i64 kq) ∧ w'.cell? ⟨gm, om + kq, none⟩ = some (.iface 146 (.pointer (some ⟨pq, 0, none⟩)))) (first | exact SQ1.out | exact SQ2.out | exact SQ3.out _)
                (first | (go_at_call 233; refine HA.out.mono ?_; rintro e w2 ⟨x, v', b, rfl, hb, hb2, HKS2, HKF, g0, gf, HRX2, SQ2, SQ3⟩))
              all_goals
                (go_wp2_with fail
                 go_meet
                 exact ⟨rfl, Lib.hid (R3.of (okv := b) (fv := -1) HKS1.out HXO1.out HB1.out HXL.out HG0.out (Nat.le_of_lt HB0.out) (by have := HBs.out; omega) HRX.out HKF.out HKS2.out (by rw [HST.out, ← HQD.out]; rfl) (Only.set w2 (wr.heap.size + 1) 0 (.bool b)) (HRX2.out.set 0 (.bool b)) (fun h => by rw [HX.out] at h; cases h))⟩)
            · have e0 : ((1 : Nat) : Int) = 1 := rfl
              rw [e0] at f0
              have HA := Lib.hid (HKS1.out.remove2 hkql HRX.out (by have := HBs.out; omega) HRS.out HBs.out rfl)
              rw [hpq] at HA
              unfold kv at HA
              go_upto_region 21 with (fail)
              have SQ1 : Hid (SQ W1.drew w.heap.size wr.heap.size gm (om + kq) (.slice (some ⟨gm, om, none⟩) 6 cm) kq pq) := Lib.hid ⟨fm, f1, fq⟩
              clear hpq
              go_region_held3 (fun w' => w'.cell? ⟨w.heap.size, 0, none⟩ = some (.slice (some ⟨gm, om, none⟩) 6 cm) ∧ w'.cell? ⟨wr.heap.size, 1, none⟩ = some (.int .i64 kq) ∧ w'.cell? ⟨gm, om + kq, none⟩ = some (.iface 146 (.pointer (some ⟨pq, 0, none⟩)))) (first | exact SQ1.out | exact SQ2.out | exact SQ3.out _)
                (first | (go_at_call 243; refine HA.out.mono ?_; rintro e w2 ⟨x, v', b, rfl, hb, hb2, HKS2, HKF, g0, gf, HRX2, SQ2, SQ3⟩))
              all_goals
                (go_wp2_with fail
                 go_meet
                 exact ⟨rfl, Lib.hid (R3.of (okv := b) (fv := -1) HKS1.out HXO1.out HB1.out HXL.out HG0.out (Nat.le_of_lt HB0.out) (by have := HBs.out; omega) HRX.out HKF.out HKS2.out (by rw [HST.out, ← HQD.out]; rfl) (Only.set w2 (wr.heap.size + 1) 0 (.bool b)) (HRX2.out.set 0 (.bool b)) (fun h => by rw [HX.out] at h; cases h))⟩)
            · have e0 : ((4 : Nat) : Int) = 4 := rfl
              rw [e0] at f0
              have HA := Lib.hid (HKS1.out.lookup HPN.out (by have := HPL.out; omega) id HKI.out)
              have HLS : Hid (∀ p, lookAt ps L k = some p → p ∈ ps) := Lib.hid (fun p hp => by
                rw [HLK.out] at hp
                exact HKS1.out.sub p (List.mem_of_find?_eq_some hp))
              have hA2 := HA.out
              rw [show ((setP ps (L.take k)).find? fun p => decide (idOf ps p = id)) = lookAt ps L k from HLK.out.symm] at hA2
              have g0 : W1.cell? ⟨wr.heap.size + 1, 0, none⟩ = some (.bool true) := by rw [HRX.out.cell]; rfl
              have gf0 : W1.frozen? ⟨wr.heap.size + 1, 0, none⟩ = false := HRX.out.unfrozen 0
              have HFU : Hid (setP ps (L.take (k + 1)) = setP ps (L.take k)) := Lib.hid (by rw [HST.out]; rfl)
              cases hlk : lookAt ps L k with
              | none =>
                rw [hlk] at hA2
                unfold found at hA2
                have HA2 := Lib.hid hA2
                have HLKN := Lib.hid hlk
                clear hA2 hlk HA
                go_wp2_with fail
                go_at_call 241
                refine HA2.out.mono ?_
                rintro e w2 ⟨rfl, rfl⟩
                clear HA2
                go_wp2_with fail
                go_meet
                exact ⟨rfl, Lib.hid (R3.of (okv := false) (fv := -1) HKS1.out HXO1.out HB1.out HXL.out HG0.out (Nat.le_of_lt HB0.out) (by have := HBs.out; omega) HRX.out (KF.below (Below.refl _ _)) HKS1.out HFU.out (Only.set w2 (wr.heap.size + 1) 0 (.bool false)) (HRX.out.set 0 (.bool false)) (fun h => by rw [HLKN.out]; exact ⟨rfl, rfl⟩))⟩
              | some p =>
                rw [hlk] at hA2
                unfold found kv at hA2
                have HA2 := Lib.hid hA2
                have HLKN := Lib.hid hlk
                have HPM := Lib.hid (HLS.out p hlk)
                clear hA2 hlk HA
                go_wp2_with fail
                go_at_call 241
                refine HA2.out.mono ?_
                rintro e w2 ⟨rfl, rfl⟩
                clear HA2
                have o3 := Only.set w2 (wr.heap.size + 1) 0 (.bool true)
                obtain ⟨w3, hw3⟩ : ∃ w3 : World, w2.setCell ⟨wr.heap.size + 1, 0, none⟩ (.bool true) = w3 := ⟨_, rfl⟩
                have hrx3 : Row w3 (wr.heap.size + 1) 59 [.bool true, .int .i64 (-1), .int .i64 (-1), .int .i64 0, .slice none 0 0, .slice none 0 0] := by rw [← hw3]; exact HRX.out.set 0 (.bool true)
                rw [hw3] at o3
                have hks3 := HKS1.out.only HRX.out (by decide) (by have := HBs.out; omega) o3
                have HAT := Lib.hid (hks3.at p HPM.out)
                have g2 : w3.cell? ⟨wr.heap.size + 1, 2, none⟩ = some (.int .i64 (-1)) := by rw [hrx3.cell]; rfl
                have gf2 : w3.frozen? ⟨wr.heap.size + 1, 2, none⟩ = false := hrx3.unfrozen 2
                have HRX3 := Lib.hid hrx3
                have HO3 := Lib.hid o3
                have HW3 := Lib.hid hw3
                unfold kv at HAT
                clear hrx3 o3 hks3 hw3
                go_upto_region 33 with (fail)
                rw [HW3.out]
                go_wp2_with fail
                go_at_call 38
                refine HAT.out.mono ?_
                rintro e w4 ⟨rfl, rfl⟩
                go_wp2_with fail
                go_meet
                exact ⟨rfl, Lib.hid (R3.of (okv := true) (fv := at? p ps) HKS1.out HXO1.out HB1.out HXL.out HG0.out (Nat.le_of_lt HB0.out) (by have := HBs.out; omega) HRX.out (KF.below (Below.refl _ _)) HKS1.out HFU.out (HO3.out.thn (Only.set w4 (wr.heap.size + 1) 2 (.int .i64 (at? p ps)))) (HRX3.out.set 2 (.int .i64 (at? p ps))) (fun h => by rw [HLKN.out]; exact ⟨rfl, rfl⟩))⟩
          case rest =>
            obtain ⟨rfl, hR3⟩ := hcut
            obtain ⟨v3, okv, fv, hks, hrow, h4, hxo, hB⟩ := hR3.out
            have HSB : Hid (B ≤ wr.heap.size + 1) := Lib.hid (by have := HBs.out; omega)
            have HXL : Hid (∀ r, u12.ownBlock = some r → r < wr.heap.size + 1) := Lib.hid (fun r hr => by have := HXL0.out r hr; omega)
            obtain ⟨sb, hsbe⟩ : ∃ sb, wr.heap.size + 1 = sb := ⟨_, rfl⟩
            rw [hsbe] at hrow HSB HXL ⊢
            obtain ⟨S, hS⟩ : ∃ S, setP ps (L.take (k + 1)) = S := ⟨_, rfl⟩
            rw [hS] at hks
            have HS2 := Lib.hid hS
            have hSl : S.length ≤ 900 := hks.len
            have HKS := Lib.hid hks
            have HROW := Lib.hid hrow
            have H4 := Lib.hid h4
            have HXO := Lib.hid hxo
            have HB := Lib.hid hB
            have HKY := Lib.hid hks.setKeys
            have hmK := mKeys ⟨s, 0, none⟩
            have hmN := mLen ⟨s, 0, none⟩
            have hmE := mKey ⟨s, 0, none⟩
            clear hks hrow h4 hxo hB hR3 hS hsbe HRX HRS HKS1 HXO1 HB1 HBs f0 f1 f3 fm hq0 hq6 HST HLK HKI HX HXL0 hka hkq
            go_wp2_with fail
            go_at_call 239
            refine HKY.out.mono ?_
            rintro e w2 ⟨⟨g, rfl⟩, b2⟩
            have B2 := Lib.hid b2
            have HV := Lib.hid (valuesz (some ⟨g, 0, none⟩) 0 0 w2)
            clear b2 HKY hmK
            go_wp2_with fail
            go_at_call 41
            refine HV.out.mono ?_
            rintro e w3 ⟨rfl, hw3⟩
            have r3 : Row w3 w2.heap.size 57 [.slice (some ⟨g, 0, none⟩) 0 0] := by rw [hw3]; exact Row.alloc w2 _ _
            have b3 : Below w2.heap.size w2 w3 := by rw [hw3]; exact (Below.refl _ _).alloc (Nat.le_refl _) _
            have HSO := Lib.hid (sortedz w2.heap.size g w3 (by rw [r3.cell]; rfl))
            have B3 := Lib.hid (B2.out.trans (b3.mono B2.out.size))
            clear r3 b3 hw3 HV
            go_wp2_with fail
            go_at_call 40
            refine HSO.out.mono ?_
            rintro e w4 ⟨rfl, b4⟩
            have B4 : Hid (Below wc.heap.size wc w4) := Lib.hid (B3.out.trans (b4.mono B3.out.size))
            have hrow4 := HROW.out.below B4.out HROW.out.lt
            have g5 : w4.cell? ⟨sb, 5, none⟩ = some (.slice none 0 0) := by rw [hrow4.cell]; rfl
            have gf5 : w4.frozen? ⟨sb, 5, none⟩ = false := hrow4.unfrozen 5
            obtain ⟨w5, hw5⟩ : ∃ w5 : World, w4.setCell ⟨sb, 5, none⟩ (.slice none 0 0) = w5 := ⟨_, rfl⟩
            have o5 : Only sb w4 w5 := by rw [← hw5]; exact Only.set w4 sb 5 _
            have hrow5 : Row w5 sb 59 [.bool okv, .int .i64 (-1), .int .i64 fv, .int .i64 0, .slice none 0 0, .slice none 0 0] := by rw [← hw5]; exact hrow4.set 5 _
            have hks5 := (HKS.out.below B4.out).only hrow4 (by decide) HSB.out o5
            have hxo5 : w5.ownsRow B 59 6 u12 k xs := own_same (own_below HXO.out B4.out) (fun r hr => o5.block r (by have := HXL.out r hr; omega))
            have hb5 : Below w.heap.size w w5 := o5.belowOf (HB.out.trans (B4.out.mono HB.out.size)) (by have := HB0.out; have := HSB.out; omega)
            have HLEN := Lib.hid hks5.setLen
            have g3 : w5.cell? ⟨sb, 3, none⟩ = some (.int .i64 0) := by rw [hrow5.cell]; rfl
            have gf3 : w5.frozen? ⟨sb, 3, none⟩ = false := hrow5.unfrozen 3
            obtain ⟨w7, hw7⟩ : ∃ w7 : World, w5.setCell ⟨sb, 3, none⟩ (.int .i64 S.length) = w7 := ⟨_, rfl⟩
            have o7 : Only sb w5 w7 := by rw [← hw7]; exact Only.set w5 sb 3 _
            have hrow7 : Row w7 sb 59 [.bool okv, .int .i64 (-1), .int .i64 fv, .int .i64 S.length, .slice none 0 0, .slice none 0 0] := by rw [← hw7]; exact hrow5.set 3 _
            have HR4 : Hid (R4 w B w.heap.size s m (.slice (some ⟨gm, om, none⟩) 6 cm) ps u12 k sb xs v3 S okv fv w7 0) := Lib.hid ⟨_, [], hks5.only hrow5 (by decide) HSB.out o7, hrow7, World.ownsRow_nil _ _ _ _, own_same hxo5 (fun r hr => o7.block r (by have := HXL.out r hr; omega)), o7.belowOf hb5 (by have := HB0.out; have := HSB.out; omega)⟩
            have HW5 := Lib.hid hw5
            have HW7 := Lib.hid hw7
            clear b4 hrow4 o5 hrow5 hks5 hxo5 hb5 o7 hrow7 hw5 hw7 HSO B2 B3 B4 HKS HROW HXO HB
            go_upto_region 46 with (fail)
            rw [HW5.out]
            go_wp2_with fail
            go_at_call 240
            refine HLEN.out.mono ?_
            rintro e w6 ⟨rfl, hw6⟩
            subst hw6
            clear HLEN
            go_upto_region 47 with (fail)
            rw [HW7.out]
            go_wp2_with fail
            go_loopw [23] (fun i wy => ∃ j : Nat, j ≤ S.length ∧ i = .int .i64 j ∧ Hid (R4 w B w.heap.size s m (.slice (some ⟨gm, om, none⟩) 6 cm) ps u12 k sb xs v3 S okv fv wy j)) (fun i _ => S.length - (intOf i).toNat)
            case atStart => exact ⟨0, by omega, rfl, HR4⟩
            case round =>
              clear HR4
              obtain ⟨j, hj, rfl, hR4⟩ := hrel
              obtain ⟨va, ys, hks, hrow, hva, hxo, hB⟩ := hR4.out
              have HKS := Lib.hid hks
              have HROW := Lib.hid hrow
              have HVA := Lib.hid hva
              have HXO := Lib.hid hxo
              have HB := Lib.hid hB
              have HLEN := Lib.hid hks.setLen
              by_cases hjn : j < S.length
              · have hjI : (j : Int) < S.length := by omega
                have hjw : IntKind.i64.wrap ((j : Int) + 1) = (j : Int) + 1 := IntWalk.i64_in _ (by omega)
                have hk2 := hks.setKey j hjn
                have hat := hks.drew.at S[j] (hks.sub _ (List.getElem_mem hjn))
                obtain ⟨q, hq⟩ : ∃ q, S[j] = q := ⟨_, rfl⟩
                rw [hq] at hk2 hat
                obtain ⟨a, ha⟩ : ∃ a, at? q ps = a := ⟨_, rfl⟩
                rw [ha] at hat
                unfold kv at hk2 hat
                have HKEY := Lib.hid hk2
                have HAT := Lib.hid hat
                have b5 : Below wr.heap.size wr (wr.drew.alloc (.cells #[.int .i64 a] 3)) := (below_drewd (Below.refl wr.heap.size wr)).alloc (Nat.le_refl _) _
                have hrow5 := hrow.below b5 hrow.lt
                have g4 : wr.cell? ⟨sb, 4, none⟩ = some va := by rw [hrow.cell]; rfl
                have g45 : (wr.alloc (.cells #[.int .i64 a] 3)).cell? ⟨sb, 4, none⟩ = some va := by rw [(hrow.allocd _).cell]; rfl
                obtain ⟨i0, hi, hz0, hz1, hz2⟩ := info_parts (P := Tryz.prog) (e := 3) (z := .int .i64 0) (size := 1) (bytes := 8) (by kernel_rfl)
                have hnew : ∀ (jj : Nat) (u : Value), [Value.int .i64 a][jj]? = some u → (wr.drew.alloc (.cells #[.int .i64 a] 3)).cell? ((⟨wr.heap.size, 0, none⟩ : Addr).add jj) = some u := fun jj u hu => by
                  have hr5 : Row (wr.drew.alloc (.cells #[.int .i64 a] 3)) wr.heap.size 3 [.int .i64 a] := Row.alloc wr.drew [.int .i64 a] _
                  rw [Go.WideShapes.add_plain, hr5.cell, Nat.zero_add]; exact hu
                obtain ⟨va', w6, hrun, ho6, hg6, -⟩ := run_append_own (P := Tryz.prog) (wr.drew.alloc (.cells #[.int .i64 a] 3)) B 56 56 3 i0 (.int .i64 0) 1 8 Tryz.underlying56 hi hz0 hz1 hz2 rfl (by decide) va j ys (own_below hva b5) ⟨wr.heap.size, 0, none⟩ 1 1 [.int .i64 a] rfl hnew (by intro u hu; simp at hu; subst hu; rfl) (by unfold maxLen; omega) (by omega) (by have := hks.BB; have := b5.size; omega)
                have hsbva : some sb ≠ va.ownBlock := fun e => by
                  obtain ⟨_, _, cs, h3⟩ := own_row hva e.symm
                  exact absurd (hrow.type h3) (by decide)
                have hrow6 : Row w6 sb 59 _ := Row.grown hrow5 hg6 hsbva
                have g46 : w6.cell? ⟨sb, 4, none⟩ = some va := by rw [hrow6.cell]; rfl
                have gf46 : w6.frozen? ⟨sb, 4, none⟩ = false := hrow6.unfrozen 4
                obtain ⟨a', n', c', rfl⟩ : ∃ a n c, va' = .slice a n c := by
                  rcases ho6.2 with ⟨h, _⟩ | ⟨g, cap, cur, h, _⟩
                  · exact ⟨_, _, _, h⟩
                  · exact ⟨_, _, _, h⟩
                have HRUN := Lib.hid hrun
                have HO6 := Lib.hid ho6
                have HG6 := Lib.hid hg6
                have HROW6 := Lib.hid hrow6
                have HB5 := Lib.hid b5
                clear hks hrow hva hxo hB hR4 hk2 hat hq ha b5 hrow5 hi hz0 hz1 hz2 hnew hrun ho6 hg6 hsbva hrow6
                go_wp2_with fail
                go_at_call 240
                refine HLEN.out.mono ?_
                rintro e w8 ⟨rfl, hw8⟩
                subst hw8
                clear HLEN
                go_wp2_with fail
                go_at_call 238
                refine HKEY.out.mono ?_
                rintro e w9 ⟨rfl, hw9⟩
                subst hw9
                clear HKEY
                go_upto_region 52 with (fail)
                go_region_law (first
                  | (refine step_appendR rfl _ _ _ rfl _ _ rfl rfl _ _ HRUN.out ?_)
                  | (go_simp; go_at_call 38; refine HAT.out.mono ?_; rintro e wx ⟨rfl, rfl⟩))
                all_goals
                  (go_wp2_with fail
                   exact ⟨⟨j + 1, by omega, by rw [show ((j + 1 : Nat) : Int) = (j : Int) + 1 by omega], Lib.hid (R4.more HKS.out HROW.out HVA.out HXO.out HB.out HXL.out (Nat.le_of_lt HB0.out) HSB.out HB5.out HO6.out HG6.out (Only.set w6 sb 4 (.slice a' n' c')) (HROW6.out.set 4 (.slice a' n' c')))⟩, by simp [intOf]; omega⟩)
              · obtain rfl : j = S.length := by omega
                have hjI : ¬ (S.length : Int) < S.length := by omega
                have hkw : IntKind.i64.wrap ((k : Int) + 1) = (k : Int) + 1 := IntWalk.i64_in _ (by omega)
                have c0 : wr.cell? ⟨sb, 0, none⟩ = some (.bool okv) := by rw [hrow.cell]; rfl
                have c1 : wr.cell? ⟨sb, 1, none⟩ = some (.int .i64 (-1)) := by rw [hrow.cell]; rfl
                have c2 : wr.cell? ⟨sb, 2, none⟩ = some (.int .i64 fv) := by rw [hrow.cell]; rfl
                have c3 : wr.cell? ⟨sb, 3, none⟩ = some (.int .i64 S.length) := by rw [hrow.cell]; rfl
                have c4 : wr.cell? ⟨sb, 4, none⟩ = some va := by rw [hrow.cell]; rfl
                have c5 : wr.cell? ⟨sb, 5, none⟩ = some (.slice none 0 0) := by rw [hrow.cell]; rfl
                obtain ⟨W5, hW5⟩ : ∃ W5 : World, W5 = wr.alloc (.cells #[.bool okv, .int .i64 (-1), .int .i64 fv, .int .i64 S.length, va, .slice none 0 0] 59) := ⟨_, rfl⟩
                have b5 : Below wr.heap.size wr W5 := by rw [hW5]; exact (Below.refl _ _).alloc (Nat.le_refl _) _
                have hr5 : Row W5 wr.heap.size 59 [.bool okv, .int .i64 (-1), .int .i64 fv, .int .i64 S.length, va, .slice none 0 0] := by rw [hW5]; exact Row.alloc wr _ _
                obtain ⟨i0, hi, hz0, hz1, hz2⟩ := info_parts (P := Tryz.prog) (e := 59) (z := .agg #[.bool false, .int .i64 0, .int .i64 0, .int .i64 0, .slice none 0 0, .slice none 0 0]) (size := 6) (bytes := 80) (by kernel_rfl)
                have hsl : va.oneCell' = true := by
                  rcases hva.2 with ⟨h, _⟩ | ⟨g, cap, cur, h, _⟩ <;> (rw [h]; rfl)
                obtain ⟨vo', w6, hrun, ho6, hg6, -⟩ := run_append_own (P := Tryz.prog) W5 B 53 53 59 i0 _ 6 80 Tryz.underlying53 hi hz0 hz1 hz2 rfl (by decide) u12 k xs (own_below hxo b5) ⟨wr.heap.size, 0, none⟩ 1 1 [.bool okv, .int .i64 (-1), .int .i64 fv, .int .i64 S.length, va, .slice none 0 0] rfl (fun jj u hu => by rw [Go.WideShapes.add_plain, hr5.cell, Nat.zero_add]; exact hu) (by intro u hu; simp only [List.mem_cons, List.not_mem_nil, or_false] at hu; rcases hu with rfl | rfl | rfl | rfl | rfl | rfl <;> first | rfl | exact hsl) (by unfold maxLen; omega) (by omega) (by have := hks.BB; have := b5.size; omega)
                obtain ⟨a', n', c', rfl⟩ : ∃ a n c, va = .slice a n c := by
                  rcases hva.2 with ⟨h, _⟩ | ⟨g, cap, cur, h, _⟩
                  · exact ⟨_, _, _, h⟩
                  · exact ⟨_, _, _, h⟩
                have HRUN := Lib.hid hrun
                have HO6 := Lib.hid ho6
                have HG6 := Lib.hid hg6
                have HB5 := Lib.hid b5
                have HW5 := Lib.hid hW5
                clear hks hrow hva hxo hB hR4 b5 hr5 hi hz0 hz1 hz2 hrun ho6 hg6 hW5 hsl
                go_wp2_with fail
                go_at_call 240
                refine HLEN.out.mono ?_
                rintro e w8 ⟨rfl, hw8⟩
                subst hw8
                clear HLEN
                go_wp2_with (at_builtin; rw [← HW5.out]; refine Lib.wpList_append_run _ rfl _ _ _ _ rfl _ _ rfl rfl _ _ HRUN.out ?_)
                exact ⟨⟨k + 1, by omega, rfl, by rw [show ((k + 1 : Nat) : Int) = (k : Int) + 1 by omega], Lib.hid (R2.more HKS.out HS2.out HXO.out HFI.out HB.out (Nat.le_of_lt HB0.out) H4.out HB5.out HO6.out HG6.out)⟩, by simp [intOf]; omega⟩
        · obtain rfl : k = L.length := by omega
          obtain ⟨v, xs, hks, hxo, hfin, hB⟩ := hR.out
          have HXO := Lib.hid hxo
          have HFI := Lib.hid hfin
          have HB := Lib.hid hB
          clear hks hxo hfin hB hR
          go_wp2_with fail
          go_ret
          exact ⟨⟨_, B, ps, xs, rfl, HPL.out, HPN.out, Nat.le_of_lt HB0.out, HXO.out, HFI.out⟩, HB.out⟩
end Go.Proofs.YtaemdppihpefnaaGreatDoor
