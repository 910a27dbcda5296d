/- spec.Hash's MAC with a nil key: so many bytes; new memory only (blocks of 128 bytes). -/
import Derived.Test.YtpmoaghhccioaaaGreatSpSum128
namespace Go.Proofs.YtpmoaghhccioaaaGreat
open Go.RowKit
set_option linter.unusedVariables false

set_option maxRecDepth 100000 in
set_option maxHeartbeats 4000000 in
theorem mac128 (sz : Nat) (s : S8) (gk ck nk : Nat) (zk : Nat → Int) (vb : Value) (xs : List Int) (w : World) (hs0 : 0 < sz) (hs1 : sz ≤ 64) (hnk : nk ≤ 100)
    (hk : ∀ i, i < nk → w.cell? ⟨gk, i, none⟩ = some (.int .u64 (zk i))) (hgk : gk < w.heap.size) (hb : Bs w vb xs) (hn1 : xs.length ≤ 1000) :
    Calls Tryz.prog 15 #[hv sz 128 true (.slice (some ⟨gk, 0, none⟩) nk ck) s, .slice none 0 0, vb] w fun e w' => (∃ v zs, e = .returned v ∧ w'.ownsRow w.heap.size 5 1 v sz (cs8 zs)) ∧ Below w.heap.size w w' := by
  have HK := Lib.hid hk
  have HB := Lib.hid hb
  clear hk hb
  unfold hv
  have hsI : ((sz : Int) == 0) = false := by simp; omega
  have hsz0 : ¬ ((sz : Int) = 0) := by omega
  obtain ⟨Z, hZ⟩ : ∃ Z : List Value, Z = List.replicate 128 (.int .u8 0) := ⟨_, rfl⟩
  have hmk : ∀ wx, (Instr.makeSlice 22 (.int .i64 128) (.int .i64 128)).run Tryz.prog wx = .ok (.slice (some ⟨wx.heap.size, 0, none⟩) 128 128) (wx.alloc (.cells Z.toArray 5)) := fun wx => by
    rw [hZ]; exact run_makeN Tryz.prog 22 5 (.int .u8 0) 1 Tryz.underlying22 (by kernel_rfl) rfl 128 (by omega) (by decide) wx
  have HZ := Lib.hid hZ
  clear hZ
  have hcp : ∀ (g : Nat) wx, (Builtin.copy_ #[22, 22] 3 #[.slice (some ⟨g, 0, none⟩) 128 128, .slice none 0 0]).run Tryz.prog wx = .ok (.int .i64 0) wx := fun g wx => by kernel_rfl
  go_enter Tryz.func15, Tryz.ntmps15
  go_wp2_with fail
  go_region
  · go_wp2_with fail
    generalize hW : World.alloc _ _ = W
    obtain ⟨R1, R2, R3, hWs, hWB⟩ := three hW
    clear hW hmk hcp
    have hZ8 : Z = cs8 (List.replicate 128 0) := by rw [HZ.out]; simp [cs8]
    have RX := Lib.hid (show Row W.drew w.heap.size 51 (hc sz 128 true (.slice (some ⟨gk, 0, none⟩) nk ck) s) from row_drewd R1)
    have RI := Lib.hid (show Row W.drew (w.heap.size + 1) 5 (cs8 (List.replicate 128 0)) by rw [← hZ8]; exact row_drewd R2)
    have RO := Lib.hid (show Row W.drew (w.heap.size + 1 + 1) 5 (cs8 (List.replicate 128 0)) by rw [← hZ8]; exact row_drewd R3)
    have B0 := Lib.hid (below_drewd hWB)
    have hsz3 : W.drew.heap.size = w.heap.size + 1 + 1 + 1 := hWs
    clear R1 R2 R3 hWB hWs hZ8
    generalize W.drew = w3 at *
    go_loopw [35] (fun i wr => ∃ (k : Nat) (A B : List Int), k ≤ 128 ∧ i = .int .i64 k ∧ A.length = 128 ∧ B.length = 128 ∧ Hid (Row wr (w.heap.size + 1) 5 (cs8 A)) ∧ Hid (Row wr (w.heap.size + 1 + 1) 5 (cs8 B)) ∧ Hid (Below (w.heap.size + 1) w3 wr)) (fun i _ => 128 - (intOf i).toNat)
    case atStart => exact ⟨0, _, _, by omega, rfl, by simp, by simp, RI, RO, Lib.hid (Below.refl _ _)⟩
    case round =>
      obtain ⟨k, A, B, hk, rfl, hA, hBl, hI, hO, hB⟩ := hrel
      by_cases hkl : k < 128
      · have cI : wr.cell? ⟨w.heap.size + 1, k, none⟩ = some (.int .u8 (A.getD k 0)) := by rw [hI.out.cell, get_cs8 _ _ (by omega)]
        have cO : wr.cell? ⟨w.heap.size + 1 + 1, k, none⟩ = some (.int .u8 (B.getD k 0)) := by rw [hO.out.cell, get_cs8 _ _ (by omega)]
        have fI := hI.out.unfrozen k
        have fO := hO.out.unfrozen k
        obtain ⟨a0, ha0⟩ : ∃ x, x = A.getD k 0 := ⟨_, rfl⟩
        obtain ⟨b0, hb0⟩ : ∃ x, x = B.getD k 0 := ⟨_, rfl⟩
        rw [← ha0] at cI
        rw [← hb0] at cO
        clear ha0 hb0
        have hkI : (k : Int) < 128 := by omega
        go_wp2_with fail
        refine ⟨⟨k + 1, A.set k _, B.set k _, by omega, by go_num, by rw [List.length_set]; exact hA, by rw [List.length_set]; exact hBl, Lib.hid ((set8b hI.out k _).only (Only.set _ _ _ _) (by omega)), Lib.hid (set8b (hO.out.only (Only.set _ _ _ _) (by omega)) k _), Lib.hid ((hB.out.setCell (show w.heap.size + 1 ≤ w.heap.size + 1 by omega) _).setCell (show w.heap.size + 1 ≤ w.heap.size + 1 + 1 by omega) _)⟩, by simp [intOf]; omega⟩
      · obtain rfl : k = 128 := by omega
        clear RI RO
        go_wp2_with fail
        have hIx := Lib.hid (own_full (row_drewd hI.out) (w.heap.size + 1) 128 (by omega) hA (by decide))
        have hOx := Lib.hid (own_full (row_drewd hO.out) (w.heap.size + 1) 128 (by omega) hBl (by decide))
        have hB := Lib.hid (below_drewd hB.out)
        have hLx := Lib.hid (show w.heap.size + 1 ≤ wr.drew.heap.size by have := hI.out.lt; show _ ≤ wr.heap.size; omega)
        have K3 := Lib.hid (show ∀ i, i < nk → w3.cell? ⟨gk, i, none⟩ = some (.int .u64 (zk i)) from fun i hi => by rw [B0.out.cell hgk]; exact HK.out i hi)
        clear hI hO
        go_region_held3 (fun w' => w'.cell? ⟨w.heap.size, 0, none⟩ = some (.int .i64 sz) ∧ w'.cell? ⟨w.heap.size, 1, none⟩ = some (.int .i64 128) ∧ w'.cell? ⟨w.heap.size, 2, none⟩ = some (.bool true) ∧ w'.cell? ⟨w.heap.size, 3, none⟩ = some (.slice (some ⟨gk, 0, none⟩) nk ck) ∧ w'.cell? ⟨w.heap.size, 4, none⟩ = some (.int .u64 s.a) ∧ w'.cell? ⟨w.heap.size, 5, none⟩ = some (.int .u64 s.b) ∧ w'.cell? ⟨w.heap.size, 6, none⟩ = some (.int .u64 s.c) ∧ w'.cell? ⟨w.heap.size, 7, none⟩ = some (.int .u64 s.d) ∧ w'.cell? ⟨w.heap.size, 8, none⟩ = some (.int .u64 s.e) ∧ w'.cell? ⟨w.heap.size, 9, none⟩ = some (.int .u64 s.f) ∧ w'.cell? ⟨w.heap.size, 10, none⟩ = some (.int .u64 s.g) ∧ w'.cell? ⟨w.heap.size, 11, none⟩ = some (.int .u64 s.h))
          (exact cells12 (RX.out.below hB.out (Nat.lt_succ_self _)))
          (first
            | (refine step_appendB rfl _ _ 22 rfl (w.heap.size + 1) 5 Tryz.underlying22 (by kernel_rfl) (.slice (some ⟨w.heap.size + 1, 0, none⟩) 128 128) 128 (cs8 A) rfl hIx.out (by decide) vb xs rfl (HB.out.below (B0.out.trans (hB.out.mono (by omega)))) (by omega) hLx.out ?_; intro ga ca wa oa gra hga hla; have oa := Lib.hid (show wa.ownsRow (w.heap.size + 1) 5 1 (.slice (some ⟨ga, 0, none⟩) (128 + xs.length) ca) (128 + xs.length) (cs8 (A ++ xs)) by rw [← cs8_append]; exact oa); have hOx := Lib.hid (hOx.out.kept gra (Or.inr (by simp [Value.ownBlock]))); have hB := Lib.hid (hB.out.grown gra hLx.out (fun k hk => own_ge hIx.out k hk)); have hLx := Lib.hid (Nat.le_trans hLx.out gra.size); clear gra)
            | (go_at_call 21; refine (sum128 sz s gk ck nk zk ga 0 ca (128 + xs.length) (A ++ xs) _ hs0 hs1 hnk (fun i hi => by rw [hB.out.cell (by show gk < _; omega)]; exact K3.out i hi) (by have := hLx.out; omega) (Bs.own oa.out) (by omega) (by omega) (by rw [List.length_append]; omega)).mono ?_; rintro e wb ⟨⟨v1, zs, rfl, ov⟩, bb⟩; have hlz := Lib.hid (show zs.length = sz by have := ov.1; simpa [cs8] using this); have ov := Lib.hid ov; have hOx := Lib.hid (own_below hOx.out bb); have hB := Lib.hid (hB.out.trans (bb.mono hLx.out)); have hLx := Lib.hid (Nat.le_trans hLx.out bb.size); clear bb oa)
            | (refine step_appendB rfl _ _ 22 rfl (w.heap.size + 1) 5 Tryz.underlying22 (by kernel_rfl) (.slice (some ⟨w.heap.size + 1 + 1, 0, none⟩) 128 128) 128 (cs8 B) rfl hOx.out (by decide) v1 zs rfl (Bs.own ov.out) (by have := hlz.out; omega) hLx.out ?_; intro gd cd wd od grd hgd hld; have od := Lib.hid (show wd.ownsRow (w.heap.size + 1) 5 1 (.slice (some ⟨gd, 0, none⟩) (128 + zs.length) cd) (128 + zs.length) (cs8 (B ++ zs)) by rw [← cs8_append]; exact od); have hB := Lib.hid (hB.out.grown grd hLx.out (fun k hk => own_ge hOx.out k hk)); have hLx := Lib.hid (Nat.le_trans hLx.out grd.size); clear grd)
            | (go_at_call 21; refine (sum128 sz s gk ck nk zk gd 0 cd (128 + zs.length) (B ++ zs) _ hs0 hs1 hnk (fun i hi => by rw [hB.out.cell (by show gk < _; omega)]; exact K3.out i hi) (by have := hLx.out; omega) (Bs.own od.out) (by omega) (by have := hlz.out; omega) (by rw [List.length_append]; omega)).mono ?_; rintro e we ⟨⟨v2, zt, rfl, ow⟩, be⟩; have ow := Lib.hid (own_lower ow (show w.heap.size ≤ _ by have := hLx.out; omega)); have hB := Lib.hid (hB.out.trans (be.mono hLx.out)); clear be))
        all_goals
          go_wp2_with fail
          go_ret
          exact ⟨⟨_, _, rfl, ow.out⟩, B0.out.trans (hB.out.mono (by omega))⟩
  · go_wp2_with fail
    generalize hW : World.alloc _ _ = W
    obtain ⟨R1, R2, R3, hWs, hWB⟩ := three hW
    clear hW hmk hcp
    have hZ8 : Z = cs8 (List.replicate 128 0) := by rw [HZ.out]; simp [cs8]
    have RX := Lib.hid (show Row W.drew w.heap.size 51 (hc sz 128 true (.slice (some ⟨gk, 0, none⟩) nk ck) s) from row_drewd R1)
    have RI := Lib.hid (show Row W.drew (w.heap.size + 1 + 1) 5 (cs8 (List.replicate 128 0)) by rw [← hZ8]; exact row_drewd R3)
    have RO := Lib.hid (show Row W.drew (w.heap.size + 1) 5 (cs8 (List.replicate 128 0)) by rw [← hZ8]; exact row_drewd R2)
    have B0 := Lib.hid (below_drewd hWB)
    have hsz3 : W.drew.heap.size = w.heap.size + 1 + 1 + 1 := hWs
    clear R1 R2 R3 hWB hWs hZ8
    generalize W.drew = w3 at *
    go_loopw [35] (fun i wr => ∃ (k : Nat) (A B : List Int), k ≤ 128 ∧ i = .int .i64 k ∧ A.length = 128 ∧ B.length = 128 ∧ Hid (Row wr (w.heap.size + 1 + 1) 5 (cs8 A)) ∧ Hid (Row wr (w.heap.size + 1) 5 (cs8 B)) ∧ Hid (Below (w.heap.size + 1) w3 wr)) (fun i _ => 128 - (intOf i).toNat)
    case atStart => exact ⟨0, _, _, by omega, rfl, by simp, by simp, RI, RO, Lib.hid (Below.refl _ _)⟩
    case round =>
      obtain ⟨k, A, B, hk, rfl, hA, hBl, hI, hO, hB⟩ := hrel
      by_cases hkl : k < 128
      · have cI : wr.cell? ⟨w.heap.size + 1 + 1, k, none⟩ = some (.int .u8 (A.getD k 0)) := by rw [hI.out.cell, get_cs8 _ _ (by omega)]
        have cO : wr.cell? ⟨w.heap.size + 1, k, none⟩ = some (.int .u8 (B.getD k 0)) := by rw [hO.out.cell, get_cs8 _ _ (by omega)]
        have fI := hI.out.unfrozen k
        have fO := hO.out.unfrozen k
        obtain ⟨a0, ha0⟩ : ∃ x, x = A.getD k 0 := ⟨_, rfl⟩
        obtain ⟨b0, hb0⟩ : ∃ x, x = B.getD k 0 := ⟨_, rfl⟩
        rw [← ha0] at cI
        rw [← hb0] at cO
        clear ha0 hb0
        have hkI : (k : Int) < 128 := by omega
        go_wp2_with fail
        refine ⟨⟨k + 1, A.set k _, B.set k _, by omega, by go_num, by rw [List.length_set]; exact hA, by rw [List.length_set]; exact hBl, Lib.hid ((set8b hI.out k _).only (Only.set _ _ _ _) (by omega)), Lib.hid (set8b (hO.out.only (Only.set _ _ _ _) (by omega)) k _), Lib.hid ((hB.out.setCell (show w.heap.size + 1 ≤ w.heap.size + 1 + 1 by omega) _).setCell (show w.heap.size + 1 ≤ w.heap.size + 1 by omega) _)⟩, by simp [intOf]; omega⟩
      · obtain rfl : k = 128 := by omega
        clear RI RO
        go_wp2_with fail
        have hIx := Lib.hid (own_full (row_drewd hI.out) (w.heap.size + 1) 128 (by omega) hA (by decide))
        have hOx := Lib.hid (own_full (row_drewd hO.out) (w.heap.size + 1) 128 (by omega) hBl (by decide))
        have hB := Lib.hid (below_drewd hB.out)
        have hLx := Lib.hid (show w.heap.size + 1 ≤ wr.drew.heap.size by have := hI.out.lt; show _ ≤ wr.heap.size; omega)
        have K3 := Lib.hid (show ∀ i, i < nk → w3.cell? ⟨gk, i, none⟩ = some (.int .u64 (zk i)) from fun i hi => by rw [B0.out.cell hgk]; exact HK.out i hi)
        clear hI hO
        go_region_held3 (fun w' => w'.cell? ⟨w.heap.size, 0, none⟩ = some (.int .i64 sz) ∧ w'.cell? ⟨w.heap.size, 1, none⟩ = some (.int .i64 128) ∧ w'.cell? ⟨w.heap.size, 2, none⟩ = some (.bool true) ∧ w'.cell? ⟨w.heap.size, 3, none⟩ = some (.slice (some ⟨gk, 0, none⟩) nk ck) ∧ w'.cell? ⟨w.heap.size, 4, none⟩ = some (.int .u64 s.a) ∧ w'.cell? ⟨w.heap.size, 5, none⟩ = some (.int .u64 s.b) ∧ w'.cell? ⟨w.heap.size, 6, none⟩ = some (.int .u64 s.c) ∧ w'.cell? ⟨w.heap.size, 7, none⟩ = some (.int .u64 s.d) ∧ w'.cell? ⟨w.heap.size, 8, none⟩ = some (.int .u64 s.e) ∧ w'.cell? ⟨w.heap.size, 9, none⟩ = some (.int .u64 s.f) ∧ w'.cell? ⟨w.heap.size, 10, none⟩ = some (.int .u64 s.g) ∧ w'.cell? ⟨w.heap.size, 11, none⟩ = some (.int .u64 s.h))
          (exact cells12 (RX.out.below hB.out (Nat.lt_succ_self _)))
          (first
            | (refine step_appendB rfl _ _ 22 rfl (w.heap.size + 1) 5 Tryz.underlying22 (by kernel_rfl) (.slice (some ⟨w.heap.size + 1 + 1, 0, none⟩) 128 128) 128 (cs8 A) rfl hIx.out (by decide) vb xs rfl (HB.out.below (B0.out.trans (hB.out.mono (by omega)))) (by omega) hLx.out ?_; intro ga ca wa oa gra hga hla; have oa := Lib.hid (show wa.ownsRow (w.heap.size + 1) 5 1 (.slice (some ⟨ga, 0, none⟩) (128 + xs.length) ca) (128 + xs.length) (cs8 (A ++ xs)) by rw [← cs8_append]; exact oa); have hOx := Lib.hid (hOx.out.kept gra (Or.inr (by simp [Value.ownBlock]))); have hB := Lib.hid (hB.out.grown gra hLx.out (fun k hk => own_ge hIx.out k hk)); have hLx := Lib.hid (Nat.le_trans hLx.out gra.size); clear gra)
            | (go_at_call 21; refine (sum128 sz s gk ck nk zk ga 0 ca (128 + xs.length) (A ++ xs) _ hs0 hs1 hnk (fun i hi => by rw [hB.out.cell (by show gk < _; omega)]; exact K3.out i hi) (by have := hLx.out; omega) (Bs.own oa.out) (by omega) (by omega) (by rw [List.length_append]; omega)).mono ?_; rintro e wb ⟨⟨v1, zs, rfl, ov⟩, bb⟩; have hlz := Lib.hid (show zs.length = sz by have := ov.1; simpa [cs8] using this); have ov := Lib.hid ov; have hOx := Lib.hid (own_below hOx.out bb); have hB := Lib.hid (hB.out.trans (bb.mono hLx.out)); have hLx := Lib.hid (Nat.le_trans hLx.out bb.size); clear bb oa)
            | (refine step_appendB rfl _ _ 22 rfl (w.heap.size + 1) 5 Tryz.underlying22 (by kernel_rfl) (.slice (some ⟨w.heap.size + 1, 0, none⟩) 128 128) 128 (cs8 B) rfl hOx.out (by decide) v1 zs rfl (Bs.own ov.out) (by have := hlz.out; omega) hLx.out ?_; intro gd cd wd od grd hgd hld; have od := Lib.hid (show wd.ownsRow (w.heap.size + 1) 5 1 (.slice (some ⟨gd, 0, none⟩) (128 + zs.length) cd) (128 + zs.length) (cs8 (B ++ zs)) by rw [← cs8_append]; exact od); have hB := Lib.hid (hB.out.grown grd hLx.out (fun k hk => own_ge hOx.out k hk)); have hLx := Lib.hid (Nat.le_trans hLx.out grd.size); clear grd)
            | (go_at_call 21; refine (sum128 sz s gk ck nk zk gd 0 cd (128 + zs.length) (B ++ zs) _ hs0 hs1 hnk (fun i hi => by rw [hB.out.cell (by show gk < _; omega)]; exact K3.out i hi) (by have := hLx.out; omega) (Bs.own od.out) (by omega) (by have := hlz.out; omega) (by rw [List.length_append]; omega)).mono ?_; rintro e we ⟨⟨v2, zt, rfl, ow⟩, be⟩; have ow := Lib.hid (own_lower ow (show w.heap.size ≤ _ by have := hLx.out; omega)); have hB := Lib.hid (hB.out.trans (be.mono hLx.out)); clear be))
        all_goals
          go_wp2_with fail
          go_ret
          exact ⟨⟨_, _, rfl, ow.out⟩, B0.out.trans (hB.out.mono (by omega))⟩
end Go.Proofs.YtpmoaghhccioaaaGreat
