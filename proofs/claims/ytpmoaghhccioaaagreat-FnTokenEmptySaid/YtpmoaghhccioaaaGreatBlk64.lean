/- spec.Hash's block returns eight words; new memory only (blocks of 64 bytes). -/
import Derived.Test.YtpmoaghhccioaaaGreatBlkKit
namespace Go.Proofs.YtpmoaghhccioaaaGreat
open Go.RowKit
set_option linter.unusedVariables false

set_option maxRecDepth 100000 in
set_option maxHeartbeats 4000000 in
theorem block64 (sz : Int) (s t : S8) (gk ck nk gb ob cb : Nat) (zk zb : Nat → Int) (w : World) (hnk : nk ≤ 100)
    (hk : ∀ i, i < nk → w.cell? ⟨gk, i, none⟩ = some (.int .u64 (zk i))) (hb : ∀ i, i < 64 → w.cell? ⟨gb, ob + i, none⟩ = some (.int .u8 (zb i))) (hgk : gk < w.heap.size) (hgb : gb < w.heap.size) (hcb : 64 ≤ cb) :
    Calls Tryz.prog 35 #[hv sz 64 false (.slice (some ⟨gk, 0, none⟩) nk ck) s, v8 t, .slice (some ⟨gb, ob, none⟩) 64 cb] w fun e w' => AnyEight e ∧ Below w.heap.size w w' := by
  have HK := Lib.hid hk
  have HB := Lib.hid hb
  clear hk hb
  unfold hv v8
  have hi8 : (Tryz.prog.info? 49).map (·.size) = some 8 := by kernel_rfl
  have hi8 := Lib.hid hi8
  go_enter Tryz.func35, Tryz.ntmps35
  go_wp2_with (refine wpl_make rfl (.tmp 43) (.tmp 43) 47 rfl 48 (.int .u64 0) 8 Tryz.underlying47 (by kernel_rfl) rfl .i64 .i64 _ nk rfl rfl rfl (by omega) (by unfold maxLen; omega) ?_; intro g w1 hg r1 s1 b1)
  generalize hW : World.alloc _ _ = W at b1 hg
  obtain ⟨R1, R2, R3, R4, R5, R6, R7, hWs, hWB⟩ := seven hW
  clear hW s1
  have hgl : g = w.heap.size + 1 + 1 + 1 + 1 + 1 + 1 + 1 := by rw [hg, hWs]
  subst hg
  rw [hWs] at hgl
  have F := Lib.hid (show Row w1 w.heap.size 51 (hc sz 64 false (.slice (some ⟨gk, 0, none⟩) nk ck) s) ∧ Row w1 (w.heap.size + 1) 49 (cs64 (words8 t)) ∧ Row w1 (w.heap.size + 1 + 1) 49 (cs64 [0,0,0,0,0,0,0,0]) ∧ Row w1 (w.heap.size + 1 + 1 + 1) 105 [.int .i64 7, .int .i64 18, .int .i64 3] ∧ Row w1 (w.heap.size + 1 + 1 + 1 + 1) 105 [.int .i64 17, .int .i64 19, .int .i64 10] ∧ Row w1 (w.heap.size + 1 + 1 + 1 + 1 + 1) 105 [.int .i64 6, .int .i64 11, .int .i64 25] ∧ Row w1 (w.heap.size + 1 + 1 + 1 + 1 + 1 + 1) 105 [.int .i64 2, .int .i64 13, .int .i64 22] from ⟨R1.below b1 R1.lt, R2.below b1 R2.lt, R3.below b1 R3.lt, R4.below b1 R4.lt, R5.below b1 R5.lt, R6.below b1 R6.lt, R7.below b1 R7.lt⟩)
  have B1 := Lib.hid (hWB.trans (b1.mono (by omega)))
  have RW : Hid (Row w1 W.heap.size 48 (cs64 (List.replicate nk 0))) := Lib.hid (by have := r1; simpa [cs64] using this)
  clear R1 R2 R3 R4 R5 R6 R7 b1 r1 hWB
  rw [hWs] at RW
  clear hgl hWs
  go_loopw [47] (fun i wr => ∃ (m : Nat) (Y : List Int), m ≤ nk ∧ i = .int .i64 m ∧ Hid (Y.length = nk) ∧ Hid (Row wr (w.heap.size + 1 + 1 + 1 + 1 + 1 + 1 + 1) 48 (cs64 Y)) ∧ Hid (Below (w.heap.size + 1 + 1 + 1 + 1 + 1 + 1 + 1) w1 wr)) (fun i _ => nk - (intOf i).toNat)
  case atStart => exact ⟨0, _, by omega, rfl, Lib.hid (by simp), RW, Lib.hid (Below.refl _ _)⟩
  case round =>
    obtain ⟨m, Y, hm, rfl, hY, hR, hB⟩ := hrel
    by_cases hlt : m < nk
    · by_cases h16 : 16 ≤ m
      · obtain ⟨j16, e16⟩ : ∃ j : Nat, (m : Int) - 16 = j := ⟨m - 16, by omega⟩
        obtain ⟨j7, e7⟩ : ∃ j : Nat, (m : Int) - 7 = j := ⟨m - 7, by omega⟩
        obtain ⟨j15, e15⟩ : ∃ j : Nat, (m : Int) - 15 = j := ⟨m - 15, by omega⟩
        obtain ⟨j2, e2⟩ : ∃ j : Nat, (m : Int) - 2 = j := ⟨m - 2, by omega⟩
        have f16 : IntKind.i64.wrap ((m : Int) - 16) = j16 := by rw [e16]; exact IntWalk.i64_in _ (by omega)
        have f7 : IntKind.i64.wrap ((m : Int) - 7) = j7 := by rw [e7]; exact IntWalk.i64_in _ (by omega)
        have f15 : IntKind.i64.wrap ((m : Int) - 15) = j15 := by rw [e15]; exact IntWalk.i64_in _ (by omega)
        have f2 : IntKind.i64.wrap ((m : Int) - 2) = j2 := by rw [e2]; exact IntWalk.i64_in _ (by omega)
        have l16 : (j16 : Int) < nk := by omega
        have l7 : (j7 : Int) < nk := by omega
        have l15 : (j15 : Int) < nk := by omega
        have l2 : (j2 : Int) < nk := by omega
        have E16 := Lib.hid e16
        have E7 := Lib.hid e7
        have E15 := Lib.hid e15
        have E2 := Lib.hid e2
        have q16 := Lib.hid (show j16 < nk by omega)
        have q7 := Lib.hid (show j7 < nk by omega)
        have q15 := Lib.hid (show j15 < nk by omega)
        have q2 := Lib.hid (show j2 < nk by omega)
        have hmn : (m : Int) < nk := by omega
        have n16 := Lib.hid (show m ≠ j16 by omega)
        have n7 := Lib.hid (show m ≠ j7 by omega)
        have n15 := Lib.hid (show m ≠ j15 by omega)
        have n2 := Lib.hid (show m ≠ j2 by omega)
        clear e16 e7 e15 e2
        go_wp2_with fail
        have hB := Lib.hid (below_drewd hB.out)
        have hR := Lib.hid (row_drewd hR.out)
        go_region_held3 (fun w' => w'.cell? ⟨w.heap.size, 0, none⟩ = some (.int .i64 sz) ∧ w'.cell? ⟨w.heap.size, 1, none⟩ = some (.int .i64 64) ∧ w'.cell? ⟨w.heap.size, 2, none⟩ = some (.bool false) ∧ w'.cell? ⟨w.heap.size, 3, none⟩ = some (.slice (some ⟨gk, 0, none⟩) nk ck) ∧ w'.cell? ⟨w.heap.size, 4, none⟩ = some (.int .u64 s.a) ∧ w'.cell? ⟨w.heap.size, 5, none⟩ = some (.int .u64 s.b) ∧ w'.cell? ⟨w.heap.size, 6, none⟩ = some (.int .u64 s.c) ∧ w'.cell? ⟨w.heap.size, 7, none⟩ = some (.int .u64 s.d) ∧ w'.cell? ⟨w.heap.size, 8, none⟩ = some (.int .u64 s.e) ∧ w'.cell? ⟨w.heap.size, 9, none⟩ = some (.int .u64 s.f) ∧ w'.cell? ⟨w.heap.size, 10, none⟩ = some (.int .u64 s.g) ∧ w'.cell? ⟨w.heap.size, 11, none⟩ = some (.int .u64 s.h) ∧ w'.cell? ⟨w.heap.size + 1 + 1 + 1, 0, none⟩ = some (.int .i64 7) ∧ w'.cell? ⟨w.heap.size + 1 + 1 + 1, 1, none⟩ = some (.int .i64 18) ∧ w'.cell? ⟨w.heap.size + 1 + 1 + 1, 2, none⟩ = some (.int .i64 3) ∧ w'.cell? ⟨w.heap.size + 1 + 1 + 1 + 1, 0, none⟩ = some (.int .i64 17) ∧ w'.cell? ⟨w.heap.size + 1 + 1 + 1 + 1, 1, none⟩ = some (.int .i64 19) ∧ w'.cell? ⟨w.heap.size + 1 + 1 + 1 + 1, 2, none⟩ = some (.int .i64 10) ∧ w'.cell? ⟨w.heap.size + 1 + 1 + 1 + 1 + 1 + 1 + 1, j16, none⟩ = some (.int .u64 (Y.getD j16 0)) ∧ w'.cell? ⟨w.heap.size + 1 + 1 + 1 + 1 + 1 + 1 + 1, j7, none⟩ = some (.int .u64 (Y.getD j7 0)) ∧ w'.cell? ⟨w.heap.size + 1 + 1 + 1 + 1 + 1 + 1 + 1, j15, none⟩ = some (.int .u64 (Y.getD j15 0)) ∧ w'.cell? ⟨w.heap.size + 1 + 1 + 1 + 1 + 1 + 1 + 1, j2, none⟩ = some (.int .u64 (Y.getD j2 0)))
          (first
            | exact cellsR11 (F.out.1.below hB.out (by omega)) (F.out.2.2.2.1.below hB.out (by omega)) (F.out.2.2.2.2.1.below hB.out (by omega)) hR.out (p := j16) (q := j7) (r := j15) (u := j2) (by rw [hY.out]; exact q16.out) (by rw [hY.out]; exact q7.out) (by rw [hY.out]; exact q15.out) (by rw [hY.out]; exact q2.out)
            | exact cellsR11s (F.out.1.below hB.out (by omega)) (F.out.2.2.2.1.below hB.out (by omega)) (F.out.2.2.2.2.1.below hB.out (by omega)) hR.out (p := j16) (q := j7) (r := j15) (u := j2) (by rw [hY.out]; exact q16.out) (by rw [hY.out]; exact q7.out) (by rw [hY.out]; exact q15.out) (by rw [hY.out]; exact q2.out) (by omega) (by omega) (by omega) n16.out n7.out n15.out n2.out)
          (first
            | (go_at_call 45; refine (mixed _ _ _ _ _ _ _ _ _ _ _ (by simp [Far]) (by simp [Far]) (by simp [Far])).mono ?_; rintro e wn ⟨⟨y, rfl⟩, bn⟩; have hB := Lib.hid (hB.out.trans (bn.mono (Nat.le_of_lt hR.out.lt))); have hR := Lib.hid (hR.out.below bn hR.out.lt); (try clear cm); (try clear fm); have cm := cellRow64 hR.out (m := m) (by rw [hY.out]; exact hlt); have fm := hR.out.unfrozen m; clear bn))
        all_goals (go_wp2_with fail; refine ⟨⟨m + 1, Y.set m _, by omega, by go_num, Lib.hid (by rw [List.length_set]; exact hY.out), Lib.hid (set64p hR.out m _), Lib.hid (hB.out.setCell (Nat.le_refl _) _)⟩, by simp [intOf]; omega⟩)
      · have t4 : 4 * m + 4 - 4 * m = 4 := by omega
        go_wp2_with fail
        obtain ⟨wo, rfl⟩ : ∃ wo : World, wo = wr := ⟨_, rfl⟩
        go_loopw [107] (fun i wr => ∃ (k : Nat) (Y : List Int), k ≤ 4 ∧ i = .int .i64 k ∧ Hid (Y.length = nk) ∧ Hid (Row wr (w.heap.size + 1 + 1 + 1 + 1 + 1 + 1 + 1) 48 (cs64 Y)) ∧ Hid (Below (w.heap.size + 1 + 1 + 1 + 1 + 1 + 1 + 1) w1 wr)) (fun i _ => 4 - (intOf i).toNat)
        case atStart => exact ⟨0, Y, by omega, rfl, hY, hR, hB⟩
        case round =>
          clear hY hR hB
          obtain ⟨k, Y, hk4, rfl, hY, hR, hB⟩ := hrel
          have hmn : (m : Int) < nk := by omega
          by_cases hkl : k < 4
          · have cb0 : wr.cell? ⟨gb, ob + 4 * m + k, none⟩ = some (.int .u8 (zb (4 * m + k))) := by
              rw [hB.out.cell (by show gb < _; omega), B1.out.cell hgb, Nat.add_assoc]; exact HB.out _ (by omega)
            have cm := cellRow64 hR.out (m := m) (by rw [hY.out]; exact hlt)
            have fm := hR.out.unfrozen m
            go_wp2_with fail
            refine ⟨⟨k + 1, Y.set m _, by omega, by go_num, Lib.hid (by rw [List.length_set]; exact hY.out), Lib.hid (set64p hR.out m _), Lib.hid (hB.out.setCell (Nat.le_refl _) _)⟩, by simp [intOf]; omega⟩
          · obtain rfl : k = 4 := by omega
            go_wp2_with fail
            refine ⟨⟨m + 1, Y, by omega, by go_num, hY, hR, hB⟩, by simp [intOf]; omega⟩
    · obtain rfl : m = nk := by omega
      have v0 := cells8 (F.out.2.1.below hB.out (by omega))
      obtain ⟨v0, v1, v2, v3, v4, v5, v6, v7⟩ := v0
      have hcs : wr.cell? ⟨w.heap.size, 3, none⟩ = some (.slice (some ⟨gk, 0, none⟩) m ck) := (cells12 (F.out.1.below hB.out (by omega))).2.2.2.1
      have hcs2 : ∀ o, (wr.alloc o).cell? ⟨w.heap.size, 3, none⟩ = some (.slice (some ⟨gk, 0, none⟩) m ck) := fun o => by
        rw [((Below.refl wr.heap.size wr).alloc (Nat.le_refl _) o).cell (by have := (F.out.1.below hB.out (by omega)).lt; exact this)]; exact hcs
      go_wp2_with fail
      generalize hw2 : wr.alloc _ = w2
      have hx8 : Row w2 wr.heap.size 49 (cs64 (words8 t)) := by rw [← hw2]; exact Row.new wr _ _ _ rfl
      have b2 : Below wr.heap.size wr w2 := by rw [← hw2]; exact (Below.refl _ _).alloc (Nat.le_refl _) _
      have hGX : w.heap.size + 1 + 1 + 1 + 1 + 1 + 1 + 1 < wr.heap.size := hR.out.lt
      have hcs3 : w2.cell? ⟨w.heap.size, 3, none⟩ = some (.slice (some ⟨gk, 0, none⟩) m ck) := by rw [b2.cell (by show w.heap.size < _; omega)]; exact hcs
      have G2 := Lib.hid (show Row w2 w.heap.size 51 (hc sz 64 false (.slice (some ⟨gk, 0, none⟩) m ck) s) ∧ Row w2 (w.heap.size + 1) 49 (cs64 (words8 t)) ∧ Row w2 (w.heap.size + 1 + 1) 49 (cs64 [0,0,0,0,0,0,0,0]) ∧ Row w2 (w.heap.size + 1 + 1 + 1 + 1 + 1) 105 [.int .i64 6, .int .i64 11, .int .i64 25] ∧ Row w2 (w.heap.size + 1 + 1 + 1 + 1 + 1 + 1) 105 [.int .i64 2, .int .i64 13, .int .i64 22] ∧ Row w2 (w.heap.size + 1 + 1 + 1 + 1 + 1 + 1 + 1) 48 (cs64 Y) ∧ (∀ i, i < m → w2.cell? ⟨gk, i, none⟩ = some (.int .u64 (zk i))) ∧ Below w.heap.size w w2 from
        ⟨(F.out.1.below hB.out (by omega)).below b2 (by omega), (F.out.2.1.below hB.out (by omega)).below b2 (by omega), (F.out.2.2.1.below hB.out (by omega)).below b2 (by omega), (F.out.2.2.2.2.2.1.below hB.out (by omega)).below b2 (by omega), (F.out.2.2.2.2.2.2.below hB.out (by omega)).below b2 (by omega), hR.out.below b2 hGX,
          fun i hi => by rw [b2.cell (by show gk < _; omega), hB.out.cell (by show gk < _; omega), B1.out.cell hgk]; exact HK.out i hi,
          (B1.out.trans (hB.out.mono (by omega))).trans (b2.mono (by omega))⟩)
      obtain ⟨X8, hX8⟩ : ∃ X8, wr.heap.size = X8 := ⟨_, rfl⟩
      rw [hX8] at hx8 hGX ⊢
      have HX := Lib.hid hx8
      clear hw2 hx8 hcs hcs2 v0 v1 v2 v3 v4 v5 v6 v7 hX8 b2 hB hR F RW
      obtain ⟨wo, rfl⟩ : ∃ wo : World, wo = wr := ⟨_, rfl⟩
      go_loopw [128] (fun i wr => ∃ (k : Nat) (x : S8), k ≤ m ∧ i = .int .i64 k ∧ Hid (Row wr X8 49 (cs64 (words8 x))) ∧ Hid (Below X8 w2 wr)) (fun i _ => m - (intOf i).toNat)
      case atStart => exact ⟨0, t, by omega, rfl, HX, Lib.hid (Below.refl _ _)⟩
      case round =>
        obtain ⟨k, x, hk, rfl, hR, hB⟩ := hrel
        by_cases hkm : k < m
        · have ck0 : wr.cell? ⟨gk, k, none⟩ = some (.int .u64 (zk k)) := by rw [hB.out.cell (by show gk < _; omega)]; exact G2.out.2.2.2.2.2.2.1 k hkm
          obtain ⟨v0, v1, v2, v3, v4, v5, v6, v7⟩ := cells8 hR.out
          have hkI : (k : Int) < m := by omega
          go_wp2_with fail
          clear ck0
          go_quiet (fail)
          clear v0 v1 v2 v3 v4 v5 v6 v7
          have hR := Lib.hid (row_drewN hR.out nq)
          have hB := Lib.hid (below_drewN hB.out nq)
          generalize wr.drewN nq = w3 at *
          go_wp2_with fail
          have hR := Lib.hid (row_drewd hR.out)
          have hB := Lib.hid (below_drewd hB.out)
          have yk := Lib.hid (show k < Y.length by rw [hY.out]; exact hkm)
          go_region_held3 (fun w' => w'.cell? ⟨w.heap.size, 0, none⟩ = some (.int .i64 sz) ∧ w'.cell? ⟨w.heap.size, 1, none⟩ = some (.int .i64 64) ∧ w'.cell? ⟨w.heap.size, 2, none⟩ = some (.bool false) ∧ w'.cell? ⟨w.heap.size, 3, none⟩ = some (.slice (some ⟨gk, 0, none⟩) m ck) ∧ w'.cell? ⟨w.heap.size, 4, none⟩ = some (.int .u64 s.a) ∧ w'.cell? ⟨w.heap.size, 5, none⟩ = some (.int .u64 s.b) ∧ w'.cell? ⟨w.heap.size, 6, none⟩ = some (.int .u64 s.c) ∧ w'.cell? ⟨w.heap.size, 7, none⟩ = some (.int .u64 s.d) ∧ w'.cell? ⟨w.heap.size, 8, none⟩ = some (.int .u64 s.e) ∧ w'.cell? ⟨w.heap.size, 9, none⟩ = some (.int .u64 s.f) ∧ w'.cell? ⟨w.heap.size, 10, none⟩ = some (.int .u64 s.g) ∧ w'.cell? ⟨w.heap.size, 11, none⟩ = some (.int .u64 s.h) ∧ w'.cell? ⟨w.heap.size + 1 + 1 + 1 + 1 + 1, 0, none⟩ = some (.int .i64 6) ∧ w'.cell? ⟨w.heap.size + 1 + 1 + 1 + 1 + 1, 1, none⟩ = some (.int .i64 11) ∧ w'.cell? ⟨w.heap.size + 1 + 1 + 1 + 1 + 1, 2, none⟩ = some (.int .i64 25) ∧ w'.cell? ⟨X8, 7, none⟩ = some (.int .u64 x.h) ∧ w'.cell? ⟨X8, 5, none⟩ = some (.int .u64 x.f) ∧ w'.cell? ⟨X8, 6, none⟩ = some (.int .u64 x.g) ∧ w'.cell? ⟨w.heap.size + 1 + 1 + 1 + 1 + 1 + 1 + 1, k, none⟩ = some (.int .u64 (Y.getD k 0)))
            (exact cellsR23 (G2.out.1.below hB.out (by omega)) (G2.out.2.2.2.1.below hB.out (by omega)) hR.out (G2.out.2.2.2.2.2.1.below hB.out (by omega)) yk.out)
            (first
              | (go_at_call 45; refine (mixed _ _ _ _ _ _ _ _ _ _ _ (by simp [Far]) (by simp [Far]) (by simp [Far])).mono ?_; rintro e wn ⟨⟨y, rfl⟩, bn⟩; have hB := Lib.hid (hB.out.trans (bn.mono (Nat.le_of_lt hR.out.lt))); have hR := Lib.hid (hR.out.below bn hR.out.lt); clear bn))
          go_wp2_with fail
          have hR := Lib.hid (row_drewd hR.out)
          have hB := Lib.hid (below_drewd hB.out)
          go_region_held3 (fun w' => w'.cell? ⟨w.heap.size, 0, none⟩ = some (.int .i64 sz) ∧ w'.cell? ⟨w.heap.size, 1, none⟩ = some (.int .i64 64) ∧ w'.cell? ⟨w.heap.size, 2, none⟩ = some (.bool false) ∧ w'.cell? ⟨w.heap.size, 3, none⟩ = some (.slice (some ⟨gk, 0, none⟩) m ck) ∧ w'.cell? ⟨w.heap.size, 4, none⟩ = some (.int .u64 s.a) ∧ w'.cell? ⟨w.heap.size, 5, none⟩ = some (.int .u64 s.b) ∧ w'.cell? ⟨w.heap.size, 6, none⟩ = some (.int .u64 s.c) ∧ w'.cell? ⟨w.heap.size, 7, none⟩ = some (.int .u64 s.d) ∧ w'.cell? ⟨w.heap.size, 8, none⟩ = some (.int .u64 s.e) ∧ w'.cell? ⟨w.heap.size, 9, none⟩ = some (.int .u64 s.f) ∧ w'.cell? ⟨w.heap.size, 10, none⟩ = some (.int .u64 s.g) ∧ w'.cell? ⟨w.heap.size, 11, none⟩ = some (.int .u64 s.h) ∧ w'.cell? ⟨w.heap.size + 1 + 1 + 1 + 1 + 1 + 1, 0, none⟩ = some (.int .i64 2) ∧ w'.cell? ⟨w.heap.size + 1 + 1 + 1 + 1 + 1 + 1, 1, none⟩ = some (.int .i64 13) ∧ w'.cell? ⟨w.heap.size + 1 + 1 + 1 + 1 + 1 + 1, 2, none⟩ = some (.int .i64 22) ∧ w'.cell? ⟨X8, 1, none⟩ = some (.int .u64 x.b) ∧ w'.cell? ⟨X8, 2, none⟩ = some (.int .u64 x.c))
            (exact cellsR24 (G2.out.1.below hB.out (by omega)) (G2.out.2.2.2.2.1.below hB.out (by omega)) hR.out)
            (first
              | (go_at_call 45; refine (mixed _ _ _ _ _ _ _ _ _ _ _ (by simp [Far]) (by simp [Far]) (by simp [Far])).mono ?_; rintro e wn ⟨⟨y, rfl⟩, bn⟩; have hB := Lib.hid (hB.out.trans (bn.mono (Nat.le_of_lt hR.out.lt))); have hR := Lib.hid (hR.out.below bn hR.out.lt); clear bn))
          obtain ⟨v0, v1, v2, v3, v4, v5, v6, v7⟩ := cells8 hR.out
          have fx := hR.out.unfrozen
          go_wp2_with fail
          refine ⟨⟨k + 1, _, by omega, by go_num, Lib.hid (set8p hR.out _ _ _ _ _ _ _ _), Lib.hid (below8 hB.out (Nat.le_refl _) _ _ _ _ _ _ _ _)⟩, by simp [intOf]; omega⟩
        · obtain rfl : k = m := by omega
          go_wp2_with fail
          have HF := Lib.hid (show Row wr (w.heap.size + 1) 49 (cs64 (words8 t)) ∧ Row wr (w.heap.size + 1 + 1) 49 (cs64 (words8 ⟨0, 0, 0, 0, 0, 0, 0, 0⟩)) ∧ Row wr X8 49 (cs64 (words8 x)) ∧ Below w.heap.size w wr from
            ⟨G2.out.2.1.below hB.out (by omega), G2.out.2.2.1.below hB.out (by omega), hR.out, G2.out.2.2.2.2.2.2.2.trans (hB.out.mono (by omega))⟩)
          clear hR hB G2 HX
          obtain ⟨wo, rfl⟩ : ∃ wo : World, wo = wr := ⟨_, rfl⟩
          go_loopw [218] (fun i wr => ∃ (j : Nat) (V : List Int), j ≤ 8 ∧ i = .int .i64 j ∧ V.length = 8 ∧ Hid (Row wr (w.heap.size + 1) 49 (cs64 V)) ∧ Hid (But (w.heap.size + 1) wo wr)) (fun i _ => 8 - (intOf i).toNat)
          case atStart => exact ⟨0, _, by omega, rfl, rfl, Lib.hid HF.out.1, Lib.hid (But.refl _ _)⟩
          case round =>
            obtain ⟨j, V, hj, rfl, hV, hR, hB⟩ := hrel
            by_cases hj8 : j < 8
            · have hjI : (j : Int) < 8 := by omega
              have c1 := cellRow64 hR.out (m := j) (by omega)
              have f1 := hR.out.unfrozen j
              have c2 := cellRow64 (HF.out.2.2.1.but hB.out (by omega)) (m := j) (by simp [words8]; omega)
              go_wp2_with fail
              go_still_tail 11, (by kernel_rfl)
              change wpList _ _ _ _ _ wr.drew
              have c3 : wr.drew.cell? ⟨w.heap.size + 1, j, none⟩ = some (.int .u64 (V.getD j 0)) := c1
              have f3 : wr.drew.frozen? ⟨w.heap.size + 1, j, none⟩ = false := f1
              go_wp2_with fail
              refine ⟨⟨j + 1, V.set j _, by omega, by go_num, by rw [List.length_set]; exact hV, Lib.hid (set64p (row_drewd hR.out) j _), Lib.hid (hB.out.drew.trans (But.of_only (Only.set _ _ _ _)))⟩, by simp [intOf]; omega⟩
            · obtain rfl : j = 8 := by omega
              obtain ⟨z, rfl⟩ := eight_of V hV
              have R0 := HF.out.2.1.but hB.out (by omega)
              obtain ⟨v0, v1, v2, v3, v4, v5, v6, v7⟩ := cells8 hR.out
              obtain ⟨u0, u1, u2, u3, u4, u5, u6, u7⟩ := cells8 R0
              have f0 := R0.unfrozen
              have RB := Lib.hid (below8 ((HF.out.2.2.2.trans (hB.out.below (Nat.le_succ _) (by have := HF.out.1.lt; omega)))) (show w.heap.size ≤ w.heap.size + 1 + 1 by omega) (.int .u64 z.a) (.int .u64 z.b) (.int .u64 z.c) (.int .u64 z.d) (.int .u64 z.e) (.int .u64 z.f) (.int .u64 z.g) (.int .u64 z.h))
              have RZ := Lib.hid (set8p R0 z.a z.b z.c z.d z.e z.f z.g z.h)
              clear R0
              go_wp2_with fail
              (try simp only [Exit.inBlock, Exit.then])
              exact bodyPost_ret (v := v8 z) (results_cell_row rfl _ _ (w.heap.size + 1 + 1) 49 _ (0, 0) _ rfl RZ.out Tryz.underlying49 rfl hi8.out) rfl ⟨⟨z, rfl⟩, RB.out⟩
end Go.Proofs.YtpmoaghhccioaaaGreat
