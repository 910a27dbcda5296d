/- spec.HashOf at the kind 0: a Hash of the right form; new memory only. -/
import Derived.Test.YtpmoaghhccioaaaGreatHofKit
namespace Go.Proofs.YtpmoaghhccioaaaGreat
open Go.RowKit
set_option linter.unusedVariables false

set_option maxRecDepth 100000 in
set_option maxHeartbeats 4000000 in
theorem hashOf0 (w : World) : Calls Tryz.prog 13 #[.int .i64 0] w fun e w' => HashOk w' 32 64 false 64 e ∧ Below w.heap.size w w' := by
  have hi8 : (Tryz.prog.info? 51).map (·.size) = some 12 := by kernel_rfl
  have hi8 := Lib.hid hi8
  go_enter Tryz.func13, Tryz.ntmps13
  go_wp2_with fail
  go_at_call 19
  generalize hW : World.alloc _ _ = W
  obtain ⟨R1, R2, R3, hWs, hWB⟩ := three hW
  clear hW
  refine (hashPrimes _).mono ?_
  rintro e w1 ⟨g, c, rfl, own, b1⟩
  have R1 := Lib.hid (R1.below b1 R1.lt)
  have R3 := Lib.hid (R3.below b1 R3.lt)
  have B1 := Lib.hid (hWB.trans (b1.mono (by omega)))
  have hcx := cells12 (s := ⟨0, 0, 0, 0, 0, 0, 0, 0⟩) R3.out
  obtain ⟨x0, x1, x2, x3, -⟩ := hcx
  have fx := R3.out.unfrozen
  have hgW := own.lt g rfl
  have hc80 : 80 ≤ c := by
    rcases own.2 with ⟨h, _⟩ | ⟨g', cap, cur, h, _, _, hn, _⟩
    · cases h
    · simp only [Value.slice.injEq] at h; omega
  have hcI : (64 : Int) ≤ c := by omega
  have hX1 : w.heap.size + 1 + 1 < w1.heap.size := R3.out.lt
  have CP := Lib.hid (show ∀ n, n < 80 → ∃ p : Int, w1.cell? ⟨g, n, none⟩ = some (.int .u32 p) from fun n hn => by
    obtain ⟨p, hp⟩ := prime_cell hn
    exact ⟨p, by rw [own.cellAt n (by omega)]; exact hp⟩)
  have hgX : g ≠ w.heap.size + 1 + 1 := by omega
  have hg1 := hgW.2
  clear R2 own b1 hgW
  go_wp2_with fail
  go_region
  generalize hw2 : World.drew _ = w2
  have R3 : Hid (Row w2 (w.heap.size + 1 + 1) 51 (hcl 32 64 false (.slice none 0 0) [0, 0, 0, 0, 0, 0, 0, 0])) := Lib.hid (by rw [← hw2]; exact row_drewd ((R3.out.set 1 (.int .i64 64)).set 2 (.bool false)))
  have U2 := Lib.hid (show But (w.heap.size + 1 + 1) w1 w2 by rw [← hw2]; exact ((But.of_only (Only.set _ _ _ _)).trans (But.of_only (Only.set _ _ _ _))).drew)
  clear hw2 x0 x1 x2 x3 fx
  go_wp2_with fail
  have hX2 : w.heap.size + 1 + 1 < w2.heap.size := R3.out.lt
  have hg2 : g < w2.heap.size := Nat.lt_of_lt_of_le hg1 U2.out.size
  go_loopw [39] (fun i wr => ∃ (n : Nat) (kv : Value) (Ks : List Int), n ≤ 64 ∧ i = .int .i64 n ∧ Hid (wr.ownsRow w2.heap.size 48 1 kv n (cs64 Ks)) ∧ Hid (Row wr (w.heap.size + 1 + 1) 51 (hcl 32 64 false kv [0, 0, 0, 0, 0, 0, 0, 0])) ∧ Hid (But (w.heap.size + 1 + 1) w2 wr)) (fun i _ => 64 - (intOf i).toNat)
  case atStart => exact ⟨0, _, [], by omega, rfl, Lib.hid (World.ownsRow_nil w2 w2.heap.size 48 1), R3, Lib.hid (But.refl _ _)⟩
  case round =>
    obtain ⟨n, kv, Ks, hn, rfl, hO, hR, hB⟩ := hrel
    by_cases hlt : n < 64
    · obtain ⟨p, hp⟩ := CP.out n (by omega)
      have cp : wr.cell? ⟨g, n, none⟩ = some (.int .u32 p) := by rw [hB.out.cellAt hg2 hgX, U2.out.cellAt hg1 hgX]; exact hp
      have x2 : wr.cell? ⟨w.heap.size + 1 + 1, 2, none⟩ = some (.bool false) := by rw [hR.out.cell]; rfl
      clear hp
      go_wp2_with fail
      go_at_call 20
      refine (hashRootCube _ _ _ (by omega)).mono ?_
      rintro e w5 ⟨⟨y, rfl⟩, b5⟩
      have hO := Lib.hid (own_below hO.out b5)
      have hR := Lib.hid (hR.out.below b5 hR.out.lt)
      have hB := Lib.hid (hB.out.below' b5)
      have x3 : w5.cell? ⟨w.heap.size + 1 + 1, 3, none⟩ = some kv := by rw [hR.out.cell]; rfl
      have HX := Lib.hid (fun o => hO.out.alloc o)
      have hRa := Lib.hid (fun o => hR.out.below ((Below.refl w5.heap.size w5).alloc (Nat.le_refl _) o) hR.out.lt)
      have hBa := Lib.hid (fun o => hB.out.below' ((Below.refl w5.heap.size w5).alloc (Nat.le_refl _) o))
      have hge := Lib.hid (own_ge hO.out)
      have hs5 := Lib.hid hB.out.size
      clear cp x2 b5
      go_wp2_with (at_builtin; refine wpl_append1 rfl _ _ 47 rfl w2.heap.size 48 (.int .u64 0) 8 Tryz.underlying47 (by kernel_rfl) rfl (by decide) _ n (cs64 Ks) rfl (HX.out _) w5.heap.size _ (.int .u64 (y / 4294967296)) rfl (by rw [cell_of_row _ _ _ _ _ _ (heap_alloc_new _ _)]; rfl) rfl (by omega) (by have := hs5.out; simp; omega) ?_; intro g1 c1 w6 o1 gr1 hg1' hl1; have hR6 := Lib.hid (Row.grown (hRa.out _) gr1 (fun h => by have := hge.out _ h.symm; omega)); have x3' : w6.cell? ⟨w.heap.size + 1 + 1, 3, none⟩ = some kv := (by rw [hR6.out.cell]; rfl); have fx6 := hR6.out.unfrozen 3; have hB6 := Lib.hid ((hBa.out _).grown gr1 (fun k hk => hge.out k hk)); rw [cs64_snoc] at o1; have o1 := Lib.hid o1; clear gr1)
      refine ⟨⟨n + 1, _, _, by omega, by go_num, Lib.hid (ownsRow_setCell_below (a := ⟨w.heap.size + 1 + 1, 3, none⟩) o1.out hX2 _), Lib.hid (hR6.out.set 3 _), Lib.hid (hB6.out.trans (But.of_only (Only.set _ _ _ _)))⟩, by simp [intOf]; omega⟩
    · obtain rfl : n = 64 := by omega
      obtain ⟨gk, ck, rfl, hgk0, hgk1⟩ := hO.out.form (by omega)
      have HK := Lib.hid (show ∀ i, i < 64 → wr.cell? ⟨gk, i, none⟩ = some (.int .u64 (Ks.getD i 0)) from fun i hi => by
        rw [hO.out.cellAt i (by omega), get_cs64 _ _ (by have := hO.out.1; simp [cs64] at this; omega)])
      have hgkX : gk ≠ w.heap.size + 1 + 1 := by omega
      have hgkN : gk ≠ w.heap.size := by omega
      have hg3 : g < wr.heap.size := Nat.lt_of_lt_of_le hg2 hB.out.size
      have CQ := Lib.hid (show ∀ n, n < 80 → ∃ p : Int, wr.cell? ⟨g, n, none⟩ = some (.int .u32 p) from fun n hn => by
        obtain ⟨p, hp⟩ := CP.out n hn
        exact ⟨p, by rw [hB.out.cellAt hg2 hgX, U2.out.cellAt hg1 hgX]; exact hp⟩)
      have RN := Lib.hid ((R1.out.but U2.out (by omega)).but hB.out (by omega))
      have BN := Lib.hid (B1.out.trans ((U2.out.trans hB.out).below (show w.heap.size ≤ w.heap.size + 1 + 1 by omega) (by omega)))
      have U3 : w.heap.size + 1 + 1 < wr.heap.size := hR.out.lt
      clear hO hB CP R1 B1 U2 R3
      have h64 : ((64 : Nat) : Int) = 64 := rfl
      simp only [h64]
      clear h64
      go_wp2_with fail
      obtain ⟨w3, rfl⟩ : ∃ w3 : World, w3 = wr := ⟨_, rfl⟩
      go_loopw [57] (fun i wr => ∃ (j : Nat) (V : List Int), j ≤ 8 ∧ i = .int .i64 j ∧ V.length = 8 ∧ Hid (Row wr (w.heap.size + 1 + 1) 51 (hcl 32 64 false (.slice (some ⟨gk, 0, none⟩) 64 ck) V)) ∧ Hid (But (w.heap.size + 1 + 1) w3 wr)) (fun i _ => 8 - (intOf i).toNat)
      case atStart => exact ⟨0, _, by omega, rfl, rfl, hR, Lib.hid (But.refl _ _)⟩
      case round =>
        clear hR
        obtain ⟨j, V, hj, rfl, hV, hR, hB⟩ := hrel
        by_cases hj8 : j < 8
        · obtain ⟨p, hp⟩ := CQ.out j (by omega)
          have cp : wr.cell? ⟨g, j, none⟩ = some (.int .u32 p) := by rw [hB.out.cellAt hg3 hgX]; exact hp
          have hjI : (j : Int) < 64 := by omega
          clear hp
          go_wp2_with fail
          go_at_call 20
          refine (hashRootSq _ _ _ (by omega)).mono ?_
          rintro e w5 ⟨⟨y, rfl⟩, b5⟩
          have hR := Lib.hid (hR.out.below b5 hR.out.lt)
          have hB := Lib.hid (hB.out.below' b5)
          obtain ⟨v, hv1⟩ : ∃ v, v = V.getD j 0 := ⟨_, rfl⟩
          have c1 : w5.cell? ⟨w.heap.size + 1 + 1, 4 + j, none⟩ = some (.int .u64 v) := by rw [hR.out.cell, hcl_word (by omega), hv1]
          have f1 := hR.out.unfrozen (4 + j)
          have hjJ : (j : Int) < 8 := by omega
          clear hv1 b5
          go_wp2_with fail
          refine ⟨⟨j + 1, (V.set j y).set j (y / 4294967296), by omega, by go_num, by rw [List.length_set, List.length_set]; exact hV, Lib.hid (by rw [← hcl_set, ← hcl_set]; exact (hR.out.set _ _).set _ _), Lib.hid ((hB.out.trans (But.of_only (Only.set _ _ _ _))).trans (But.of_only (Only.set _ _ _ _)))⟩, by simp [intOf]; omega⟩
        · obtain rfl : j = 8 := by omega
          obtain ⟨s, rfl⟩ := eight_of V hV
          obtain ⟨v0, v1, v2, v3, v4, v5, v6, v7, v8, v9, v10, v11⟩ := cells12 (show Row wr _ _ (hc 32 64 false (.slice (some ⟨gk, 0, none⟩) 64 ck) s) from hR.out)
          have RN := Lib.hid (RN.out.but hB.out (by omega))
          obtain ⟨u0, u1, u2, u3, u4, u5, u6, u7, u8, u9, u10, u11⟩ := cells12 (show Row wr w.heap.size _ (hc 0 0 false (.slice none 0 0) ⟨0, 0, 0, 0, 0, 0, 0, 0⟩) from RN.out)
          have fN := RN.out.unfrozen
          have hX3 : w.heap.size + 1 + 1 < w3.heap.size := by have := U3; omega
          have BN := Lib.hid (BN.out.trans (hB.out.below (show w.heap.size ≤ w.heap.size + 1 + 1 by omega) (by omega)))
          have BE := Lib.hid (below12 BN.out (Nat.le_refl _) (.int .i64 32) (.int .i64 64) (.bool false) (.slice (some ⟨gk, 0, none⟩) 64 ck) (.int .u64 s.a) (.int .u64 s.b) (.int .u64 s.c) (.int .u64 s.d) (.int .u64 s.e) (.int .u64 s.f) (.int .u64 s.g) (.int .u64 s.h))
          have RE := Lib.hid (set12p RN.out (.int .i64 32) (.int .i64 64) (.bool false) (.slice (some ⟨gk, 0, none⟩) 64 ck) (.int .u64 s.a) (.int .u64 s.b) (.int .u64 s.c) (.int .u64 s.d) (.int .u64 s.e) (.int .u64 s.f) (.int .u64 s.g) (.int .u64 s.h))
          have KE := Lib.hid (but12 wr w.heap.size (.int .i64 32) (.int .i64 64) (.bool false) (.slice (some ⟨gk, 0, none⟩) 64 ck) (.int .u64 s.a) (.int .u64 s.b) (.int .u64 s.c) (.int .u64 s.d) (.int .u64 s.e) (.int .u64 s.f) (.int .u64 s.g) (.int .u64 s.h))
          go_wp2_with fail
          (try simp only [Exit.inBlock, Exit.then])
          refine bodyPost_ret (v := hv 32 64 false (.slice (some ⟨gk, 0, none⟩) 64 ck) s) (results_cell_row rfl _ _ w.heap.size 51 _ (0, 0) _ rfl RE.out Tryz.underlying51 rfl hi8.out) rfl ⟨⟨gk, ck, s, fun i => Ks.getD i 0, rfl, ?_, fun i hi => ?_⟩, BE.out⟩
          · exact Nat.lt_of_lt_of_le hgk1 (Nat.le_trans hB.out.size KE.out.size)
          · rw [KE.out.cellAt (Nat.lt_of_lt_of_le hgk1 hB.out.size) hgkN, hB.out.cellAt hgk1 hgkX]
            exact HK.out i hi
end Go.Proofs.YtpmoaghhccioaaaGreat
