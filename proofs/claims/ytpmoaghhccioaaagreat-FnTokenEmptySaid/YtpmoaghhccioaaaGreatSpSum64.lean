/- spec.Hash's Sum returns so many bytes; new memory only (blocks of 64 bytes). -/
import Derived.Test.YtpmoaghhccioaaaGreatBlk64
import Derived.Test.YtpmoaghhccioaaaGreatHofKit
import Derived.Test.YtpmoaghhccioaaaGreatBytes
namespace Go.Proofs.YtpmoaghhccioaaaGreat
open Go.RowKit
set_option linter.unusedVariables false

set_option maxRecDepth 100000 in
set_option maxHeartbeats 4000000 in
theorem sum64 (sz : Nat) (s : S8) (gk ck nk : Nat) (zk : Nat → Int) (gb ob cb n : Nat) (xs : List Int) (w : World) (hs0 : 0 < sz) (hs1 : sz ≤ 32) (hnk : nk ≤ 100)
    (hk : ∀ i, i < nk → w.cell? ⟨gk, i, none⟩ = some (.int .u64 (zk i))) (hgk : gk < w.heap.size) (hb : Bs w (.slice (some ⟨gb, ob, none⟩) n cb) xs) (hn0 : 0 < n) (hn1 : n ≤ 5000) (hl : xs.length = n) :
    Calls Tryz.prog 21 #[hv sz 64 false (.slice (some ⟨gk, 0, none⟩) nk ck) s, .slice (some ⟨gb, ob, none⟩) n cb] w fun e w' => (∃ v zs, e = .returned v ∧ w'.ownsRow w.heap.size 5 1 v sz (cs8 zs)) ∧ Below w.heap.size w w' := by
  have HK := Lib.hid hk
  have HB := Lib.hid hb
  clear hk hb
  unfold hv
  have hsI : ((sz : Int) == 0) = false := by simp; omega
  have hsz0 : ¬ ((sz : Int) = 0) := by omega
  obtain ⟨i0, hi, hz0, hz1, hz2⟩ := info_parts (P := Tryz.prog) (e := 5) (z := .int .u8 0) (size := 1) (bytes := 1) (by kernel_rfl)
  have hi := Lib.hid hi
  go_enter Tryz.func21, Tryz.ntmps21
  go_wp2_with (first
    | (at_builtin
       generalize hW : World.alloc _ _ = W
       obtain ⟨R1, R2, hWs, hWB⟩ := two hW
       have Hb := Lib.hid (show Bs W (.slice (some ⟨gb, ob, none⟩) n cb) xs by rw [← hW]; exact (HB.out.below ((Below.refl w.heap.size w).alloc (Nat.le_refl _) _)).below ((Below.refl _ _).alloc (Nat.le_refl _) _))
       have own0 := own_of_row R2 (w.heap.size + 1) 0 0 (Nat.le_refl _) (Nat.le_refl _) rfl (by decide)
       clear hW
       refine wpl_appendN rfl _ _ 22 rfl (w.heap.size + 1) 5 Tryz.underlying22 (by kernel_rfl) (.slice (some ⟨w.heap.size + 1, 0, none⟩) 0 0) 0 _ rfl own0 _ n cb xs rfl Hb.out hn0 (by omega) (by omega) ?_
       intro ga ca w1 o1 gr1 hga hgl
       have B1 := Lib.hid (hWB.grown gr1 (by omega) (by intro k hk; simp [Value.ownBlock] at hk; omega))
       have R1 := Lib.hid (R1.grown gr1 (by simp [Value.ownBlock]))
       have o1 := Lib.hid (show w1.ownsRow (w.heap.size + 1) 5 1 (.slice (some ⟨ga, 0, none⟩) n ca) n (cs8 xs) by simpa using o1)
       have hgl := Lib.hid hgl
       clear own0 R2 gr1 Hb hWB hWs)
    | (at_builtin
       have HX := Lib.hid (fun o => o1.out.alloc o)
       refine wpl_append1 rfl _ _ 22 rfl (w.heap.size + 1) 5 (.int .u8 0) 1 Tryz.underlying22 (by kernel_rfl) rfl (by decide) (.slice (some ⟨ga, 0, none⟩) n ca) n (cs8 xs) rfl (HX.out _) w1.heap.size _ (.int .u8 128) rfl (by rw [cell_of_row _ _ _ _ _ _ (heap_alloc_new _ _)]; rfl) rfl (by omega) (by simp; omega) ?_
       intro g2 c2 w2 o2 gr2 hg2 hl2
       have B2 := Lib.hid ((B1.out.alloc B1.out.size _).grown gr2 (by simp; have := B1.out.size; omega) (fun k hk => by have := own_ge o1.out k hk; omega))
       have R2 := Lib.hid (Row.grown (R1.out.below ((Below.refl _ _).alloc (Nat.le_refl _) _) R1.out.lt) gr2 (fun h => by have := own_ge o1.out _ h.symm; omega))
       have o2 := Lib.hid o2
       clear gr2))
  have o3 := Lib.hid (show w2.ownsRow (w.heap.size + 1) 5 1 (.slice (some ⟨g2, 0, none⟩) (n + 1) c2) (n + 1) (cs8 (xs ++ [128])) by have := o2.out; simpa [cs8] using this)
  have R2 := Lib.hid (show Row w2 w.heap.size 51 (hc sz 64 false (.slice (some ⟨gk, 0, none⟩) nk ck) s) from R2.out)
  clear o2 o1 R1 B1 HB
  obtain ⟨T, hT1, hT2, hT3⟩ : ∃ T : Nat, T % 64 = 56 ∧ n + 1 ≤ T ∧ T ≤ n + 1 + 64 := ⟨64 * ((n + 8) / 64) + 56, by omega, by omega, by omega⟩
  have hlen : w.heap.size + 1 ≤ w2.heap.size := by have := R2.out.lt; omega
  go_loopw [5] (fun v wr => ∃ (L : Nat) (g c : Nat) (ys : List Int), n + 1 ≤ L ∧ L ≤ T ∧ v = .slice (some ⟨g, 0, none⟩) L c ∧ Hid (wr.ownsRow (w.heap.size + 1) 5 1 v L (cs8 ys)) ∧ Hid (Below (w.heap.size + 1) w2 wr)) (fun v _ => T - lenOf v)
  case atStart => exact ⟨n + 1, g2, c2, _, by omega, by omega, rfl, o3, Lib.hid (Below.refl _ _)⟩
  case round =>
    clear o3
    obtain ⟨L, g, c, ys, hL0, hL1, rfl, hO, hB⟩ := hrel
    have hR := Lib.hid (R2.out.below hB.out (by omega))
    have x1 : wr.cell? ⟨w.heap.size, 1, none⟩ = some (.int .i64 64) := by rw [hR.out.cell]; rfl
    by_cases hm : L % 64 = 56
    · have hmI : ((L : Int) % 64) = 56 := by omega
      go_wp2_with fail
      go_quiet (fail)
      have hO := Lib.hid (show (wr.drewN nq).ownsRow (w.heap.size + 1) 5 1 (.slice (some ⟨g, 0, none⟩) L c) L (cs8 ys) from hO.out)
      have hB := Lib.hid (below_drewN hB.out nq)
      have hR := Lib.hid (row_drewN hR.out nq)
      have x1 : (wr.drewN nq).cell? ⟨w.heap.size, 1, none⟩ = some (.int .i64 64) := x1
      generalize wr.drewN nq = w3 at *
      clear hmI
      go_wp2_with fail
      clear x1
      go_loopw [6, 5] (fun i v wr => ∃ (k ln : Nat) (g c : Nat) (ys : List Int), k ≤ 8 ∧ ln + k = L + 8 ∧ i = .int .i64 ((k : Int) - 1) ∧ v = .slice (some ⟨g, 0, none⟩) ln c ∧ Hid (wr.ownsRow (w.heap.size + 1) 5 1 v ln (cs8 ys)) ∧ Hid (Below (w.heap.size + 1) w2 wr)) (fun i _ _ => (intOf i + 1).toNat)
      case atStart => exact ⟨8, L, g, c, ys, by omega, rfl, rfl, rfl, hO, hB⟩
      case round =>
        clear hO hB hR
        obtain ⟨k, ln, g, c, ys, hk, hln, rfl, rfl, hO, hB⟩ := hrel
        have HX := Lib.hid (fun wx (hbx : Below wr.heap.size wr wx) o => (own_below hO.out hbx).alloc o)
        have hB3 := Lib.hid hB.out.size
        by_cases hk0 : 0 < k
        · have hkI : (0 : Int) ≤ (k : Int) - 1 := by omega
          have hk8 : (k : Int) - 1 < 8 := by omega
          have hw8 : IntKind.i64.wrap (8 * ((k : Int) - 1)) = 8 * ((k : Int) - 1) := IntWalk.i64_in _ (by omega)
          have hw9 : (0 : Int) ≤ 8 * ((k : Int) - 1) := by omega
          go_wp2_with (at_builtin; refine wpl_append1 rfl _ _ 22 rfl (w.heap.size + 1) 5 (.int .u8 0) 1 Tryz.underlying22 (by kernel_rfl) rfl (by decide) (.slice (some ⟨g, 0, none⟩) ln c) ln (cs8 ys) rfl (HX.out _ (Below.refl _ _) _) wr.heap.size _ (.int .u8 _) rfl (by rw [cell_of_row _ _ _ _ _ _ (heap_alloc_new _ _)]; rfl) rfl (by omega) (by have := hB3.out; simp; omega) ?_; intro g4 c4 w4 o4 gr4 hg4 hl4; rw [cs8_snoc] at o4; have o4 := Lib.hid o4; have hB4 := Lib.hid ((hB.out.alloc (by have := hB3.out; omega) _).grown gr4 (by have := hB3.out; simp; omega) (fun k hk => own_ge hO.out k hk)); clear gr4)
          refine ⟨⟨k - 1, ln + 1, g4, c4, _, by omega, by omega, by simp only [Value.int.injEq, true_and]; omega, rfl, o4, hB4⟩, by simp [intOf]; omega⟩
        · obtain rfl : k = 0 := by omega
          obtain ⟨M, hM⟩ : ∃ M, L + 8 = 64 * M := ⟨(L + 8) / 64, by omega⟩
          obtain rfl : ln = 64 * M := by omega
          have h01 : (((0 : Nat) : Int) - 1) = -1 := rfl
          simp only [h01]
          clear h01
          have hR := Lib.hid (R2.out.below hB.out (by omega))
          have x1 : wr.cell? ⟨w.heap.size, 1, none⟩ = some (.int .i64 64) := by rw [hR.out.cell]; rfl
          obtain ⟨-, -, -, -, v4, v5, v6, v7, v8, v9, v10, v11⟩ := cells12 hR.out
          go_wp2_with fail
          generalize hw5 : wr.alloc _ = w5
          have b5 : Below wr.heap.size wr w5 := by rw [← hw5]; exact (Below.refl _ _).alloc (Nat.le_refl _) _
          have V5 : Row w5 wr.heap.size 49 (cs64 (words8 s)) := by rw [← hw5]; exact Row.new wr _ _ _ rfl
          have O5 := Lib.hid (own_below hO.out b5)
          have R5 := Lib.hid (hR.out.below b5 hR.out.lt)
          have hgV := (hO.out.lt g rfl).2
          have hVN := hR.out.lt
          have K5 := Lib.hid (show ∀ i, i < nk → w5.cell? ⟨gk, i, none⟩ = some (.int .u64 (zk i)) from fun i hi => by
            rw [b5.cell (by show gk < _; omega), hB.out.cell (by show gk < _; omega), B2.out.cell hgk]; exact HK.out i hi)
          have B5 := Lib.hid ((B2.out.trans (hB.out.mono (by omega))).trans (b5.mono (by omega)))
          have hcap : 64 * M ≤ c := by
            rcases hO.out.2 with ⟨h, _⟩ | ⟨g', cap, cur, h, _, _, hn, _⟩
            · cases h
            · simp only [Value.slice.injEq] at h; omega
          obtain ⟨V, hV⟩ : ∃ V, wr.heap.size = V := ⟨_, rfl⟩
          rw [hV] at V5 hgV hVN ⊢
          have V5 := Lib.hid V5
          clear hw5 b5 hO hR hB x1 v4 v5 v6 v7 v8 v9 v10 v11 hV HX hB3 HK R2 B2
          obtain ⟨wo, rfl⟩ : ∃ wo : World, wo = wr := ⟨_, rfl⟩
          go_loopw [9] (fun i wr => ∃ (m : Nat) (t : S8), m ≤ M ∧ i = .int .i64 (64 * (m : Int)) ∧ Hid (Row wr V 49 (cs64 (words8 t))) ∧ Hid (Below V w5 wr)) (fun i _ => 64 * M + 64 - (intOf i).toNat)
          case atStart => exact ⟨0, s, by omega, rfl, V5, Lib.hid (Below.refl _ _)⟩
          case round =>
            obtain ⟨m, t, hm0, rfl, hR, hB⟩ := hrel
            have hX := Lib.hid (R5.out.below hB.out hVN)
            by_cases hmM : m < M
            · have hmI2 : 64 * (m : Int) < 64 * M := by omega
              have hcI : 64 * (m : Int) + 64 ≤ c := by omega
              have hcw : IntKind.i64.wrap (64 * (m : Int) + 64) = 64 * (m : Int) + 64 := IntWalk.i64_in _ (by omega)
              have hc0 : (0 : Int) ≤ 64 * (m : Int) := by omega
              have ht1 : (64 * (m : Int)).toNat = 64 * m := by omega
              have ht2 : (64 * (m : Int) + 64).toNat = 64 * m + 64 := by omega
              have hne : ¬ c = 64 * m := by omega
              have hle : 64 * (m : Int) ≤ 64 * (m : Int) + 64 := by omega
              have hgo : g + 0 = g := rfl
              have ht3 : 64 * m + 64 - 64 * m = 64 := by omega
              obtain ⟨x0, x1, x2, x3, x4, x5, x6, x7, x8, x9, x10, x11⟩ := cells12 hX.out
              obtain ⟨y0, y1, y2, y3, y4, y5, y6, y7⟩ := cells8 hR.out
              go_wp2_with fail
              go_still_tail 9, (by kernel_rfl)
              change wpList _ _ _ _ _ wr.drew
              have hX := Lib.hid (row_drewd hX.out)
              have hR := Lib.hid (row_drewd hR.out)
              have hB := Lib.hid (below_drewd hB.out)
              generalize wr.drew = wd at *
              clear x0 x1 x2 x3 x4 x5 x6 x7 x8 x9 x10 x11 y0 y1 y2 y3 y4 y5 y6 y7 hcw ht1 ht2 ht3
              go_wp2_with fail
              go_at_call 35
              refine (block64 sz s t gk ck nk g (64 * m) (c - 64 * m) zk (fun i => ys.getD (64 * m + i) 0) wd hnk (fun i hi => ?_) (fun i hi => ?_) ?_ ?_ (by omega)).mono ?_
              · rw [hB.out.cell (by show gk < _; omega)]; exact K5.out i hi
              · rw [hB.out.cell (by show g < _; omega), O5.out.cellAt _ (by omega), get_cs8 _ _ (by have := O5.out.1; simp [cs8] at this; omega)]
              · have := hR.out.lt; omega
              · have := hR.out.lt; omega
              rintro e wn ⟨⟨t', rfl⟩, bn⟩
              have hB := Lib.hid (hB.out.trans (bn.mono (Nat.le_of_lt hR.out.lt)))
              have hR := Lib.hid (hR.out.below bn hR.out.lt)
              have hX := Lib.hid (hX.out.below bn hX.out.lt)
              obtain ⟨y0, y1, y2, y3, y4, y5, y6, y7⟩ := cells8 hR.out
              have fV := hR.out.unfrozen
              have x1 : wn.cell? ⟨w.heap.size, 1, none⟩ = some (.int .i64 64) := by rw [hX.out.cell]; rfl
              have hVN' : ¬ V = w.heap.size := by omega
              have hVN2 : ¬ w.heap.size = V := by omega
              unfold v8
              clear bn
              go_wp2_with fail
              refine ⟨⟨m + 1, t', by omega, by simp only [Value.int.injEq, true_and]; omega, Lib.hid (set8p hR.out _ _ _ _ _ _ _ _), Lib.hid (below8 hB.out (Nat.le_refl _) _ _ _ _ _ _ _ _)⟩, by simp only [intOf]; omega⟩
            · obtain rfl : m = M := by omega
              have x1 : wr.cell? ⟨w.heap.size, 1, none⟩ = some (.int .i64 64) := by rw [hX.out.cell]; rfl
              obtain ⟨y0, y1, y2, y3, y4, y5, y6, y7⟩ := cells8 hR.out
              have BF := Lib.hid (B5.out.trans (hB.out.mono (by omega)))
              have hF := Lib.hid (show wr.cell? ⟨w.heap.size, 0, none⟩ = some (.int .i64 sz) by rw [hX.out.cell]; rfl)
              have hNF := hX.out.lt
              go_wp2_with fail
              clear y0 y1 y2 y3 y4 y5 y6 y7 x1
              obtain ⟨wf, rfl⟩ : ∃ wf : World, wf = wr := ⟨_, rfl⟩
              go_loopw [84, 10] (fun i v wr => ∃ (k : Nat) (a : Option Addr) (c : Nat) (zs : List Int), k ≤ 8 ∧ i = .int .i64 k ∧ v = .slice a (4 * k) c ∧ Hid (wr.ownsRow wf.heap.size 5 1 v (4 * k) (cs8 zs)) ∧ Hid (Below wf.heap.size wf wr)) (fun i _ _ => 8 - (intOf i).toNat)
              case atStart => exact ⟨0, none, 0, [], by omega, rfl, rfl, Lib.hid (World.ownsRow_nil _ _ _ _), Lib.hid (Below.refl _ _)⟩
              case round =>
                obtain ⟨k, a, c', zs, hk, rfl, rfl, hO, hB⟩ := hrel
                by_cases hk8 : k < 8
                · obtain ⟨x, hx⟩ := index8 t k hk8
                  have hkI8 : (k : Int) < 8 := by omega
                  go_wp2_with fail
                  clear hx
                  obtain ⟨wo, rfl⟩ : ∃ wo : World, wo = wr := ⟨_, rfl⟩
                  go_loopw [14, 10] (fun i v wr => ∃ (q ln : Nat) (a : Option Addr) (c : Nat) (zs : List Int), q ≤ 4 ∧ ln + q = 4 * k + 4 ∧ i = .int .i64 ((q : Int) - 1) ∧ v = .slice a ln c ∧ Hid (wr.ownsRow wf.heap.size 5 1 v ln (cs8 zs)) ∧ Hid (Below wf.heap.size wf wr)) (fun i _ _ => (intOf i + 1).toNat)
                  case atStart => exact ⟨4, 4 * k, a, c', zs, by omega, rfl, rfl, rfl, hO, hB⟩
                  case round =>
                    clear hO hB
                    obtain ⟨q, ln, a, c, zs, hq, hln, rfl, rfl, hO, hB⟩ := hrel
                    by_cases hq0 : 0 < q
                    · have hkI : (0 : Int) ≤ (q : Int) - 1 := by omega
                      have hw8 : IntKind.i64.wrap (8 * ((q : Int) - 1)) = 8 * ((q : Int) - 1) := IntWalk.i64_in _ (by omega)
                      have hw9 : (0 : Int) ≤ 8 * ((q : Int) - 1) := by omega
                      have HX := Lib.hid (fun o => hO.out.alloc o)
                      have hB3 := Lib.hid hB.out.size
                      go_wp2_with (at_builtin; refine wpl_append1 rfl _ _ 22 rfl wf.heap.size 5 (.int .u8 0) 1 Tryz.underlying22 (by kernel_rfl) rfl (by decide) (.slice a ln c) ln (cs8 zs) rfl (HX.out _) wr.heap.size _ (.int .u8 _) rfl (by rw [cell_of_row _ _ _ _ _ _ (heap_alloc_new _ _)]; rfl) rfl (by omega) (by have := hB3.out; simp; omega) ?_; intro g4 c4 w4 o4 gr4 hg4 hl4; rw [cs8_snoc] at o4; have o4 := Lib.hid o4; have hB4 := Lib.hid ((hB.out.alloc (by have := hB3.out; omega) _).grown gr4 (by have := hB3.out; simp; omega) (fun k hk => own_ge hO.out k hk)); clear gr4)
                      refine ⟨⟨q - 1, ln + 1, _, c4, _, by omega, by omega, by simp only [Value.int.injEq, true_and]; omega, rfl, o4, hB4⟩, by simp [intOf]; omega⟩
                    · obtain rfl : q = 0 := by omega
                      obtain rfl : ln = 4 * (k + 1) := by omega
                      go_wp2_with fail
                      refine ⟨⟨k + 1, a, c, zs, by omega, by go_num, rfl, hO, hB⟩, by simp [intOf]; omega⟩
                · obtain rfl : k = 8 := by omega
                  obtain ⟨g9, c9, he, hg9, hl9⟩ := hO.out.form (by decide)
                  simp only [Value.slice.injEq] at he
                  obtain ⟨rfl, -, rfl⟩ := he
                  have hc9 : 32 ≤ c' := by
                    rcases hO.out.2 with ⟨h, _⟩ | ⟨g', cap, cur, h, _, _, hn, _⟩
                    · cases h
                    · simp only [Value.slice.injEq] at h; omega
                  have hF2 : wr.cell? ⟨w.heap.size, 0, none⟩ = some (.int .i64 sz) := by rw [hB.out.cell (by show w.heap.size < _; omega)]; exact hF.out
                  have hcI9 : (sz : Int) ≤ c' := by omega
                  have hsI9 : (0 : Int) ≤ sz := by omega
                  have hcn : ¬ c' = 0 := by omega
                  go_wp2_with fail
                  go_ret
                  refine ⟨⟨_, _, rfl, own_take hO.out sz hs1 (by have := BF.out.size; exact this)⟩, BF.out.trans (hB.out.mono BF.out.size)⟩
    · have hmI : ¬ (((L : Int) % 64) = 56) := by omega
      go_wp2_with fail
      go_quiet (fail)
      have hO := Lib.hid (show (wr.drewN nq).ownsRow (w.heap.size + 1) 5 1 (.slice (some ⟨g, 0, none⟩) L c) L (cs8 ys) from hO.out)
      have hB := Lib.hid (below_drewN hB.out nq)
      clear x1 hR
      generalize wr.drewN nq = w3 at *
      have hLT : L < T := by
        rcases Nat.lt_or_ge L T with h | h
        · exact h
        · exfalso; apply hm; have : L = T := by omega
          rw [this]; exact hT1
      have HX := Lib.hid (fun o => hO.out.alloc o)
      have hB3 := Lib.hid hB.out.size
      go_wp2_with (at_builtin; refine wpl_append1 rfl _ _ 22 rfl (w.heap.size + 1) 5 (.int .u8 0) 1 Tryz.underlying22 (by kernel_rfl) rfl (by decide) (.slice (some ⟨g, 0, none⟩) L c) L (cs8 ys) rfl (HX.out _) w3.heap.size _ (.int .u8 0) rfl (by rw [cell_of_row _ _ _ _ _ _ (heap_alloc_new _ _)]; rfl) rfl (by omega) (by have := hB3.out; simp; omega) ?_; intro g4 c4 w4 o4 gr4 hg4 hl4; have o4 := Lib.hid o4; have hB4 := Lib.hid ((hB.out.alloc (by have := hB3.out; omega) _).grown gr4 (by have := hB3.out; simp; omega) (fun k hk => own_ge hO.out k hk)); clear gr4)
      refine ⟨⟨L + 1, g4, c4, ys ++ [0], by omega, by omega, rfl, Lib.hid (by have := o4.out; simpa [cs8] using this), hB4⟩, by simp [lenOf]; omega⟩
end Go.Proofs.YtpmoaghhccioaaaGreat
