/- spec.hashRoot returns a word; new memory only. -/
import Derived.Test.YtpmoaghhccioaaaGreatTimes
import Derived.Test.YtpmoaghhccioaaaGreatSpecTurn
import Derived.Test.YtpmoaghhccioaaaGreatSpecKit
import Derived.Test.YtpmoaghhccioaaaGreatOff
import Derived.StillTailTactics
import Derived.IntWalk
namespace Go.Proofs.YtpmoaghhccioaaaGreat
open Go.RowKit
set_option linter.unusedVariables false

set_option maxRecDepth 100000 in
set_option maxHeartbeats 4000000 in
theorem hashRootCube (n bits : Int) (w : World) (hb : bits = 32 ∨ bits = 64) :
    Calls Tryz.prog 20 #[.int .u32 n, .bool true, .int .i64 bits] w fun e w' => AnyWord e ∧ Below w.heap.size w w' := by
  have hb2 : 32 ≤ bits ∧ bits ≤ 64 := by omega
  clear hb
  have hwb : IntKind.i64.wrap (64 - bits) = 64 - bits := IntWalk.i64_in _ (by omega)
  have hT := hashTimes
  have HT := Lib.hid hT
  clear hT
  go_enter Tryz.func20, Tryz.ntmps20
  go_wp2_with (refine wpl_make rfl (.const (.int .i64 3)) (.const (.int .i64 3)) 66 rfl 68 (.int .u32 0) 4 Tryz.underlying66 (by kernel_rfl) rfl .i64 .i64 _ 3 rfl rfl rfl (by omega) (by unfold maxLen; omega) ?_; intro g w1 hg r1 s1 b1)
  have hgs : g = w.heap.size + 1 + 1 := by rw [hg]; simp
  have rw7 : Row w1 (w.heap.size + 1) 68 (cs32 [0, 0, 0, 0, 0, 0, n]) := (Row.new (w.alloc _) _ _ _ (by simp)).below b1 (by simp)
  have bb : Below w.heap.size w w1 := (((Below.refl _ _).alloc (Nat.le_refl _) _).alloc (by simp) _).trans (b1.mono (by simp; omega))
  have R1 : Hid (Row w1 g 68 (cs32 [0, 0, 0])) := Lib.hid (by have := r1; simpa [cs32] using this)
  have R7 := Lib.hid rw7
  have B1 := Lib.hid bb
  clear r1 b1 rw7 bb s1
  clear hg
  subst hgs
  go_loopw [9] (fun i wr => ∃ (k : Int) (Y : List Int), 63 - bits ≤ k ∧ k ≤ 69 ∧ i = .int .i64 k ∧ Y.length = 3 ∧ Hid (Row wr (w.heap.size + 1 + 1) 68 (cs32 Y)) ∧ Hid (Below (w.heap.size + 1 + 1) w1 wr)) (fun i _ => (intOf i + 1).toNat)
  case atStart => exact ⟨69, _, by omega, by omega, rfl, rfl, R1, Lib.hid (Below.refl _ _)⟩
  case round =>
    obtain ⟨k, Y, hk0, hk1, rfl, hY, hR, hB⟩ := hrel
    by_cases hlt : 64 - bits ≤ k
    · obtain ⟨q, r, hq, hr, rfl⟩ : ∃ q r : Nat, q < 3 ∧ r < 32 ∧ k = 32 * q + r := ⟨k.toNat / 32, k.toNat % 32, by omega, by omega, by omega⟩
      have dq : (32 * (q : Int) + r).tdiv 32 = q := by rw [Int.tdiv_eq_ediv_of_nonneg (by omega)]; omega
      have dr : (32 * (q : Int) + r).tmod 32 = r := by rw [Int.tmod_eq_emod_of_nonneg (by omega)]; omega
      have wq : IntKind.i64.wrap (q : Int) = q := IntWalk.i64_in _ (by omega)
      have wr0 : IntKind.i64.wrap (r : Int) = r := IntWalk.i64_in _ (by omega)
      have hqI : (q : Int) < 3 := by omega
      obtain ⟨y1, hy1⟩ : ∃ y, y = Y.getD q 0 := ⟨_, rfl⟩
      have c1 : wr.cell? ⟨w.heap.size + 1 + 1, q, none⟩ = some (.int .u32 y1) := by rw [hR.out.cell, get_cs32 _ _ (by omega), hy1]
      clear hy1
      have f1 := hR.out.unfrozen q
      go_wp2_with fail
      go_still_tail 10, (by kernel_rfl)
      change wpList _ _ _ _ _ wr.drew
      have hR := Lib.hid (row_drewd hR.out)
      have hB := Lib.hid (below_drewd hB.out)
      have c1 : wr.drew.cell? ⟨w.heap.size + 1 + 1, q, none⟩ = some (.int .u32 y1) := c1
      have f1 : wr.drew.frozen? ⟨w.heap.size + 1 + 1, q, none⟩ = false := f1
      generalize Go.bits BinOp.or IntKind.u32 _ _ = z
      generalize IntKind.u32.wrap (2 ^ r) = y
      generalize wr.drew = wd at *
      clear dq dr wq wr0
      go_wp2_with fail
      go_at_call 33
      have rr := set32p hR.out q z
      have rl := rr.lt
      have bs := hB.out.setCell (p := ⟨w.heap.size + 1 + 1, q, none⟩) (Nat.le_refl _) (Value.int .u32 z)
      generalize wd.setCell _ _ = W1 at rr rl bs ⊢
      refine (HT.out _ _ _ _ _ _ 3 3 _ (by rw [List.length_set]; exact hY) (by rw [List.length_set]; exact hY) rr rr (by omega) (by omega)).mono ?_
      rintro e w2 ⟨A6, rfl, l6, r6, b6⟩
      have hR := Lib.hid (rr.below b6 rl)
      have hB := Lib.hid (bs.trans (b6.mono (Nat.le_of_lt rl)))
      obtain ⟨X6, hX6⟩ : ∃ X, W1.heap.size = X := ⟨_, rfl⟩
      rw [hX6] at r6 ⊢
      have r6 := Lib.hid r6
      clear rr rl bs b6 hX6 c1 f1
      go_wp2_with fail
      go_at_call 33
      refine (HT.out _ _ _ _ _ _ 6 3 _ l6 (by rw [List.length_set]; exact hY) r6.out hR.out (by omega) (by omega)).mono ?_
      rintro e w3 ⟨A9, rfl, l9, r9, b9⟩
      have hB := Lib.hid (hB.out.trans (b9.mono (Nat.le_of_lt hR.out.lt)))
      have hR := Lib.hid (hR.out.below b9 hR.out.lt)
      obtain ⟨X9, hX9⟩ : ∃ X, w2.heap.size = X := ⟨_, rfl⟩
      rw [hX9] at r9 ⊢
      have r9 := Lib.hid r9
      clear b9 hX9 r6 l6
      go_wp2_with fail
      go_at_call 34
      refine (hashMore _ _ _ _ A9 _ 9 7 w3 l9 rfl r9.out (R7.out.below hB.out (by omega)) (by omega) (by omega)).mono ?_
      rintro e w4 ⟨⟨b, rfl⟩, rfl⟩
      clear r9 l9
      have hY2 : (Y.set q z).length = 3 := by rw [List.length_set]; exact hY
      generalize Y.set q z = Y2 at hR hY2
      have HY := Lib.hid hY2
      clear hY hY2
      cases b
      · go_wp2_with fail
        refine ⟨⟨32 * (q : Int) + r - 1, Y2, by omega, by omega, by go_num, HY.out, hR, hB⟩, by simp [intOf]; omega⟩
      · have dq : (32 * (q : Int) + r).tdiv 32 = q := by rw [Int.tdiv_eq_ediv_of_nonneg (by omega)]; omega
        have dr : (32 * (q : Int) + r).tmod 32 = r := by rw [Int.tmod_eq_emod_of_nonneg (by omega)]; omega
        have wq : IntKind.i64.wrap (q : Int) = q := IntWalk.i64_in _ (by omega)
        have wr0 : IntKind.i64.wrap (r : Int) = r := IntWalk.i64_in _ (by omega)
        obtain ⟨y2, hy2⟩ : ∃ y, y = Y2.getD q 0 := ⟨_, rfl⟩
        have c1 : w4.cell? ⟨w.heap.size + 1 + 1, q, none⟩ = some (.int .u32 y2) := by rw [hR.out.cell, get_cs32 _ _ (by rw [HY.out]; omega), hy2]
        have f1 := hR.out.unfrozen q
        clear hy2
        go_wp2_with fail
        go_still_tail 10, (by kernel_rfl)
        change wpList _ _ _ _ _ w4.drew
        have hR := Lib.hid (row_drewd hR.out)
        have hB := Lib.hid (below_drewd hB.out)
        have c1 : w4.drew.cell? ⟨w.heap.size + 1 + 1, q, none⟩ = some (.int .u32 y2) := c1
        have f1 : w4.drew.frozen? ⟨w.heap.size + 1 + 1, q, none⟩ = false := f1
        generalize Go.bits BinOp.andNot IntKind.u32 _ _ = z
        generalize IntKind.u32.wrap (2 ^ r) = y
        generalize w4.drew = wd at *
        clear dq dr wq wr0
        go_wp2_with fail
        refine ⟨⟨32 * (q : Int) + r - 1, Y2.set q z, by omega, by omega, by go_num, by rw [List.length_set]; exact HY.out, Lib.hid (set32p hR.out q z), Lib.hid (hB.out.setCell (Nat.le_refl _) _)⟩, by simp [intOf]; omega⟩
    · have c0 : wr.cell? ⟨w.heap.size + 1 + 1, 0, none⟩ = some (.int .u32 (Y.getD 0 0)) := by rw [hR.out.cell, get_cs32 _ _ (by omega)]
      have c1 : wr.cell? ⟨w.heap.size + 1 + 1, 1, none⟩ = some (.int .u32 (Y.getD 1 0)) := by rw [hR.out.cell, get_cs32 _ _ (by omega)]
      go_wp2_with fail
      go_quiet (fail)
      have B2 := Lib.hid (B1.out.trans ((below_drewN hB.out nq).mono (by omega)))
      generalize wr.drewN nq = w2 at *
      go_wp2_with fail
      go_ret
      exact ⟨⟨_, rfl⟩, B2.out⟩
set_option maxRecDepth 100000 in
set_option maxHeartbeats 4000000 in
theorem hashRootSq (n bits : Int) (w : World) (hb : bits = 32 ∨ bits = 64) :
    Calls Tryz.prog 20 #[.int .u32 n, .bool false, .int .i64 bits] w fun e w' => AnyWord e ∧ Below w.heap.size w w' := by
  have hb2 : 32 ≤ bits ∧ bits ≤ 64 := by omega
  clear hb
  have hwb : IntKind.i64.wrap (64 - bits) = 64 - bits := IntWalk.i64_in _ (by omega)
  have hT := hashTimes
  have HT := Lib.hid hT
  clear hT
  go_enter Tryz.func20, Tryz.ntmps20
  go_wp2_with (refine wpl_make rfl (.const (.int .i64 3)) (.const (.int .i64 3)) 66 rfl 68 (.int .u32 0) 4 Tryz.underlying66 (by kernel_rfl) rfl .i64 .i64 _ 3 rfl rfl rfl (by omega) (by unfold maxLen; omega) ?_; intro g w1 hg r1 s1 b1)
  have hgs : g = w.heap.size + 1 := by rw [hg]; simp
  have rw7 : Row w1 w.heap.size 68 (cs32 [0, 0, 0, 0, n]) := (Row.new w _ _ _ rfl).below b1 (by simp)
  have bb : Below w.heap.size w w1 := ((Below.refl _ _).alloc (Nat.le_refl _) _).trans (b1.mono (by simp))
  have R1 : Hid (Row w1 g 68 (cs32 [0, 0, 0])) := Lib.hid (by have := r1; simpa [cs32] using this)
  have R7 := Lib.hid rw7
  have B1 := Lib.hid bb
  clear r1 b1 rw7 bb s1
  clear hg
  subst hgs
  go_loopw [9] (fun i wr => ∃ (k : Int) (Y : List Int), 63 - bits ≤ k ∧ k ≤ 69 ∧ i = .int .i64 k ∧ Y.length = 3 ∧ Hid (Row wr (w.heap.size + 1) 68 (cs32 Y)) ∧ Hid (Below (w.heap.size + 1) w1 wr)) (fun i _ => (intOf i + 1).toNat)
  case atStart => exact ⟨69, _, by omega, by omega, rfl, rfl, R1, Lib.hid (Below.refl _ _)⟩
  case round =>
    obtain ⟨k, Y, hk0, hk1, rfl, hY, hR, hB⟩ := hrel
    by_cases hlt : 64 - bits ≤ k
    · obtain ⟨q, r, hq, hr, rfl⟩ : ∃ q r : Nat, q < 3 ∧ r < 32 ∧ k = 32 * q + r := ⟨k.toNat / 32, k.toNat % 32, by omega, by omega, by omega⟩
      have dq : (32 * (q : Int) + r).tdiv 32 = q := by rw [Int.tdiv_eq_ediv_of_nonneg (by omega)]; omega
      have dr : (32 * (q : Int) + r).tmod 32 = r := by rw [Int.tmod_eq_emod_of_nonneg (by omega)]; omega
      have wq : IntKind.i64.wrap (q : Int) = q := IntWalk.i64_in _ (by omega)
      have wr0 : IntKind.i64.wrap (r : Int) = r := IntWalk.i64_in _ (by omega)
      have hqI : (q : Int) < 3 := by omega
      obtain ⟨y1, hy1⟩ : ∃ y, y = Y.getD q 0 := ⟨_, rfl⟩
      have c1 : wr.cell? ⟨w.heap.size + 1, q, none⟩ = some (.int .u32 y1) := by rw [hR.out.cell, get_cs32 _ _ (by omega), hy1]
      clear hy1
      have f1 := hR.out.unfrozen q
      go_wp2_with fail
      go_still_tail 10, (by kernel_rfl)
      change wpList _ _ _ _ _ wr.drew
      have hR := Lib.hid (row_drewd hR.out)
      have hB := Lib.hid (below_drewd hB.out)
      have c1 : wr.drew.cell? ⟨w.heap.size + 1, q, none⟩ = some (.int .u32 y1) := c1
      have f1 : wr.drew.frozen? ⟨w.heap.size + 1, q, none⟩ = false := f1
      generalize Go.bits BinOp.or IntKind.u32 _ _ = z
      generalize IntKind.u32.wrap (2 ^ r) = y
      generalize wr.drew = wd at *
      clear dq dr wq wr0
      go_wp2_with fail
      go_at_call 33
      have rr := set32p hR.out q z
      have rl := rr.lt
      have bs := hB.out.setCell (p := ⟨w.heap.size + 1, q, none⟩) (Nat.le_refl _) (Value.int .u32 z)
      generalize wd.setCell _ _ = W1 at rr rl bs ⊢
      refine (HT.out _ _ _ _ _ _ 3 3 _ (by rw [List.length_set]; exact hY) (by rw [List.length_set]; exact hY) rr rr (by omega) (by omega)).mono ?_
      rintro e w2 ⟨A6, rfl, l6, r6, b6⟩
      have hR := Lib.hid (rr.below b6 rl)
      have hB := Lib.hid (bs.trans (b6.mono (Nat.le_of_lt rl)))
      obtain ⟨X6, hX6⟩ : ∃ X, W1.heap.size = X := ⟨_, rfl⟩
      rw [hX6] at r6 ⊢
      have r6 := Lib.hid r6
      clear rr rl bs b6 hX6 c1 f1
      go_wp2_with fail
      go_at_call 34
      refine (hashMore _ _ _ _ A6 _ 6 5 w2 l6 rfl r6.out (R7.out.below hB.out (by omega)) (by omega) (by omega)).mono ?_
      rintro e w4 ⟨⟨b, rfl⟩, rfl⟩
      clear r6 l6
      have hY2 : (Y.set q z).length = 3 := by rw [List.length_set]; exact hY
      generalize Y.set q z = Y2 at hR hY2
      have HY := Lib.hid hY2
      clear hY hY2
      cases b
      · go_wp2_with fail
        refine ⟨⟨32 * (q : Int) + r - 1, Y2, by omega, by omega, by go_num, HY.out, hR, hB⟩, by simp [intOf]; omega⟩
      · have dq : (32 * (q : Int) + r).tdiv 32 = q := by rw [Int.tdiv_eq_ediv_of_nonneg (by omega)]; omega
        have dr : (32 * (q : Int) + r).tmod 32 = r := by rw [Int.tmod_eq_emod_of_nonneg (by omega)]; omega
        have wq : IntKind.i64.wrap (q : Int) = q := IntWalk.i64_in _ (by omega)
        have wr0 : IntKind.i64.wrap (r : Int) = r := IntWalk.i64_in _ (by omega)
        obtain ⟨y2, hy2⟩ : ∃ y, y = Y2.getD q 0 := ⟨_, rfl⟩
        have c1 : w4.cell? ⟨w.heap.size + 1, q, none⟩ = some (.int .u32 y2) := by rw [hR.out.cell, get_cs32 _ _ (by rw [HY.out]; omega), hy2]
        have f1 := hR.out.unfrozen q
        clear hy2
        go_wp2_with fail
        go_still_tail 10, (by kernel_rfl)
        change wpList _ _ _ _ _ w4.drew
        have hR := Lib.hid (row_drewd hR.out)
        have hB := Lib.hid (below_drewd hB.out)
        have c1 : w4.drew.cell? ⟨w.heap.size + 1, q, none⟩ = some (.int .u32 y2) := c1
        have f1 : w4.drew.frozen? ⟨w.heap.size + 1, q, none⟩ = false := f1
        generalize Go.bits BinOp.andNot IntKind.u32 _ _ = z
        generalize IntKind.u32.wrap (2 ^ r) = y
        generalize w4.drew = wd at *
        clear dq dr wq wr0
        go_wp2_with fail
        refine ⟨⟨32 * (q : Int) + r - 1, Y2.set q z, by omega, by omega, by go_num, by rw [List.length_set]; exact HY.out, Lib.hid (set32p hR.out q z), Lib.hid (hB.out.setCell (Nat.le_refl _) _)⟩, by simp [intOf]; omega⟩
    · have c0 : wr.cell? ⟨w.heap.size + 1, 0, none⟩ = some (.int .u32 (Y.getD 0 0)) := by rw [hR.out.cell, get_cs32 _ _ (by omega)]
      have c1 : wr.cell? ⟨w.heap.size + 1, 1, none⟩ = some (.int .u32 (Y.getD 1 0)) := by rw [hR.out.cell, get_cs32 _ _ (by omega)]
      go_wp2_with fail
      go_quiet (fail)
      have B2 := Lib.hid (B1.out.trans ((below_drewN hB.out nq).mono (by omega)))
      generalize wr.drewN nq = w2 at *
      go_wp2_with fail
      go_ret
      exact ⟨⟨_, rfl⟩, B2.out⟩
end Go.Proofs.YtpmoaghhccioaaaGreat
