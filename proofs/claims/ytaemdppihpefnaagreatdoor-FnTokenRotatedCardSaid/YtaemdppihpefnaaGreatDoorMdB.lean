/- (*sha256.Digest).checkSum and Sum, whatever the table holds. -/
import Derived.Test.YtaemdppihpefnaaGreatDoorMdA
import Derived.Laws.OwnMore
import Derived.Test.YtaemdppihpefnaaGreatDoorHashKit
import Derived.LaidEql
namespace Go.Proofs.YtaemdppihpefnaaGreatDoor
open Go.RowKit
set_option linter.unusedVariables false

/-- Some numbers of a list, set one behind the other from place o on. -/
def setI (cur : List Int) (o : Nat) : List Int → List Int
  | [] => cur
  | y :: ys => setI (cur.set o y) (o + 1) ys
theorem setL_cs8 : ∀ (ys cur : List Int) (o : Nat), setL (cs8 cur) o (cs8 ys) = cs8 (setI cur o ys)
  | [], _, _ => rfl
  | y :: ys, cur, o => by
    show setL ((cs8 cur).set o (.int .u8 y)) (o + 1) (cs8 ys) = cs8 (setI (cur.set o y) (o + 1) ys)
    rw [← setL_cs8 ys]
    congr 1
    simp [cs8, List.map_set]
theorem setI_len : ∀ (ys cur : List Int) (o : Nat), (setI cur o ys).length = cur.length
  | [], _, _ => rfl
  | y :: ys, cur, o => by rw [setI, setI_len ys]; simp

/-- How many bytes of the padding stand ahead of the length. -/
def padN (n : Nat) : Nat := if n % 64 < 56 then 56 - n % 64 else 120 - n % 64
/-- The padding behind n bytes. -/
def pad32 (n : Nat) : List Int := (setI (128 :: List.replicate 71 0) (padN n) (put64 (n * 8) 8)).take (padN n + 8)
theorem padN_le (n : Nat) : 1 ≤ padN n ∧ padN n ≤ 64 := by unfold padN; split <;> omega
theorem pad32_len (n : Nat) : (pad32 n).length = padN n + 8 := by
  have := padN_le n
  unfold pad32
  rw [List.length_take, setI_len]
  simp; omega

/-- What a writing does to the number of waiting bytes and to the length. -/
theorem fill32_nx (K : List Int) (d : D32) (p : List Int) (h : d.nx < 64) : (fill32 K d p).1.nx < 64 ∧ ((fill32 K d p).1.nx + (fill32 K d p).2.length) % 64 = (d.nx + p.length) % 64 ∧ ((fill32 K d p).2.length = 0 ∨ (fill32 K d p).1.nx = 0) := by
  have hf := fillN_le d.nx p.length
  unfold fill32
  split
  · exact ⟨by show d.nx < 64; omega, rfl, Or.inr (by assumption)⟩
  · split
    · refine ⟨by show 0 < 64; omega, ?_, Or.inr rfl⟩
      show (0 + (p.drop _).length) % 64 = _
      rw [List.length_drop]; omega
    · refine ⟨by show d.nx + _ < 64; unfold fillN at *; omega, ?_, Or.inl ?_⟩
      · show (d.nx + fillN d.nx p.length + (p.drop _).length) % 64 = _
        rw [List.length_drop]; unfold fillN at *; omega
      · show (p.drop _).length = 0
        rw [List.length_drop]; unfold fillN at *; omega
theorem whole32_nx (K : List Int) (d : D32) (p : List Int) : (whole32 K d p).1.nx = d.nx ∧ (whole32 K d p).2.length % 64 = p.length % 64 ∧ (p.length = 0 → (whole32 K d p).2.length = 0) := by
  unfold whole32
  split
  · refine ⟨rfl, ?_, ?_⟩
    · show (p.drop _).length % 64 = _
      rw [List.length_drop]; omega
    · intro h; omega
  · exact ⟨rfl, rfl, fun h => h⟩
theorem write32_nx (K : List Int) (d : D32) (p : List Int) (h : d.nx < 64) : (write32 K d p).nx = (d.nx + p.length) % 64 := by
  obtain ⟨a1, a2, a3⟩ := fill32_nx K (longer32 d p.length) p h
  obtain ⟨b1, b2, b3⟩ := whole32_nx K (fill32 K (longer32 d p.length) p).1 (fill32 K (longer32 d p.length) p).2
  have b4 := whole32_lt K (fill32 K (longer32 d p.length) p).1 (fill32 K (longer32 d p.length) p).2
  have a2 : _ = (d.nx + p.length) % 64 := a2
  unfold write32 rest32
  split
  · show List.length _ = _
    rename_i hpos
    have : (fill32 K (longer32 d p.length) p).2.length ≠ 0 := fun hh => by have := b3 hh; omega
    rcases a3 with a3 | a3
    · omega
    · omega
  · rename_i hpos
    show (whole32 K _ _).1.nx = _
    rw [b1]
    rcases a3 with a3 | a3 <;> omega
theorem write32_len (K : List Int) (d : D32) (p : List Int) : (write32 K d p).len = IntKind.u64.wrap (d.len + p.length) := by
  have a : ∀ d p, (rest32 d p).len = d.len := by intro d p; unfold rest32; split <;> rfl
  have b : ∀ d p, (whole32 K d p).1.len = d.len := by intro d p; unfold whole32; split <;> rfl
  have c : ∀ d p, (fill32 K d p).1.len = d.len := by intro d p; unfold fill32; split <;> first | rfl | (split <;> rfl)
  unfold write32
  rw [a, b, c]; rfl
theorem write32_x (K : List Int) (d : D32) (p : List Int) (hx : d.x.length = 64) (h : d.nx < 64) : (write32 K d p).x.length = 64 := by
  have hf := fillN_le d.nx p.length
  have f : (fill32 K (longer32 d p.length) p).1.x.length = 64 := by
    unfold fill32
    split
    · exact hx
    · split
      all_goals (show (splice d.x d.nx (p.take (fillN d.nx p.length))).length = 64; rw [length_splice _ _ _ (by rw [List.length_take]; omega)]; exact hx)
  have g : (whole32 K (fill32 K (longer32 d p.length) p).1 (fill32 K (longer32 d p.length) p).2).1.x.length = 64 := by
    unfold whole32
    split
    · exact f
    · exact f
  have l := whole32_lt K (fill32 K (longer32 d p.length) p).1 (fill32 K (longer32 d p.length) p).2
  unfold write32 rest32
  split
  · show (splice _ 0 _).length = 64
    rw [length_splice _ _ _ (by omega)]; exact g
  · exact g

/-- The bytes of eight words. -/
def out32 (s : S8) : List Int := put32 s.a ++ put32 s.b ++ put32 s.c ++ put32 s.d ++ put32 s.e ++ put32 s.f ++ put32 s.g ++ put32 s.h
theorem set4 (A B : List Int) (o : Nat) (x0 x1 x2 x3 y0 y1 y2 y3 : Int) (h : A.length = o) : setI (A ++ y0 :: y1 :: y2 :: y3 :: B) o [x0, x1, x2, x3] = (A ++ [x0, x1, x2, x3]) ++ B := by
  subst h
  have e : ∀ (C : List Int) (z : Int) (D : List Int) (u : Int), (C ++ z :: D).set C.length u = (C ++ [u]) ++ D := by
    intro C z D u
    rw [List.set_append_right _ _ (Nat.le_refl _)]; simp
  simp only [setI]
  rw [e, show A.length + 1 = (A ++ [x0]).length by simp, e, show (A ++ [x0]).length + 1 = (A ++ [x0] ++ [x1]).length by simp, e, show (A ++ [x0] ++ [x1]).length + 1 = (A ++ [x0] ++ [x1] ++ [x2]).length by simp, e]
  simp
theorem out_set (s : S8) : (setL (setL (setL (setL (setL (setL (setL (setL (cs8 (List.replicate 32 0)) 0 (cs8 (put32 s.a))) 4 (cs8 (put32 s.b))) 8 (cs8 (put32 s.c))) 12 (cs8 (put32 s.d))) 16 (cs8 (put32 s.e))) 20 (cs8 (put32 s.f))) 24 (cs8 (put32 s.g))) 28 (cs8 (put32 s.h))) = cs8 (out32 s) := by
  simp only [setL_cs8]
  refine congrArg cs8 ?_
  unfold put32 out32
  rw [show List.replicate 32 (0 : Int) = [] ++ 0 :: 0 :: 0 :: 0 :: List.replicate 28 0 from rfl, set4 [] _ 0 _ _ _ _ _ _ _ _ rfl]
  rw [show List.replicate 28 (0 : Int) = 0 :: 0 :: 0 :: 0 :: List.replicate 24 0 from rfl, set4 _ _ 4 _ _ _ _ _ _ _ _ (by simp)]
  rw [show List.replicate 24 (0 : Int) = 0 :: 0 :: 0 :: 0 :: List.replicate 20 0 from rfl, set4 _ _ 8 _ _ _ _ _ _ _ _ (by simp)]
  rw [show List.replicate 20 (0 : Int) = 0 :: 0 :: 0 :: 0 :: List.replicate 16 0 from rfl, set4 _ _ 12 _ _ _ _ _ _ _ _ (by simp)]
  rw [show List.replicate 16 (0 : Int) = 0 :: 0 :: 0 :: 0 :: List.replicate 12 0 from rfl, set4 _ _ 16 _ _ _ _ _ _ _ _ (by simp)]
  rw [show List.replicate 12 (0 : Int) = 0 :: 0 :: 0 :: 0 :: List.replicate 8 0 from rfl, set4 _ _ 20 _ _ _ _ _ _ _ _ (by simp)]
  rw [show List.replicate 8 (0 : Int) = 0 :: 0 :: 0 :: 0 :: List.replicate 4 0 from rfl, set4 _ _ 24 _ _ _ _ _ _ _ _ (by simp)]
  rw [show List.replicate 4 (0 : Int) = 0 :: 0 :: 0 :: 0 :: List.replicate 0 0 from rfl, set4 _ _ 28 _ _ _ _ _ _ _ _ (by simp)]
  simp [put32]
theorem dcell_is {d : D32} (hx : d.x.length = 64) : d.cells[74]? = some (.bool false) := by
  have hxl : (cs8 d.x).length = 64 := by simp [cs8, hx]
  unfold D32.cells dig32
  rw [List.getElem?_append_right (by simp [cs32, words8]), List.getElem?_append_right (by simp [cs32, words8, hxl])]
  simp [cs32, words8, hxl]
/-- The sum that a digest stands for, n bytes written. -/
def done32 (K : List Int) (d : D32) (n : Nat) : List Int := out32 (write32 K d (pad32 n)).s

set_option maxRecDepth 100000 in
set_option maxHeartbeats 4000000 in
theorem check256 (K : List Int) (hK : K.length = 64) (g : Nat) (d : D32) (n : Nat) (w : World)
    (hx : d.x.length = 64) (hnx : d.nx = n % 64) (hlen : d.len = n) (hn : n ≤ 1099511627776) (hrow : Row w g 259 d.cells) (hkt : Row w 8 380 (cs32 K)) (hgk : 8 ≠ g) :
    Calls Tryz.prog 263 #[.pointer (some ⟨g, 0, none⟩)] w fun e w' => e = .returned (.agg (cs8 (done32 K d n)).toArray) ∧ Row w' g 259 (write32 K d (pad32 n)).cells ∧ But g w w' := by
  have hgl := hrow.lt
  have hkl := hkt.lt
  have b2 : w.cell? ⟨g, 73, none⟩ = some (.int .u64 n) := by rw [hrow.cell, dcell_len hx, hlen]
  have hm0 : (0 : Int) ≤ n := by omega
  have hm1 : (n : Int) ≤ 1099511627776 := by omega
  have Hx := Lib.hid hx
  have Hnx := Lib.hid hnx
  have Hlen := Lib.hid hlen
  have HR := Lib.hid hrow
  have HK := Lib.hid hkt
  clear hx hnx hlen hrow hkt
  go_enter Tryz.func263, Tryz.ntmps263
  go_upto_region 5 with (fail)
  obtain ⟨w1, hw1⟩ : ∃ w1 : World, w1 = (w.alloc (.cells #[.int .u8 0, .int .u8 0, .int .u8 0, .int .u8 0, .int .u8 0, .int .u8 0, .int .u8 0, .int .u8 0, .int .u8 0, .int .u8 0, .int .u8 0, .int .u8 0, .int .u8 0, .int .u8 0, .int .u8 0, .int .u8 0, .int .u8 0, .int .u8 0, .int .u8 0, .int .u8 0, .int .u8 0, .int .u8 0, .int .u8 0, .int .u8 0, .int .u8 0, .int .u8 0, .int .u8 0, .int .u8 0, .int .u8 0, .int .u8 0, .int .u8 0, .int .u8 0] 330)).alloc (.cells (Tryz.zeroCells376.setIfInBounds 0 (.int .u8 128)) 376) := ⟨_, rfl⟩
  rw [← hw1]
  have hbw : Below w.heap.size w w1 := by rw [hw1]; exact ((Below.refl _ _).alloc (Nat.le_refl _) _).alloc (by simp) _
  have hsz : w1.heap.size = w.heap.size + 2 := by rw [hw1]; simp
  have A1 : Row w1 w.heap.size 330 (cs8 (List.replicate 32 0)) := by
    rw [hw1]
    refine Row.below (B := w.heap.size + 1) ?_ ((Below.refl _ _).alloc (by simp) _) (by omega)
    exact Row.new w _ _ _ rfl
  have A2 : Row w1 (w.heap.size + 1) 376 (cs8 (128 :: List.replicate 71 0)) := by
    rw [hw1]
    have h := Row.new (w.alloc (.cells #[.int .u8 0, .int .u8 0, .int .u8 0, .int .u8 0, .int .u8 0, .int .u8 0, .int .u8 0, .int .u8 0, .int .u8 0, .int .u8 0, .int .u8 0, .int .u8 0, .int .u8 0, .int .u8 0, .int .u8 0, .int .u8 0, .int .u8 0, .int .u8 0, .int .u8 0, .int .u8 0, .int .u8 0, .int .u8 0, .int .u8 0, .int .u8 0, .int .u8 0, .int .u8 0, .int .u8 0, .int .u8 0, .int .u8 0, .int .u8 0, .int .u8 0, .int .u8 0] 330)) (Tryz.zeroCells376.setIfInBounds 0 (.int .u8 128)) 376 (w.heap.size + 1) (by simp)
    have e : (Tryz.zeroCells376.setIfInBounds 0 (.int .u8 128)).toList = cs8 (128 :: List.replicate 71 0) := by kernel_rfl
    rw [e] at h
    exact h
  have R1 := HR.out.below hbw hgl
  have K1 := HK.out.below hbw hkl
  clear hw1 b2
  have A1 := Lib.hid A1
  have A2 := Lib.hid A2
  have R1 := Lib.hid R1
  have K1 := Lib.hid K1
  have HBut := Lib.hid (But.of_below (g := g) hbw)
  have Hbw := Lib.hid hbw
  have Hsz := Lib.hid hsz
  have hs1 : w.heap.size + 1 < w1.heap.size := by omega
  clear hbw hsz
  generalize hB : w.heap.size = B at *
  have HB := Lib.hid hB
  clear hB
  obtain ⟨t, ht⟩ : ∃ t, padN n = t := ⟨_, rfl⟩
  have htl := padN_le n
  rw [ht] at htl
  obtain ⟨ht1, ht2⟩ := htl
  go_upto_if 15 with (fail)
  go_cut [5] (fun v5 wx => v5 = .int .u64 t ∧ wx = w1)
  case first =>
    by_cases h56 : n % 64 < 56
    · have h56' : (n : Int) % 64 < 56 := by omega
      have ht' : (56 : Int) - n % 64 = t := by rw [← ht]; unfold padN; rw [if_pos h56]; omega
      clear ht
      go_wp2_with fail
      go_meet
      exact ⟨rfl, rfl⟩
    · have h56' : ¬ (n : Int) % 64 < 56 := by omega
      have ht' : (120 : Int) - n % 64 = t := by rw [← ht]; unfold padN; rw [if_neg h56]; omega
      clear ht
      go_wp2_with fail
      go_meet
      exact ⟨rfl, rfl⟩
  case rest =>
    obtain ⟨rfl, rfl⟩ := hcut
    have Ht := Lib.hid ht
    clear ht
    have hsl1 := fun wx => run_arr_to (P := Tryz.prog) 376 5 72 Tryz.underlying376 (by kernel_rfl) (B + 1) 0 (t + 8) .u64 ((t : Int) + 8) (by omega) (by omega) wx
    have hsl2 := fun wx => run_sl_from (P := Tryz.prog) 22 5 Tryz.underlying22 (by kernel_rfl) (B + 1) 0 (t + 8) 72 t t 8 (72 - t) .u64 t rfl (by omega) (by omega) (by omega) (by omega) rfl wx
    have G1 := Lib.hid (bePut64 (B + 1) t 8 (72 - t) _ _ ((n : Int) * 8) wc A2.out (by omega) (by rw [length_cs8]; simp; omega))
    go_wp2_with fail
    refine G1.out.mono ?_
    rintro e w2 ⟨rfl, r2, o2⟩
    rw [setL_cs8] at r2
    have hpl := pad32_len n
    rw [Ht.out] at hpl
    have X2 : Bs w2 (.slice (some ⟨B + 1, 0, none⟩) (t + 8) 72) (pad32 n) := by
      have h := Bs.row r2 0 72 (pad32 n) (by rw [hpl]; omega) (fun i hi => by
        rw [Nat.zero_add, get_cs8 _ _ (by rw [setI_len]; simp; omega)]
        unfold pad32
        rw [Ht.out]
        simp only [List.getD_eq_getElem?_getD, List.getElem?_take]
        rw [if_pos (by omega)])
      rw [hpl] at h
      exact h
    have hgB : g ≠ B + 1 := by omega
    have W := Lib.hid (write256 K hK g d (.slice (some ⟨B + 1, 0, none⟩) (t + 8) 72) (pad32 n) w2 Hx.out (by rw [Hnx.out]; omega) (R1.out.only o2 hgB) (K1.out.only o2 (by omega)) hgk X2 (by intro a n c h _; cases h; show B + 1 ≠ g; omega) (by rw [hpl]; omega))
    have A3 := Lib.hid (A1.out.only o2 (by omega))
    have O2 := Lib.hid (HBut.out.only_new o2 (by rw [HB.out]; omega))
    have S2 : B + 1 < w2.heap.size := by rw [o2.size]; exact hs1
    have hq0 : (write32 K d (pad32 n)).nx = 0 := by
      rw [write32_nx K d _ (by rw [Hnx.out]; omega), hpl, Hnx.out, ← Ht.out]
      unfold padN; split <;> omega
    have hqx := write32_x K d (pad32 n) Hx.out (by rw [Hnx.out]; omega)
    obtain ⟨q, hq⟩ : ∃ q, write32 K d (pad32 n) = q := ⟨_, rfl⟩
    have Hq := Lib.hid hq
    rw [hq] at hq0 hqx
    have Hqx := Lib.hid hqx
    have Hq0 := Lib.hid hq0
    have Hpl := Lib.hid hpl
    clear X2 r2 o2 hq hqx hq0 hpl A1 A2 R1 K1 hsl1 hsl2
    go_wp2_with fail
    refine W.out.mono ?_
    rintro e w3 ⟨rfl, r3, o3⟩
    rw [Hq.out] at r3
    have c72 : w3.cell? ⟨g, 72, none⟩ = some (.int .i64 0) := by
      rw [r3.cell, dcell_nx Hqx.out, Hq0.out]; rfl
    have A4 := Lib.hid (A3.out.but o3 (by omega))
    have O3 := Lib.hid (O2.out.trans o3)
    have S3 : B + 1 < w3.heap.size := Nat.lt_of_lt_of_le S2 o3.size
    have R3 := Lib.hid r3
    clear r3 o3 A3 O2
    go_upto_region 15 with (fail)
    obtain ⟨w4, hw4⟩ : ∃ w4 : World, w4 = w3.alloc (.cells #[.int .u8 0, .int .u8 0, .int .u8 0, .int .u8 0, .int .u8 0, .int .u8 0, .int .u8 0, .int .u8 0, .int .u8 0, .int .u8 0, .int .u8 0, .int .u8 0, .int .u8 0, .int .u8 0, .int .u8 0, .int .u8 0, .int .u8 0, .int .u8 0, .int .u8 0, .int .u8 0, .int .u8 0, .int .u8 0, .int .u8 0, .int .u8 0, .int .u8 0, .int .u8 0, .int .u8 0, .int .u8 0, .int .u8 0, .int .u8 0, .int .u8 0, .int .u8 0] 330) := ⟨_, rfl⟩
    rw [← hw4]
    have D4 : Row w4 w3.heap.size 330 (cs8 (List.replicate 32 0)) := by rw [hw4]; exact Row.new w3 _ _ _ rfl
    have R4 := Lib.hid (show Row w4 g 259 q.cells by rw [hw4]; exact R3.out.allocd _)
    have A4 := Lib.hid (show Row w4 B 330 (cs8 (List.replicate 32 0)) by rw [hw4]; exact A4.out.allocd _)
    have O4 := Lib.hid (show But g w w4 by rw [hw4]; exact O3.out.alloc _)
    have D4 := Lib.hid D4
    have hBw : w.heap.size ≤ w3.heap.size := by rw [HB.out]; omega
    have hgD : g ≠ w3.heap.size := by omega
    have hBD : B ≠ w3.heap.size := by omega
    clear hw4 c72 R3 O3
    generalize w3.heap.size = D at *
    have c0 : w4.cell? ⟨g, 0, none⟩ = some (.int .u32 q.s.a) := by rw [R4.out.cell]; rfl
    have P0 := Lib.hid (bePut32 D 0 32 32 _ _ q.s.a w4.drew (row_drew D4.out) (by omega) (by simp [cs8]))
    have X0 : Hid (Row w4.drew g 259 q.cells) := Lib.hid (row_drew R4.out)
    have Y0 : Hid (Row w4.drew B 330 (cs8 (List.replicate 32 0))) := Lib.hid (row_drew A4.out)
    have Z0 := Lib.hid O4.out.drew
    clear R4 A4 O4 D4
    go_wp2_with fail
    go_still_tail 6, (by kernel_rfl)
    change wpList _ _ _ _ _ w4.drew
    generalize w4.drew = wd at *
    clear c0
    go_wp2_with fail
    refine P0.out.mono ?_
    rintro e w5 ⟨rfl, d5, o5⟩
    have D5 := Lib.hid d5
    have R5 := Lib.hid (X0.out.only o5 hgD)
    have A5 := Lib.hid (Y0.out.only o5 hBD)
    have O5 := Lib.hid (Z0.out.only_new o5 hBw)
    clear d5 o5 P0 X0 Y0 Z0
    have c1 : w5.cell? ⟨g, 1, none⟩ = some (.int .u32 q.s.b) := by rw [R5.out.cell]; rfl
    have P1 := Lib.hid (bePut32 D 4 28 28 _ _ q.s.b w5.drew (row_drew D5.out) (by omega) (by simp [setL_len, cs8]))
    have X1 : Hid (Row w5.drew g 259 q.cells) := Lib.hid (row_drew R5.out)
    have Y1 : Hid (Row w5.drew B 330 (cs8 (List.replicate 32 0))) := Lib.hid (row_drew A5.out)
    have Z1 := Lib.hid O5.out.drew
    clear R5 A5 O5 D5
    go_wp2_with fail
    go_still_tail 6, (by kernel_rfl)
    change wpList _ _ _ _ _ w5.drew
    generalize w5.drew = wd at *
    clear c1
    go_wp2_with fail
    refine P1.out.mono ?_
    rintro e w6 ⟨rfl, d6, o6⟩
    have D6 := Lib.hid d6
    have R6 := Lib.hid (X1.out.only o6 hgD)
    have A6 := Lib.hid (Y1.out.only o6 hBD)
    have O6 := Lib.hid (Z1.out.only_new o6 hBw)
    clear d6 o6 P1 X1 Y1 Z1
    have c2 : w6.cell? ⟨g, 2, none⟩ = some (.int .u32 q.s.c) := by rw [R6.out.cell]; rfl
    have P2 := Lib.hid (bePut32 D 8 24 24 _ _ q.s.c w6.drew (row_drew D6.out) (by omega) (by simp [setL_len, cs8]))
    have X2 : Hid (Row w6.drew g 259 q.cells) := Lib.hid (row_drew R6.out)
    have Y2 : Hid (Row w6.drew B 330 (cs8 (List.replicate 32 0))) := Lib.hid (row_drew A6.out)
    have Z2 := Lib.hid O6.out.drew
    clear R6 A6 O6 D6
    go_wp2_with fail
    go_still_tail 6, (by kernel_rfl)
    change wpList _ _ _ _ _ w6.drew
    generalize w6.drew = wd at *
    clear c2
    go_wp2_with fail
    refine P2.out.mono ?_
    rintro e w7 ⟨rfl, d7, o7⟩
    have D7 := Lib.hid d7
    have R7 := Lib.hid (X2.out.only o7 hgD)
    have A7 := Lib.hid (Y2.out.only o7 hBD)
    have O7 := Lib.hid (Z2.out.only_new o7 hBw)
    clear d7 o7 P2 X2 Y2 Z2
    have c3 : w7.cell? ⟨g, 3, none⟩ = some (.int .u32 q.s.d) := by rw [R7.out.cell]; rfl
    have P3 := Lib.hid (bePut32 D 12 20 20 _ _ q.s.d w7.drew (row_drew D7.out) (by omega) (by simp [setL_len, cs8]))
    have X3 : Hid (Row w7.drew g 259 q.cells) := Lib.hid (row_drew R7.out)
    have Y3 : Hid (Row w7.drew B 330 (cs8 (List.replicate 32 0))) := Lib.hid (row_drew A7.out)
    have Z3 := Lib.hid O7.out.drew
    clear R7 A7 O7 D7
    go_wp2_with fail
    go_still_tail 6, (by kernel_rfl)
    change wpList _ _ _ _ _ w7.drew
    generalize w7.drew = wd at *
    clear c3
    go_wp2_with fail
    refine P3.out.mono ?_
    rintro e w8 ⟨rfl, d8, o8⟩
    have D8 := Lib.hid d8
    have R8 := Lib.hid (X3.out.only o8 hgD)
    have A8 := Lib.hid (Y3.out.only o8 hBD)
    have O8 := Lib.hid (Z3.out.only_new o8 hBw)
    clear d8 o8 P3 X3 Y3 Z3
    have c4 : w8.cell? ⟨g, 4, none⟩ = some (.int .u32 q.s.e) := by rw [R8.out.cell]; rfl
    have P4 := Lib.hid (bePut32 D 16 16 16 _ _ q.s.e w8.drew (row_drew D8.out) (by omega) (by simp [setL_len, cs8]))
    have X4 : Hid (Row w8.drew g 259 q.cells) := Lib.hid (row_drew R8.out)
    have Y4 : Hid (Row w8.drew B 330 (cs8 (List.replicate 32 0))) := Lib.hid (row_drew A8.out)
    have Z4 := Lib.hid O8.out.drew
    clear R8 A8 O8 D8
    go_wp2_with fail
    go_still_tail 6, (by kernel_rfl)
    change wpList _ _ _ _ _ w8.drew
    generalize w8.drew = wd at *
    clear c4
    go_wp2_with fail
    refine P4.out.mono ?_
    rintro e w9 ⟨rfl, d9, o9⟩
    have D9 := Lib.hid d9
    have R9 := Lib.hid (X4.out.only o9 hgD)
    have A9 := Lib.hid (Y4.out.only o9 hBD)
    have O9 := Lib.hid (Z4.out.only_new o9 hBw)
    clear d9 o9 P4 X4 Y4 Z4
    have c5 : w9.cell? ⟨g, 5, none⟩ = some (.int .u32 q.s.f) := by rw [R9.out.cell]; rfl
    have P5 := Lib.hid (bePut32 D 20 12 12 _ _ q.s.f w9.drew (row_drew D9.out) (by omega) (by simp [setL_len, cs8]))
    have X5 : Hid (Row w9.drew g 259 q.cells) := Lib.hid (row_drew R9.out)
    have Y5 : Hid (Row w9.drew B 330 (cs8 (List.replicate 32 0))) := Lib.hid (row_drew A9.out)
    have Z5 := Lib.hid O9.out.drew
    clear R9 A9 O9 D9
    go_wp2_with fail
    go_still_tail 6, (by kernel_rfl)
    change wpList _ _ _ _ _ w9.drew
    generalize w9.drew = wd at *
    clear c5
    go_wp2_with fail
    refine P5.out.mono ?_
    rintro e w10 ⟨rfl, d10, o10⟩
    have D10 := Lib.hid d10
    have R10 := Lib.hid (X5.out.only o10 hgD)
    have A10 := Lib.hid (Y5.out.only o10 hBD)
    have O10 := Lib.hid (Z5.out.only_new o10 hBw)
    clear d10 o10 P5 X5 Y5 Z5
    have c6 : w10.cell? ⟨g, 6, none⟩ = some (.int .u32 q.s.g) := by rw [R10.out.cell]; rfl
    have P6 := Lib.hid (bePut32 D 24 8 8 _ _ q.s.g w10.drew (row_drew D10.out) (by omega) (by simp [setL_len, cs8]))
    have X6 : Hid (Row w10.drew g 259 q.cells) := Lib.hid (row_drew R10.out)
    have Y6 : Hid (Row w10.drew B 330 (cs8 (List.replicate 32 0))) := Lib.hid (row_drew A10.out)
    have Z6 := Lib.hid O10.out.drew
    clear R10 A10 O10 D10
    go_wp2_with fail
    go_still_tail 6, (by kernel_rfl)
    change wpList _ _ _ _ _ w10.drew
    generalize w10.drew = wd at *
    clear c6
    go_wp2_with fail
    refine P6.out.mono ?_
    rintro e w11 ⟨rfl, d11, o11⟩
    have D11 := Lib.hid d11
    have R11 := Lib.hid (X6.out.only o11 hgD)
    have A11 := Lib.hid (Y6.out.only o11 hBD)
    have O11 := Lib.hid (Z6.out.only_new o11 hBw)
    clear d11 o11 P6 X6 Y6 Z6
    have c7 : w11.cell? ⟨g, 7, none⟩ = some (.int .u32 q.s.h) := by rw [R11.out.cell]; rfl
    have P7 := Lib.hid (bePut32 D 28 4 4 _ _ q.s.h w11.drew (row_drew D11.out) (by omega) (by simp [setL_len, cs8]))
    have X7 : Hid (Row w11.drew g 259 q.cells) := Lib.hid (row_drew R11.out)
    have Y7 : Hid (Row w11.drew B 330 (cs8 (List.replicate 32 0))) := Lib.hid (row_drew A11.out)
    have Z7 := Lib.hid O11.out.drew
    clear R11 A11 O11 D11
    have c74 : w11.cell? ⟨g, 74, none⟩ = some (.bool false) := by
      rw [show w11.cell? ⟨g, 74, none⟩ = w11.drew.cell? ⟨g, 74, none⟩ from rfl, X7.out.cell]; exact dcell_is Hqx.out
    have dn : ∀ (b : Bool) (wx : World), (Op.unary .not (.bool b)).run Tryz.prog wx = .ok (.bool (!b)) wx := fun _ _ => rfl
    go_wp2_with fail
    go_still_tail 6, (by kernel_rfl)
    change wpList _ _ _ _ _ w11.drew
    generalize w11.drew = wd at *
    clear c7
    go_wp2_with fail
    refine P7.out.mono ?_
    rintro e w12 ⟨rfl, d12, o12⟩
    have D12 := Lib.hid d12
    have R12 := Lib.hid (X7.out.only o12 hgD)
    have A12 := Lib.hid (Y7.out.only o12 hBD)
    have O12 := Lib.hid (Z7.out.only_new o12 hBw)
    clear d12 o12 P7 X7 Y7 Z7
    have hout := out_set q.s
    have E12 : Hid (Row w12 D 330 (cs8 (out32 q.s))) := Lib.hid (by rw [← hout]; exact D12.out)
    have hl1 : ((cs8 (out32 q.s)).toArray).size = 32 := by simp [cs8, out32, put32]
    have hi : (Tryz.prog.info? 330).map (·.size) = some 32 := by kernel_rfl
    have hl1 : (Tryz.prog.info? 330).map (·.size) = some ((cs8 (out32 q.s)).toArray).size := by rw [hl1]; exact hi
    have hl2 : (cs8 (out32 q.s)).length = (cs8 (List.replicate 32 0)).length := by simp [cs8, out32, put32]
    have hl3 : (Tryz.prog.info? 330).map (·.size) = some (cs8 (out32 q.s)).length := by rw [hi]; simp [cs8, out32, put32]
    obtain ⟨X, hX⟩ : ∃ X, cs8 (out32 q.s) = X := ⟨_, rfl⟩
    have h1 : ∀ v ∈ X, v.oneCell' = true := by rw [← hX]; exact one_cs8 _
    rw [hX] at E12 hl1 hl2 hl3
    have hl1 := Lib.hid hl1
    have hl2 := Lib.hid hl2
    have hl3 := Lib.hid hl3
    have h1 := Lib.hid h1
    have HX := Lib.hid hX
    clear hout D12 hi hX
    go_wp2_with (first | (refine wpList_load_row rfl 330 (.tmp 7) rfl D rfl 330 X.toArray (0, 0) _ E12.out Tryz.underlying330 rfl hl1.out ?_) | (refine wpl_store_row rfl 330 (.tmp 2) (.tmp 103) rfl X rfl B rfl 330 _ A12.out hl2.out hl3.out h1.out ?_; intro w13 r13 o13))
    have hd : done32 K d n = out32 q.s := by rw [← Hq.out]; rfl
    rw [← HX.out] at r13 hl1
    refine bodyPost_ret (v := .agg (cs8 (out32 q.s)).toArray) (results_cell_row rfl _ _ B 330 _ (0, 0) _ rfl r13 Tryz.underlying330 rfl hl1.out) rfl ⟨by rw [hd], ?_, O12.out.only_new o13 (by rw [HB.out]; exact Nat.le_refl _)⟩
    rw [Hq.out]
    exact R12.out.only o13 (by omega)
end Go.Proofs.YtaemdppihpefnaaGreatDoor

/- (*sha256.Digest).Sum, whatever the table holds. -/
namespace Go.Proofs.YtaemdppihpefnaaGreatDoor
open Go.RowKit
set_option linter.unusedVariables false

theorem cells_len {d : D32} (hx : d.x.length = 64) : d.cells.length = 75 := by
  simp [D32.cells, dig32, cs32, cs8, words8, hx]
theorem cells_one (d : D32) : ∀ v ∈ d.cells, v.oneCell' = true := by
  intro v hv
  simp only [D32.cells, dig32, cs32, cs8, words8, List.mem_append, List.mem_map, List.mem_cons, List.not_mem_nil, or_false] at hv
  rcases hv with ⟨_, _, rfl⟩ | ⟨_, _, rfl⟩ | rfl | rfl | rfl <;> rfl
theorem done32_len (K : List Int) (d : D32) (n : Nat) : (done32 K d n).length = 32 := by simp [done32, out32, put32]

set_option maxRecDepth 100000 in
set_option maxHeartbeats 4000000 in
theorem sum256 (K : List Int) (hK : K.length = 64) (g : Nat) (d : D32) (n : Nat) (w : World)
    (hx : d.x.length = 64) (hnx : d.nx = n % 64) (hlen : d.len = n) (hn : n ≤ 1099511627776) (hrow : Row w g 259 d.cells) (hkt : Row w 8 380 (cs32 K))
    (base : Nat) (v : Value) (hown : w.ownsRow base 5 1 v 0 []) (hbase : base ≤ w.heap.size) :
    Calls Tryz.prog 260 #[.pointer (some ⟨g, 0, none⟩), v] w fun e w' => ∃ v', e = .returned v' ∧ w'.ownsRow base 5 1 v' 32 (cs8 (done32 K d n)) ∧ w.grownBy w' v.ownBlock := by
  have hgl := hrow.lt
  have hkl := hkt.lt
  have hz1 : Tryz.zeroCells259.toList.length = 75 := by kernel_rfl
  have hi1 : (Tryz.prog.info? 259).map (·.size) = some 75 := by kernel_rfl
  have hi2 : (Tryz.prog.info? 330).map (·.size) = some 32 := by kernel_rfl
  have Z1 := Lib.hid (Row.new w Tryz.zeroCells259 259 _ rfl)
  have hs1 : (Tryz.prog.info? 259).map (·.size) = some d.cells.toArray.size := by rw [hi1]; simp [cells_len hx]
  have hs2 : d.cells.length = Tryz.zeroCells259.toList.length := by rw [hz1, cells_len hx]
  have hs3 : (Tryz.prog.info? 259).map (·.size) = some d.cells.length := by rw [hi1, cells_len hx]
  have G : Hid (∀ w1, Row w1 w.heap.size 259 d.cells → Only w.heap.size (w.alloc (.cells Tryz.zeroCells259 259)) w1 →
      Calls Tryz.prog 263 #[.pointer (some ⟨w.heap.size, 0, none⟩)] w1 fun e w2 => e = .returned (.agg (cs8 (done32 K d n)).toArray) ∧ Hid (Below w.heap.size w w2) ∧ w2.cell? ⟨w.heap.size, 74, none⟩ = some (.bool false) ∧ Hid (w.heap.size < w2.heap.size)) := by
    refine Lib.hid fun w1 r1 o1 => ?_
    have hb1 : Below w.heap.size w w1 := ((Below.refl _ _).alloc (Nat.le_refl _) _).trans (o1.below (Nat.le_refl _))
    have k1 := hkt.below hb1 hkl
    refine (check256 K hK w.heap.size d n w1 hx hnx hlen hn r1 k1 (by omega)).mono ?_
    intro e w2 ⟨he, r2, b2⟩
    have hl2 := r2.lt
    exact ⟨he, Lib.hid (hb1.trans (b2.below (Nat.le_refl _) (by have := r1.lt; omega))), by rw [r2.cell]; exact dcell_is (write32_x K d _ hx (by omega)), Lib.hid hl2⟩
  have hdl := done32_len K d n
  obtain ⟨X, hX⟩ : ∃ X, cs8 (done32 K d n) = X := ⟨_, rfl⟩
  have hXl : X.length = 32 := by rw [← hX, length_cs8, hdl]
  have hX1 : ∀ v ∈ X, v.oneCell' = true := by rw [← hX]; exact one_cs8 _
  rw [hX] at G
  rw [hX]
  have hs4 : (Tryz.prog.info? 330).map (·.size) = some X.length := by rw [hi2, hXl]
  have HR := Lib.hid hrow
  have hs1 := Lib.hid hs1
  have hs2 := Lib.hid hs2
  have hs3 := Lib.hid hs3
  have hs4 := Lib.hid hs4
  have HX1 := Lib.hid hX1
  have HXl := Lib.hid hXl
  have Hown := Lib.hid hown
  have Hdc := Lib.hid (cells_one d)
  clear hrow hkt hx hnx hlen hz1 hi1 hi2 hdl hX hXl hX1 hown
  obtain ⟨i0, hi, hz0, hz1, hz2⟩ := info_parts (P := Tryz.prog) (e := 5) (z := .int .u8 0) (size := 1) (bytes := 1) (by kernel_rfl)
  have Hi := Lib.hid hi
  have Hz0 := Lib.hid hz0
  have Hz1 := Lib.hid hz1
  have Hz2 := Lib.hid hz2
  clear hi hz0 hz1 hz2
  have Z2 : Hid (∀ wx : World, Row (wx.alloc (.cells #[.int .u8 0, .int .u8 0, .int .u8 0, .int .u8 0, .int .u8 0, .int .u8 0, .int .u8 0, .int .u8 0, .int .u8 0, .int .u8 0, .int .u8 0, .int .u8 0, .int .u8 0, .int .u8 0, .int .u8 0, .int .u8 0, .int .u8 0, .int .u8 0, .int .u8 0, .int .u8 0, .int .u8 0, .int .u8 0, .int .u8 0, .int .u8 0, .int .u8 0, .int .u8 0, .int .u8 0, .int .u8 0, .int .u8 0, .int .u8 0, .int .u8 0, .int .u8 0] 330)) wx.heap.size 330 (cs8 (List.replicate 32 0))) := Lib.hid fun wx => Row.new wx _ _ _ rfl
  have hs5 : Hid (X.length = (cs8 (List.replicate 32 0)).length) := Lib.hid (by rw [HXl.out]; simp [cs8])
  have G3 : Hid (∀ w2 w3, Below w.heap.size w w2 → w.heap.size < w2.heap.size → w2.cell? ⟨w.heap.size, 74, none⟩ = some (.bool false) → Row w3 w2.heap.size 330 X → Only w2.heap.size (w2.alloc (.cells #[.int .u8 0, .int .u8 0, .int .u8 0, .int .u8 0, .int .u8 0, .int .u8 0, .int .u8 0, .int .u8 0, .int .u8 0, .int .u8 0, .int .u8 0, .int .u8 0, .int .u8 0, .int .u8 0, .int .u8 0, .int .u8 0, .int .u8 0, .int .u8 0, .int .u8 0, .int .u8 0, .int .u8 0, .int .u8 0, .int .u8 0, .int .u8 0, .int .u8 0, .int .u8 0, .int .u8 0, .int .u8 0, .int .u8 0, .int .u8 0, .int .u8 0, .int .u8 0] 330)) w3 →
      w3.cell? ⟨w.heap.size, 74, none⟩ = some (.bool false) ∧ Hid (w3.ownsRow base 5 1 v 0 []) ∧ Hid (∀ (j : Nat) (u : Value), X[j]? = some u → w3.cell? ((⟨w2.heap.size, 0, none⟩ : Addr).add j) = some u) ∧ Hid (base ≤ w3.heap.size) ∧ Hid (Below w.heap.size w w3)) := by
    refine Lib.hid fun w2 w3 b2 l2 c2 r3 o3 => ?_
    have hb : Below w2.heap.size w2 w3 := ((Below.refl _ _).alloc (Nat.le_refl _) _).trans (o3.below (Nat.le_refl _))
    have hb3 : Below w.heap.size w w3 := b2.trans (hb.mono b2.size)
    refine ⟨?_, ?_, ?_, ?_, Lib.hid hb3⟩
    · rw [hb.cell (p := ⟨w.heap.size, 74, none⟩) l2]; exact c2
    · refine Lib.hid (Hown.out.kept (grown_of_below hb3 none) ?_)
      cases h : v.ownBlock with
      | none => exact Or.inl rfl
      | some k => exact Or.inr (by simp)
    · exact Lib.hid (r3.cells_at 0 X (fun j u hj => by rw [Nat.zero_add]; exact hj))
    · exact Lib.hid (Nat.le_trans hbase hb3.size)
  go_enter Tryz.func260, Tryz.ntmps260
  go_wp2_with (first | (refine wpList_load_row rfl 259 (.tmp 8) rfl g rfl 259 d.cells.toArray (0, 0) _ HR.out Tryz.underlying259 rfl hs1.out ?_) | (refine wpl_store_row rfl 259 (.tmp 5) (.tmp 9) rfl d.cells rfl w.heap.size rfl 259 _ Z1.out hs2.out hs3.out Hdc.out ?_; intro w1 r1 o1; have G1 := Lib.hid (G.out w1 r1 o1); clear r1 o1) | (go_at_call 263; refine G1.out.mono ?_; rintro e w2 ⟨rfl, b2, c2, l2⟩) | (refine wpl_store_row rfl 330 (.tmp 6) (.tmp 10) rfl X rfl w2.heap.size rfl 330 _ (Z2.out w2) hs5.out hs4.out HX1.out ?_; intro w3 r3 o3; obtain ⟨c3, own3, new3, base3, b3⟩ := G3.out w2 w3 b2.out l2.out c2 r3 o3; clear r3 o3 c2) | (refine wpList_append_own _ rfl (.tmp 16) (.tmp 17) 22 rfl base 5 i0 (.int .u8 0) 1 1 Tryz.underlying22 Hi.out Hz0.out Hz1.out Hz2.out rfl (by decide) v 0 [] rfl own3.out ⟨w2.heap.size, 0, none⟩ 32 32 X rfl HXl.out new3.out HX1.out (by decide) (by decide) base3.out ?_; intro v4 w4 own4 g4 _; have own4 := Lib.hid own4; have g4 := Lib.hid g4))
  go_ret
  refine ⟨v4, rfl, ?_, grown_trans (grown_of_below b3.out _) g4.out⟩
  have := own4.out
  rwa [Nat.zero_add, List.nil_append] at this
end Go.Proofs.YtaemdppihpefnaaGreatDoor

/- SHA-256 as a hash behind an interface. -/
namespace Go.Proofs.YtaemdppihpefnaaGreatDoor
open Go.RowKit
set_option linter.unusedVariables false

theorem new256i (w : World) :
    Calls Tryz.prog 87 #[] w fun e w' => e = .returned (.iface 208 (.pointer (some ⟨w.heap.size, 0, none⟩))) ∧ Row w' w.heap.size 259 (dig32 init32 (List.replicate 64 0) 0 0) ∧ Below w.heap.size w w' ∧ w'.heap.size = w.heap.size + 1 := by
  have G := Lib.hid (new256 w)
  go_enter Tryz.func87, Tryz.ntmps87
  go_wp2_with (go_at_call 88; refine G.out.mono ?_; rintro e w1 ⟨rfl, r, b, s⟩; have r := Lib.hid r; have b := Lib.hid b; have s := Lib.hid s)
  go_ret
  exact ⟨rfl, r.out, b.out, s.out⟩

theorem put32_byt (v : Int) : Byt (put32 v) := by
  intro x hx
  simp only [put32, List.mem_cons, List.not_mem_nil, or_false] at hx
  rcases hx with rfl | rfl | rfl | rfl <;> omega
theorem byt_append {a b : List Int} (h : Byt a) (k : Byt b) : Byt (a ++ b) := by
  intro x hx
  rcases List.mem_append.1 hx with h1 | h1
  · exact h x h1
  · exact k x h1
theorem done32_byt (K : List Int) (d : D32) (n : Nat) : Byt (done32 K d n) := by
  unfold done32 out32
  exact byt_append (byt_append (byt_append (byt_append (byt_append (byt_append (byt_append (put32_byt _) (put32_byt _)) (put32_byt _)) (put32_byt _)) (put32_byt _)) (put32_byt _)) (put32_byt _)) (put32_byt _)

def ok256 (s : D32 × Nat) : Prop := s.1.x.length = 64 ∧ s.1.nx = s.2 % 64 ∧ s.1.len = s.2
theorem enter_of {P : Program} {f : FuncId} {fn : Func} {c : Code} (hf : P.funcs[f]? = some fn) (hname : (fn.name == "runtime.NumGoroutine") = false) (hb : fn.body = some c) (args : Array Value) (w : World) : (callFunc f args).run P w = .ok (.enter f args) w := by
  have h1 : fn.name ≠ "runtime.NumGoroutine" := by simpa using hname
  simp [callFunc, hf, h1, hb]
/-- Two pointers of one type behind an interface, into two rows: they are not one. -/
theorem run_eql_two {P : Program} {t T elem : TypeId} {ms : Array (String × TypeId)} {i j : TypeInfo} (ht : ∃ ms, P.underlying t = some (.interface ms)) (hi : P.info? T = some i) (hc : i.comparable = true) (hT : P.underlying T = some (.pointer elem)) (hj : P.info? elem = some j) (hsz : j.size ≠ 0)
    (g1 g2 : Nat) (c1 c2 : List Value) (t1 t2 : TypeId) (w : World) (hne : g1 ≠ g2) (h1 : Row w g1 t1 c1) (h2 : Row w g2 t2 c2) :
    (binOp .eql t (.iface T (.pointer (some ⟨g1, 0, none⟩))) (.iface T (.pointer (some ⟨g2, 0, none⟩)))).run P w = .ok (.bool false) w := by
  obtain ⟨ms, ht⟩ := ht
  have e1 : ∀ d : Nat, (Op.equalIn (d + 1) T (.pointer (some ⟨g1, 0, none⟩)) (.pointer (some ⟨g2, 0, none⟩))).run P w = .ok false w := fun d => by
    simp [Op.equalIn, run_underlying hT, sizeOf, typeInfo, hj, hsz, run_sameAddr_other (P := P) w (a := ⟨g1, 0, none⟩) (b := ⟨g2, 0, none⟩) (by intro h; injection h with h; exact hne h) h1 h2]
  have e2 : ∀ d : Nat, (Op.equalIn (d + 1 + 1) t (.iface T (.pointer (some ⟨g1, 0, none⟩))) (.iface T (.pointer (some ⟨g2, 0, none⟩)))).run P w = .ok false w := fun d => by
    rw [Op.equalIn]
    simp [run_underlying ht, typeInfo, hi, hc, e1]
  simp only [binOp]
  simp [Op.equal, Op.maxDepth, e2 9998]

theorem cmp256 (g1 g2 : Nat) (c1 c2 : List Value) (w : World) (hne : g1 ≠ g2) (h1 : Row w g1 259 c1) (h2 : Row w g2 259 c2) : (binOp .eql 207 (.iface 208 (.pointer (some ⟨g1, 0, none⟩))) (.iface 208 (.pointer (some ⟨g2, 0, none⟩)))).run Tryz.prog w = .ok (.bool false) w := by
  obtain ⟨i, hi, hc⟩ := Option.map_eq_some_iff.1 (show (Tryz.prog.info? 208).map (·.comparable) = some true by kernel_rfl)
  obtain ⟨j, hj, hz⟩ := Option.map_eq_some_iff.1 (show (Tryz.prog.info? 259).map (·.size) = some 75 by kernel_rfl)
  exact run_eql_two (ms := #[]) ⟨_, Tryz.underlying207⟩ hi hc Tryz.underlying208 hj (by rw [hz]; decide) g1 g2 c1 c2 _ _ w hne h1 h2
theorem mBlock256 (a : Addr) (w : World) : (method 508 208 (.pointer (some a)) "BlockSize").run Tryz.prog w = .ok (258, .pointer (some a)) w := by kernel_rfl
theorem eBlock256 (args : Array Value) (w : World) : (callFunc 258 args).run Tryz.prog w = .ok (.enter 258 args) w :=
  enter_of Tryz.func258 (by kernel_rfl) rfl args w
theorem mWrite256 (a : Addr) (w : World) : (method 508 208 (.pointer (some a)) "Write").run Tryz.prog w = .ok (262, .pointer (some a)) w := by kernel_rfl
theorem eWrite256 (args : Array Value) (w : World) : (callFunc 262 args).run Tryz.prog w = .ok (.enter 262 args) w :=
  enter_of Tryz.func262 (by kernel_rfl) rfl args w
theorem mSum256 (a : Addr) (w : World) : (method 508 208 (.pointer (some a)) "Sum").run Tryz.prog w = .ok (260, .pointer (some a)) w := by kernel_rfl
theorem eSum256 (args : Array Value) (w : World) : (callFunc 260 args).run Tryz.prog w = .ok (.enter 260 args) w :=
  enter_of Tryz.func260 (by kernel_rfl) rfl args w
theorem mReset256 (a : Addr) (w : World) : (method 508 208 (.pointer (some a)) "Reset").run Tryz.prog w = .ok (121, .pointer (some a)) w := by kernel_rfl
theorem eReset256 (args : Array Value) (w : World) : (callFunc 121 args).run Tryz.prog w = .ok (.enter 121 args) w :=
  enter_of Tryz.func121 (by kernel_rfl) rfl args w
theorem eNew256 (args : Array Value) (w : World) : (callFunc 87 args).run Tryz.prog w = .ok (.enter 87 args) w :=
  enter_of Tryz.func87 (by kernel_rfl) rfl args w
theorem naW256 (a : Addr) (w : World) : (nilAhead 508 208 (.pointer (some a)) "Write").run Tryz.prog w = .ok (some false) w := by kernel_rfl
theorem naS256 (a : Addr) (w : World) : (nilAhead 508 208 (.pointer (some a)) "Sum").run Tryz.prog w = .ok (some false) w := by kernel_rfl

/-- SHA-256, whatever its table holds. -/
def hk256 (K : List Int) (hK : K.length = 64) : HK where
  T := 208
  cT := 259
  St := D32 × Nat
  cells s := s.1.cells
  n s := s.2
  ok := ok256
  init := (⟨init32, List.replicate 64 0, 0, 0⟩, 0)
  write s p := (write32 K s.1 p, s.2 + p.length)
  reset s := (⟨init32, s.1.x, 0, 0⟩, 0)
  sum s := done32 K s.1 s.2
  block := 64
  size := 32
  kg := 8
  kT := 380
  kC := cs32 K
  fNew := 87
  fWrite := 262
  fSum := 260
  fBlock := 258
  fReset := 121
  block_pos := by decide
  block_le := by decide
  size_pos := by decide
  size_le := by decide
  size_block := by decide
  init_ok := ⟨rfl, rfl, rfl⟩
  init_n := rfl
  write_ok := fun s p ⟨h1, h2, h3⟩ hp hn => by
    refine ⟨⟨write32_x K s.1 p h1 (by omega), ?_, ?_⟩, rfl⟩
    · show (write32 K s.1 p).nx = (s.2 + p.length) % 64
      rw [write32_nx K s.1 p (by omega), h2]; omega
    · show (write32 K s.1 p).len = ((s.2 + p.length : Nat) : Int)
      rw [write32_len, h3, IntKind.wrap_u64]
      have hn : s.2 + p.length ≤ 1099511627776 := hn
      omega
  reset_ok := fun s ⟨h1, _, _⟩ => ⟨⟨h1, rfl, rfl⟩, rfl⟩
  sum_len := fun s => done32_len K s.1 s.2
  sum_byt := fun s => done32_byt K s.1 s.2
  mBlock := mBlock256
  mWrite := mWrite256
  mSum := mSum256
  mReset := mReset256
  nilAheadW := naW256
  nilAheadS := naS256
  cmp := cmp256
  eNew := eNew256
  eWrite := eWrite256
  eSum := eSum256
  eBlock := eBlock256
  eReset := eReset256
  cnew := new256i
  cwrite := fun g s v p w ⟨h1, h2, h3⟩ hr hk hg hb ho hp hn => write256 K hK g s.1 v p w h1 (by omega) hr hk hg hb ho hp
  csum := fun g s w base v ⟨h1, h2, h3⟩ hn hr hk ho hb => sum256 K hK g s.1 s.2 w h1 h2 h3 hn hr hk base v ho hb
  cblock := blockSize256
  creset := fun g s w ⟨h1, h2, h3⟩ hr => reset256 g s.1.s s.1.x s.1.nx s.1.len w h1 hr
end Go.Proofs.YtaemdppihpefnaaGreatDoor
