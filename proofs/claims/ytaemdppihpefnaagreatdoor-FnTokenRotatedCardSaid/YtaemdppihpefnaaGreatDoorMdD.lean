/- (*sha512.Digest).checkSum, whatever the table holds: of New and of New384. -/
import Derived.Test.YtaemdppihpefnaaGreatDoorMdC
import Derived.Test.YtaemdppihpefnaaGreatDoorMdB
import Derived.Laws.OwnMore
namespace Go.Proofs.YtaemdppihpefnaaGreatDoor
open Go.RowKit
set_option linter.unusedVariables false

/-- How many bytes of the padding stand ahead of the length. -/
def padM (n : Nat) : Nat := if n % 128 < 112 then 112 - n % 128 else 240 - n % 128
/-- The padding behind n bytes. -/
def pad64 (n : Nat) : List Int := (setI (128 :: List.replicate 143 0) (padM n + 8) (put64 (n * 8) 8)).take (padM n + 16)
theorem padM_le (n : Nat) : 1 ≤ padM n ∧ padM n ≤ 128 := by unfold padM; split <;> omega
theorem pad64_len (n : Nat) : (pad64 n).length = padM n + 16 := by
  have := padM_le n
  unfold pad64
  rw [List.length_take, setI_len]
  simp; omega

/-- What a writing does to the number of waiting bytes and to the length. -/
theorem fill64_nx (K : List Int) (d : D64) (p : List Int) (h : d.nx < 128) : (fill64 K d p).1.nx < 128 ∧ ((fill64 K d p).1.nx + (fill64 K d p).2.length) % 128 = (d.nx + p.length) % 128 ∧ ((fill64 K d p).2.length = 0 ∨ (fill64 K d p).1.nx = 0) := by
  have hf := fillM_le d.nx p.length
  unfold fill64
  split
  · exact ⟨by show d.nx < 128; omega, rfl, Or.inr (by assumption)⟩
  · split
    · refine ⟨by show 0 < 128; omega, ?_, Or.inr rfl⟩
      show (0 + (p.drop _).length) % 128 = _
      rw [List.length_drop]; omega
    · refine ⟨by show d.nx + _ < 128; unfold fillM at *; omega, ?_, Or.inl ?_⟩
      · show (d.nx + fillM d.nx p.length + (p.drop _).length) % 128 = _
        rw [List.length_drop]; unfold fillM at *; omega
      · show (p.drop _).length = 0
        rw [List.length_drop]; unfold fillM at *; omega
theorem whole64_nx (K : List Int) (d : D64) (p : List Int) : (whole64 K d p).1.nx = d.nx ∧ (whole64 K d p).2.length % 128 = p.length % 128 ∧ (p.length = 0 → (whole64 K d p).2.length = 0) := by
  unfold whole64
  split
  · refine ⟨rfl, ?_, ?_⟩
    · show (p.drop _).length % 128 = _
      rw [List.length_drop]; omega
    · intro h; omega
  · exact ⟨rfl, rfl, fun h => h⟩
theorem write64_nx (K : List Int) (d : D64) (p : List Int) (h : d.nx < 128) : (write64 K d p).nx = (d.nx + p.length) % 128 := by
  obtain ⟨a1, a2, a3⟩ := fill64_nx K (longer64 d p.length) p h
  obtain ⟨b1, b2, b3⟩ := whole64_nx K (fill64 K (longer64 d p.length) p).1 (fill64 K (longer64 d p.length) p).2
  have b4 := whole64_lt K (fill64 K (longer64 d p.length) p).1 (fill64 K (longer64 d p.length) p).2
  have a2 : _ = (d.nx + p.length) % 128 := a2
  unfold write64 rest64
  split
  · show List.length _ = _
    rename_i hpos
    have : (fill64 K (longer64 d p.length) p).2.length ≠ 0 := fun hh => by have := b3 hh; omega
    rcases a3 with a3 | a3
    · omega
    · omega
  · rename_i hpos
    show (whole64 K _ _).1.nx = _
    rw [b1]
    rcases a3 with a3 | a3 <;> omega
theorem write64_len (K : List Int) (d : D64) (p : List Int) : (write64 K d p).len = IntKind.u64.wrap (d.len + p.length) := by
  have a : ∀ d p, (rest64 d p).len = d.len := by intro d p; unfold rest64; split <;> rfl
  have b : ∀ d p, (whole64 K d p).1.len = d.len := by intro d p; unfold whole64; split <;> rfl
  have c : ∀ d p, (fill64 K d p).1.len = d.len := by intro d p; unfold fill64; split <;> first | rfl | (split <;> rfl)
  unfold write64
  rw [a, b, c]; rfl
theorem write64_x (K : List Int) (d : D64) (p : List Int) (hx : d.x.length = 128) (h : d.nx < 128) : (write64 K d p).x.length = 128 := by
  have hf := fillM_le d.nx p.length
  have f : (fill64 K (longer64 d p.length) p).1.x.length = 128 := by
    unfold fill64
    split
    · exact hx
    · split
      all_goals (show (splice d.x d.nx (p.take (fillM d.nx p.length))).length = 128; rw [length_splice _ _ _ (by rw [List.length_take]; omega)]; exact hx)
  have g : (whole64 K (fill64 K (longer64 d p.length) p).1 (fill64 K (longer64 d p.length) p).2).1.x.length = 128 := by
    unfold whole64
    split
    · exact f
    · exact f
  have l := whole64_lt K (fill64 K (longer64 d p.length) p).1 (fill64 K (longer64 d p.length) p).2
  unfold write64 rest64
  split
  · show (splice _ 0 _).length = 128
    rw [length_splice _ _ _ (by omega)]; exact g
  · exact g

theorem write64_sz (K : List Int) (d : D64) (p : List Int) : (write64 K d p).sz = d.sz := by
  have a : ∀ d p, (rest64 d p).sz = d.sz := by intro d p; unfold rest64; split <;> rfl
  have b : ∀ d p, (whole64 K d p).1.sz = d.sz := by intro d p; unfold whole64; split <;> rfl
  have c : ∀ d p, (fill64 K d p).1.sz = d.sz := by intro d p; unfold fill64; split <;> first | rfl | (split <;> rfl)
  unfold write64
  rw [a, b, c]; rfl
theorem ecell_sz {d : D64} (hx : d.x.length = 128) : d.cells[138]? = some (.int .i64 d.sz) := by
  have hxl : (cs8 d.x).length = 128 := by simp [cs8, hx]
  unfold D64.cells dig64
  rw [List.getElem?_append_right (by simp [cs64, words8]), List.getElem?_append_right (by simp [cs64, words8, hxl])]
  simp [cs64, words8, hxl]

/-- The bytes of six words, of eight words. -/
def dig6 (s : S8) : List Int := setI (setI (setI (setI (setI (setI (List.replicate 64 0) 0 (put64 s.a 8)) 8 (put64 s.b 8)) 16 (put64 s.c 8)) 24 (put64 s.d 8)) 32 (put64 s.e 8)) 40 (put64 s.f 8)
def dig8 (s : S8) : List Int := setI (setI (dig6 s) 48 (put64 s.g 8)) 56 (put64 s.h 8)
theorem dig6_len (s : S8) : (dig6 s).length = 64 := by unfold dig6; simp only [setI_len, List.length_replicate]
theorem dig8_len (s : S8) : (dig8 s).length = 64 := by unfold dig8; simp only [setI_len, dig6_len]
theorem dig6_set (s : S8) : setL (setL (setL (setL (setL (setL (cs8 (List.replicate 64 0)) 0 (cs8 (put64 s.a 8))) 8 (cs8 (put64 s.b 8))) 16 (cs8 (put64 s.c 8))) 24 (cs8 (put64 s.d 8))) 32 (cs8 (put64 s.e 8))) 40 (cs8 (put64 s.f 8)) = cs8 (dig6 s) := by
  simp only [setL_cs8, dig6]
theorem dig8_set (s : S8) : setL (setL (setL (setL (setL (setL (setL (setL (cs8 (List.replicate 64 0)) 0 (cs8 (put64 s.a 8))) 8 (cs8 (put64 s.b 8))) 16 (cs8 (put64 s.c 8))) 24 (cs8 (put64 s.d 8))) 32 (cs8 (put64 s.e 8))) 40 (cs8 (put64 s.f 8))) 48 (cs8 (put64 s.g 8))) 56 (cs8 (put64 s.h 8)) = cs8 (dig8 s) := by
  rw [dig6_set]; simp only [setL_cs8, dig8]
/-- The whole array that a digest stands for, n bytes written. -/
def done64 (K : List Int) (d : D64) (n : Nat) : List Int := dig8 (write64 K d (pad64 n)).s
def done48 (K : List Int) (d : D64) (n : Nat) : List Int := dig6 (write64 K d (pad64 n)).s

set_option maxRecDepth 100000 in
set_option maxHeartbeats 2000000 in
theorem check512 (K : List Int) (hK : K.length = 80) (g : Nat) (d : D64) (n : Nat) (w : World)
    (hx : d.x.length = 128) (hdz : d.sz = 64) (hnx : d.nx = n % 128) (hlen : d.len = n) (hn : n ≤ 1099511627776) (hrow : Row w g 263 d.cells) (hkt : Row w 9 385 (cs64 K)) (hgk : 9 ≠ g) :
    Calls Tryz.prog 278 #[.pointer (some ⟨g, 0, none⟩)] w fun e w' => e = .returned (.agg (cs8 (done64 K d n)).toArray) ∧ Row w' g 263 (write64 K d (pad64 n)).cells ∧ But g w w' := by
  have hgl := hrow.lt
  have hkl := hkt.lt
  have b2 : w.cell? ⟨g, 137, none⟩ = some (.int .u64 n) := by rw [hrow.cell, ecell_len hx, hlen]
  have hm0 : (0 : Int) ≤ n := by omega
  have hm1 : (n : Int) ≤ 1099511627776 := by omega
  have Hx := Lib.hid hx
  have Hdz := Lib.hid hdz
  clear hdz
  have Hnx := Lib.hid hnx
  have Hlen := Lib.hid hlen
  have HR := Lib.hid hrow
  have HK := Lib.hid hkt
  clear hx hnx hlen hrow hkt
  go_enter Tryz.func278, Tryz.ntmps278
  go_upto_region 5 with (fail)
  obtain ⟨w1, hw1⟩ : ∃ w1 : World, w1 = (w.alloc (.cells #[.int .u8 0, .int .u8 0, .int .u8 0, .int .u8 0, .int .u8 0, .int .u8 0, .int .u8 0, .int .u8 0, .int .u8 0, .int .u8 0, .int .u8 0, .int .u8 0, .int .u8 0, .int .u8 0, .int .u8 0, .int .u8 0, .int .u8 0, .int .u8 0, .int .u8 0, .int .u8 0, .int .u8 0, .int .u8 0, .int .u8 0, .int .u8 0, .int .u8 0, .int .u8 0, .int .u8 0, .int .u8 0, .int .u8 0, .int .u8 0, .int .u8 0, .int .u8 0, .int .u8 0, .int .u8 0, .int .u8 0, .int .u8 0, .int .u8 0, .int .u8 0, .int .u8 0, .int .u8 0, .int .u8 0, .int .u8 0, .int .u8 0, .int .u8 0, .int .u8 0, .int .u8 0, .int .u8 0, .int .u8 0, .int .u8 0, .int .u8 0, .int .u8 0, .int .u8 0, .int .u8 0, .int .u8 0, .int .u8 0, .int .u8 0, .int .u8 0, .int .u8 0, .int .u8 0, .int .u8 0, .int .u8 0, .int .u8 0, .int .u8 0, .int .u8 0] 257)).alloc (.cells (Tryz.zeroCells384.setIfInBounds 0 (.int .u8 128)) 384) := ⟨_, rfl⟩
  rw [← hw1]
  have hbw : Below w.heap.size w w1 := by rw [hw1]; exact ((Below.refl _ _).alloc (Nat.le_refl _) _).alloc (by simp) _
  have hsz : w1.heap.size = w.heap.size + 2 := by rw [hw1]; simp
  have A1 : Row w1 w.heap.size 257 (cs8 (List.replicate 64 0)) := by
    rw [hw1]
    refine Row.below (B := w.heap.size + 1) ?_ ((Below.refl _ _).alloc (by simp) _) (by omega)
    exact Row.new w _ _ _ rfl
  have A2 : Row w1 (w.heap.size + 1) 384 (cs8 (128 :: List.replicate 143 0)) := by
    rw [hw1]
    have h := Row.new (w.alloc (.cells #[.int .u8 0, .int .u8 0, .int .u8 0, .int .u8 0, .int .u8 0, .int .u8 0, .int .u8 0, .int .u8 0, .int .u8 0, .int .u8 0, .int .u8 0, .int .u8 0, .int .u8 0, .int .u8 0, .int .u8 0, .int .u8 0, .int .u8 0, .int .u8 0, .int .u8 0, .int .u8 0, .int .u8 0, .int .u8 0, .int .u8 0, .int .u8 0, .int .u8 0, .int .u8 0, .int .u8 0, .int .u8 0, .int .u8 0, .int .u8 0, .int .u8 0, .int .u8 0, .int .u8 0, .int .u8 0, .int .u8 0, .int .u8 0, .int .u8 0, .int .u8 0, .int .u8 0, .int .u8 0, .int .u8 0, .int .u8 0, .int .u8 0, .int .u8 0, .int .u8 0, .int .u8 0, .int .u8 0, .int .u8 0, .int .u8 0, .int .u8 0, .int .u8 0, .int .u8 0, .int .u8 0, .int .u8 0, .int .u8 0, .int .u8 0, .int .u8 0, .int .u8 0, .int .u8 0, .int .u8 0, .int .u8 0, .int .u8 0, .int .u8 0, .int .u8 0] 257)) (Tryz.zeroCells384.setIfInBounds 0 (.int .u8 128)) 384 (w.heap.size + 1) (by simp)
    have e : (Tryz.zeroCells384.setIfInBounds 0 (.int .u8 128)).toList = cs8 (128 :: List.replicate 143 0) := by kernel_rfl
    rw [e] at h
    exact h
  have R1 := HR.out.below hbw hgl
  have K1 := HK.out.below hbw hkl
  clear hw1 b2
  have A1 := Lib.hid A1
  have A2 := Lib.hid A2
  have R1 := Lib.hid R1
  have K1 := Lib.hid K1
  have HBut := Lib.hid (But.of_below (g := g) hbw)
  have Hbw := Lib.hid hbw
  have Hsz := Lib.hid hsz
  have hs1 : w.heap.size + 1 < w1.heap.size := by omega
  clear hbw hsz
  generalize hB : w.heap.size = B at *
  have HB := Lib.hid hB
  clear hB
  obtain ⟨t, ht⟩ : ∃ t, padM n = t := ⟨_, rfl⟩
  have htl := padM_le n
  rw [ht] at htl
  obtain ⟨ht1, ht2⟩ := htl
  go_upto_if 15 with (fail)
  go_cut [5] (fun v5 wx => v5 = .int .u64 t ∧ wx = w1)
  case first =>
    by_cases h56 : n % 128 < 112
    · have h56' : (n : Int) % 128 < 112 := by omega
      have ht' : (112 : Int) - n % 128 = t := by rw [← ht]; unfold padM; rw [if_pos h56]; omega
      clear ht
      go_wp2_with fail
      go_meet
      exact ⟨rfl, rfl⟩
    · have h56' : ¬ (n : Int) % 128 < 112 := by omega
      have ht' : (240 : Int) - n % 128 = t := by rw [← ht]; unfold padM; rw [if_neg h56]; omega
      clear ht
      go_wp2_with fail
      go_meet
      exact ⟨rfl, rfl⟩
  case rest =>
    obtain ⟨rfl, rfl⟩ := hcut
    have Ht := Lib.hid ht
    clear ht
    have hsl1 := fun wx => run_arr_to (P := Tryz.prog) 384 5 144 Tryz.underlying384 (by kernel_rfl) (B + 1) 0 (t + 16) .u64 ((t : Int) + 16) (by omega) (by omega) wx
    have hsl2 := fun wx => run_sl_from (P := Tryz.prog) 22 5 Tryz.underlying22 (by kernel_rfl) (B + 1) 0 (t + 16) 144 (t + 8) (t + 8) 8 (136 - t) .u64 ((t : Int) + 8) (by omega) (by omega) (by omega) (by omega) (by omega) (by omega) wx
    have G1 := Lib.hid (bePut64h (B + 1) (t + 8) 8 (136 - t) _ _ ((n : Int) * 8) wc A2.out (by omega) (by rw [length_cs8]; simp; omega))
    go_wp2_with fail
    refine G1.out.mono ?_
    rintro e w2 ⟨rfl, r2, o2⟩
    rw [setL_cs8] at r2
    have hpl := pad64_len n
    rw [Ht.out] at hpl
    have X2 : Bs w2 (.slice (some ⟨B + 1, 0, none⟩) (t + 16) 144) (pad64 n) := by
      have h := Bs.row r2 0 144 (pad64 n) (by rw [hpl]; omega) (fun i hi => by
        rw [Nat.zero_add, get_cs8 _ _ (by rw [setI_len]; simp; omega)]
        unfold pad64
        rw [Ht.out]
        simp only [List.getD_eq_getElem?_getD, List.getElem?_take]
        rw [if_pos (by omega)])
      rw [hpl] at h
      exact h
    have hgB : g ≠ B + 1 := by omega
    have W := Lib.hid (write512 K hK g d (.slice (some ⟨B + 1, 0, none⟩) (t + 16) 144) (pad64 n) w2 Hx.out (by rw [Hnx.out]; omega) (R1.out.only o2 hgB) (K1.out.only o2 (by omega)) hgk X2 (by intro a n c h _; cases h; show B + 1 ≠ g; omega) (by rw [hpl]; omega))
    have A3 := Lib.hid (A1.out.only o2 (by omega))
    have O2 := Lib.hid (HBut.out.only_new o2 (by rw [HB.out]; omega))
    have S2 : B + 1 < w2.heap.size := by rw [o2.size]; exact hs1
    have hq0 : (write64 K d (pad64 n)).nx = 0 := by
      rw [write64_nx K d _ (by rw [Hnx.out]; omega), hpl, Hnx.out, ← Ht.out]
      unfold padM; split <;> omega
    have hqx := write64_x K d (pad64 n) Hx.out (by rw [Hnx.out]; omega)
    have hqz : (write64 K d (pad64 n)).sz = 64 := by rw [write64_sz, Hdz.out]
    obtain ⟨q, hq⟩ : ∃ q, write64 K d (pad64 n) = q := ⟨_, rfl⟩
    have Hq := Lib.hid hq
    rw [hq] at hq0 hqx hqz
    have Hqz := Lib.hid hqz
    have Hqx := Lib.hid hqx
    have Hq0 := Lib.hid hq0
    have Hpl := Lib.hid hpl
    clear hqz X2 r2 o2 hq hqx hq0 hpl A1 A2 R1 K1 hsl1 hsl2
    go_wp2_with fail
    refine W.out.mono ?_
    rintro e w3 ⟨rfl, r3, o3⟩
    rw [Hq.out] at r3
    have c72 : w3.cell? ⟨g, 136, none⟩ = some (.int .i64 0) := by
      rw [r3.cell, ecell_nx Hqx.out, Hq0.out]; rfl
    have A4 := Lib.hid (A3.out.but o3 (by omega))
    have O3 := Lib.hid (O2.out.trans o3)
    have S3 : B + 1 < w3.heap.size := Nat.lt_of_lt_of_le S2 o3.size
    have R3 := Lib.hid r3
    clear r3 o3 A3 O2
    go_upto_region 15 with (fail)
    obtain ⟨w4, hw4⟩ : ∃ w4 : World, w4 = w3.alloc (.cells #[.int .u8 0, .int .u8 0, .int .u8 0, .int .u8 0, .int .u8 0, .int .u8 0, .int .u8 0, .int .u8 0, .int .u8 0, .int .u8 0, .int .u8 0, .int .u8 0, .int .u8 0, .int .u8 0, .int .u8 0, .int .u8 0, .int .u8 0, .int .u8 0, .int .u8 0, .int .u8 0, .int .u8 0, .int .u8 0, .int .u8 0, .int .u8 0, .int .u8 0, .int .u8 0, .int .u8 0, .int .u8 0, .int .u8 0, .int .u8 0, .int .u8 0, .int .u8 0, .int .u8 0, .int .u8 0, .int .u8 0, .int .u8 0, .int .u8 0, .int .u8 0, .int .u8 0, .int .u8 0, .int .u8 0, .int .u8 0, .int .u8 0, .int .u8 0, .int .u8 0, .int .u8 0, .int .u8 0, .int .u8 0, .int .u8 0, .int .u8 0, .int .u8 0, .int .u8 0, .int .u8 0, .int .u8 0, .int .u8 0, .int .u8 0, .int .u8 0, .int .u8 0, .int .u8 0, .int .u8 0, .int .u8 0, .int .u8 0, .int .u8 0, .int .u8 0] 257) := ⟨_, rfl⟩
    rw [← hw4]
    have D4 : Row w4 w3.heap.size 257 (cs8 (List.replicate 64 0)) := by rw [hw4]; exact Row.new w3 _ _ _ rfl
    have R4 := Lib.hid (show Row w4 g 263 q.cells by rw [hw4]; exact R3.out.allocd _)
    have A4 := Lib.hid (show Row w4 B 257 (cs8 (List.replicate 64 0)) by rw [hw4]; exact A4.out.allocd _)
    have O4 := Lib.hid (show But g w w4 by rw [hw4]; exact O3.out.alloc _)
    have D4 := Lib.hid D4
    have hBw : w.heap.size ≤ w3.heap.size := by rw [HB.out]; omega
    have hgD : g ≠ w3.heap.size := by omega
    have hBD : B ≠ w3.heap.size := by omega
    clear hw4 c72 R3 O3
    generalize w3.heap.size = D at *
    have c0 : w4.cell? ⟨g, 0, none⟩ = some (.int .u64 q.s.a) := by rw [R4.out.cell]; rfl
    have P0 := Lib.hid (bePut64h D 0 64 64 _ _ q.s.a w4.drew (row_drew D4.out) (by omega) (by simp [cs8]))
    have X0 : Hid (Row w4.drew g 263 q.cells) := Lib.hid (row_drew R4.out)
    have Y0 : Hid (Row w4.drew B 257 (cs8 (List.replicate 64 0))) := Lib.hid (row_drew A4.out)
    have Z0 := Lib.hid O4.out.drew
    clear R4 A4 O4 D4
    go_wp2_with fail
    go_still_tail 6, (by kernel_rfl)
    change wpList _ _ _ _ _ w4.drew
    generalize w4.drew = wd at *
    clear c0
    go_wp2_with fail
    refine P0.out.mono ?_
    rintro e w5 ⟨rfl, d5, o5⟩
    have D5 := Lib.hid d5
    have R5 := Lib.hid (X0.out.only o5 hgD)
    have A5 := Lib.hid (Y0.out.only o5 hBD)
    have O5 := Lib.hid (Z0.out.only_new o5 hBw)
    clear d5 o5 P0 X0 Y0 Z0
    have c1 : w5.cell? ⟨g, 1, none⟩ = some (.int .u64 q.s.b) := by rw [R5.out.cell]; rfl
    have P1 := Lib.hid (bePut64h D 8 56 56 _ _ q.s.b w5.drew (row_drew D5.out) (by omega) (by simp [setL_len, cs8]))
    have X1 : Hid (Row w5.drew g 263 q.cells) := Lib.hid (row_drew R5.out)
    have Y1 : Hid (Row w5.drew B 257 (cs8 (List.replicate 64 0))) := Lib.hid (row_drew A5.out)
    have Z1 := Lib.hid O5.out.drew
    clear R5 A5 O5 D5
    go_wp2_with fail
    go_still_tail 6, (by kernel_rfl)
    change wpList _ _ _ _ _ w5.drew
    generalize w5.drew = wd at *
    clear c1
    go_wp2_with fail
    refine P1.out.mono ?_
    rintro e w6 ⟨rfl, d6, o6⟩
    have D6 := Lib.hid d6
    have R6 := Lib.hid (X1.out.only o6 hgD)
    have A6 := Lib.hid (Y1.out.only o6 hBD)
    have O6 := Lib.hid (Z1.out.only_new o6 hBw)
    clear d6 o6 P1 X1 Y1 Z1
    have c2 : w6.cell? ⟨g, 2, none⟩ = some (.int .u64 q.s.c) := by rw [R6.out.cell]; rfl
    have P2 := Lib.hid (bePut64h D 16 48 48 _ _ q.s.c w6.drew (row_drew D6.out) (by omega) (by simp [setL_len, cs8]))
    have X2 : Hid (Row w6.drew g 263 q.cells) := Lib.hid (row_drew R6.out)
    have Y2 : Hid (Row w6.drew B 257 (cs8 (List.replicate 64 0))) := Lib.hid (row_drew A6.out)
    have Z2 := Lib.hid O6.out.drew
    clear R6 A6 O6 D6
    go_wp2_with fail
    go_still_tail 6, (by kernel_rfl)
    change wpList _ _ _ _ _ w6.drew
    generalize w6.drew = wd at *
    clear c2
    go_wp2_with fail
    refine P2.out.mono ?_
    rintro e w7 ⟨rfl, d7, o7⟩
    have D7 := Lib.hid d7
    have R7 := Lib.hid (X2.out.only o7 hgD)
    have A7 := Lib.hid (Y2.out.only o7 hBD)
    have O7 := Lib.hid (Z2.out.only_new o7 hBw)
    clear d7 o7 P2 X2 Y2 Z2
    have c3 : w7.cell? ⟨g, 3, none⟩ = some (.int .u64 q.s.d) := by rw [R7.out.cell]; rfl
    have P3 := Lib.hid (bePut64h D 24 40 40 _ _ q.s.d w7.drew (row_drew D7.out) (by omega) (by simp [setL_len, cs8]))
    have X3 : Hid (Row w7.drew g 263 q.cells) := Lib.hid (row_drew R7.out)
    have Y3 : Hid (Row w7.drew B 257 (cs8 (List.replicate 64 0))) := Lib.hid (row_drew A7.out)
    have Z3 := Lib.hid O7.out.drew
    clear R7 A7 O7 D7
    go_wp2_with fail
    go_still_tail 6, (by kernel_rfl)
    change wpList _ _ _ _ _ w7.drew
    generalize w7.drew = wd at *
    clear c3
    go_wp2_with fail
    refine P3.out.mono ?_
    rintro e w8 ⟨rfl, d8, o8⟩
    have D8 := Lib.hid d8
    have R8 := Lib.hid (X3.out.only o8 hgD)
    have A8 := Lib.hid (Y3.out.only o8 hBD)
    have O8 := Lib.hid (Z3.out.only_new o8 hBw)
    clear d8 o8 P3 X3 Y3 Z3
    have c4 : w8.cell? ⟨g, 4, none⟩ = some (.int .u64 q.s.e) := by rw [R8.out.cell]; rfl
    have P4 := Lib.hid (bePut64h D 32 32 32 _ _ q.s.e w8.drew (row_drew D8.out) (by omega) (by simp [setL_len, cs8]))
    have X4 : Hid (Row w8.drew g 263 q.cells) := Lib.hid (row_drew R8.out)
    have Y4 : Hid (Row w8.drew B 257 (cs8 (List.replicate 64 0))) := Lib.hid (row_drew A8.out)
    have Z4 := Lib.hid O8.out.drew
    clear R8 A8 O8 D8
    go_wp2_with fail
    go_still_tail 6, (by kernel_rfl)
    change wpList _ _ _ _ _ w8.drew
    generalize w8.drew = wd at *
    clear c4
    go_wp2_with fail
    refine P4.out.mono ?_
    rintro e w9 ⟨rfl, d9, o9⟩
    have D9 := Lib.hid d9
    have R9 := Lib.hid (X4.out.only o9 hgD)
    have A9 := Lib.hid (Y4.out.only o9 hBD)
    have O9 := Lib.hid (Z4.out.only_new o9 hBw)
    clear d9 o9 P4 X4 Y4 Z4
    have c5 : w9.cell? ⟨g, 5, none⟩ = some (.int .u64 q.s.f) := by rw [R9.out.cell]; rfl
    have P5 := Lib.hid (bePut64h D 40 24 24 _ _ q.s.f w9.drew (row_drew D9.out) (by omega) (by simp [setL_len, cs8]))
    have X5 : Hid (Row w9.drew g 263 q.cells) := Lib.hid (row_drew R9.out)
    have Y5 : Hid (Row w9.drew B 257 (cs8 (List.replicate 64 0))) := Lib.hid (row_drew A9.out)
    have Z5 := Lib.hid O9.out.drew
    clear R9 A9 O9 D9
    go_wp2_with fail
    go_still_tail 6, (by kernel_rfl)
    change wpList _ _ _ _ _ w9.drew
    generalize w9.drew = wd at *
    clear c5
    go_wp2_with fail
    refine P5.out.mono ?_
    rintro e w10 ⟨rfl, d10, o10⟩
    have D10 := Lib.hid d10
    have R10 := Lib.hid (X5.out.only o10 hgD)
    have A10 := Lib.hid (Y5.out.only o10 hBD)
    have O10 := Lib.hid (Z5.out.only_new o10 hBw)
    clear d10 o10 P5 X5 Y5 Z5
    have c6 : w10.cell? ⟨g, 6, none⟩ = some (.int .u64 q.s.g) := by rw [R10.out.cell]; rfl
    have P6 := Lib.hid (bePut64h D 48 16 16 _ _ q.s.g w10.drew (row_drew D10.out) (by omega) (by simp [setL_len, cs8]))
    have X6 : Hid (Row w10.drew g 263 q.cells) := Lib.hid (row_drew R10.out)
    have Y6 : Hid (Row w10.drew B 257 (cs8 (List.replicate 64 0))) := Lib.hid (row_drew A10.out)
    have Z6 := Lib.hid O10.out.drew
    have c138 : w10.cell? ⟨g, 138, none⟩ = some (.int .i64 64) := by rw [R10.out.cell, ecell_sz Hqx.out, Hqz.out]
    clear R10 A10 O10 D10
    go_wp2_with fail
    go_still_tail 6, (by kernel_rfl)
    change wpList _ _ _ _ _ w10.drew
    generalize w10.drew = wd at *
    clear c6 c138
    go_wp2_with fail
    refine P6.out.mono ?_
    rintro e w11 ⟨rfl, d11, o11⟩
    have D11 := Lib.hid d11
    have R11 := Lib.hid (X6.out.only o11 hgD)
    have A11 := Lib.hid (Y6.out.only o11 hBD)
    have O11 := Lib.hid (Z6.out.only_new o11 hBw)
    clear d11 o11 P6 X6 Y6 Z6
    have c7 : w11.cell? ⟨g, 7, none⟩ = some (.int .u64 q.s.h) := by rw [R11.out.cell]; rfl
    have P7 := Lib.hid (bePut64h D 56 8 8 _ _ q.s.h w11.drew (row_drew D11.out) (by omega) (by simp [setL_len, cs8]))
    have X7 : Hid (Row w11.drew g 263 q.cells) := Lib.hid (row_drew R11.out)
    have Y7 : Hid (Row w11.drew B 257 (cs8 (List.replicate 64 0))) := Lib.hid (row_drew A11.out)
    have Z7 := Lib.hid O11.out.drew
    clear R11 A11 O11 D11
    go_wp2_with fail
    go_still_tail 6, (by kernel_rfl)
    change wpList _ _ _ _ _ w11.drew
    generalize w11.drew = wd at *
    clear c7
    go_wp2_with fail
    refine P7.out.mono ?_
    rintro e w12 ⟨rfl, d12, o12⟩
    have D12 := Lib.hid d12
    have R12 := Lib.hid (X7.out.only o12 hgD)
    have A12 := Lib.hid (Y7.out.only o12 hBD)
    have O12 := Lib.hid (Z7.out.only_new o12 hBw)
    clear d12 o12 P7 X7 Y7 Z7
    have hout := dig8_set q.s
    have E12 : Hid (Row w12 D 257 (cs8 (dig8 q.s))) := Lib.hid (by rw [← hout]; exact D12.out)
    have hl1 : ((cs8 (dig8 q.s)).toArray).size = 64 := by simp [cs8, dig8_len]
    have hi : (Tryz.prog.info? 257).map (·.size) = some 64 := by kernel_rfl
    have hl1 : (Tryz.prog.info? 257).map (·.size) = some ((cs8 (dig8 q.s)).toArray).size := by rw [hl1]; exact hi
    have hl2 : (cs8 (dig8 q.s)).length = (cs8 (List.replicate 64 0)).length := by simp [cs8, dig8_len]
    have hl3 : (Tryz.prog.info? 257).map (·.size) = some (cs8 (dig8 q.s)).length := by rw [hi]; simp [cs8, dig8_len]
    obtain ⟨X, hX⟩ : ∃ X, cs8 (dig8 q.s) = X := ⟨_, rfl⟩
    have h1 : ∀ v ∈ X, v.oneCell' = true := by rw [← hX]; exact one_cs8 _
    rw [hX] at E12 hl1 hl2 hl3
    have hl1 := Lib.hid hl1
    have hl2 := Lib.hid hl2
    have hl3 := Lib.hid hl3
    have h1 := Lib.hid h1
    have HX := Lib.hid hX
    clear hout D12 hi hX
    go_wp2_with (first | (refine wpList_load_row rfl 257 (.tmp 7) rfl D rfl 257 X.toArray (0, 0) _ E12.out Tryz.underlying257 rfl hl1.out ?_) | (refine wpl_store_row rfl 257 (.tmp 2) (.tmp 103) rfl X rfl B rfl 257 _ A12.out hl2.out hl3.out h1.out ?_; intro w13 r13 o13))
    have hd : done64 K d n = dig8 q.s := by rw [← Hq.out]; rfl
    rw [← HX.out] at r13 hl1
    refine bodyPost_ret (v := .agg (cs8 (dig8 q.s)).toArray) (results_cell_row rfl _ _ B 257 _ (0, 0) _ rfl r13 Tryz.underlying257 rfl hl1.out) rfl ⟨by rw [hd], ?_, O12.out.only_new o13 (by rw [HB.out]; exact Nat.le_refl _)⟩
    rw [Hq.out]
    exact R12.out.only o13 (by omega)
set_option maxRecDepth 100000 in
set_option maxHeartbeats 2000000 in
theorem check384 (K : List Int) (hK : K.length = 80) (g : Nat) (d : D64) (n : Nat) (w : World)
    (hx : d.x.length = 128) (hdz : d.sz = 48) (hnx : d.nx = n % 128) (hlen : d.len = n) (hn : n ≤ 1099511627776) (hrow : Row w g 263 d.cells) (hkt : Row w 9 385 (cs64 K)) (hgk : 9 ≠ g) :
    Calls Tryz.prog 278 #[.pointer (some ⟨g, 0, none⟩)] w fun e w' => e = .returned (.agg (cs8 (done48 K d n)).toArray) ∧ Row w' g 263 (write64 K d (pad64 n)).cells ∧ But g w w' := by
  have hgl := hrow.lt
  have hkl := hkt.lt
  have b2 : w.cell? ⟨g, 137, none⟩ = some (.int .u64 n) := by rw [hrow.cell, ecell_len hx, hlen]
  have hm0 : (0 : Int) ≤ n := by omega
  have hm1 : (n : Int) ≤ 1099511627776 := by omega
  have Hx := Lib.hid hx
  have Hdz := Lib.hid hdz
  clear hdz
  have Hnx := Lib.hid hnx
  have Hlen := Lib.hid hlen
  have HR := Lib.hid hrow
  have HK := Lib.hid hkt
  clear hx hnx hlen hrow hkt
  go_enter Tryz.func278, Tryz.ntmps278
  go_upto_region 5 with (fail)
  obtain ⟨w1, hw1⟩ : ∃ w1 : World, w1 = (w.alloc (.cells #[.int .u8 0, .int .u8 0, .int .u8 0, .int .u8 0, .int .u8 0, .int .u8 0, .int .u8 0, .int .u8 0, .int .u8 0, .int .u8 0, .int .u8 0, .int .u8 0, .int .u8 0, .int .u8 0, .int .u8 0, .int .u8 0, .int .u8 0, .int .u8 0, .int .u8 0, .int .u8 0, .int .u8 0, .int .u8 0, .int .u8 0, .int .u8 0, .int .u8 0, .int .u8 0, .int .u8 0, .int .u8 0, .int .u8 0, .int .u8 0, .int .u8 0, .int .u8 0, .int .u8 0, .int .u8 0, .int .u8 0, .int .u8 0, .int .u8 0, .int .u8 0, .int .u8 0, .int .u8 0, .int .u8 0, .int .u8 0, .int .u8 0, .int .u8 0, .int .u8 0, .int .u8 0, .int .u8 0, .int .u8 0, .int .u8 0, .int .u8 0, .int .u8 0, .int .u8 0, .int .u8 0, .int .u8 0, .int .u8 0, .int .u8 0, .int .u8 0, .int .u8 0, .int .u8 0, .int .u8 0, .int .u8 0, .int .u8 0, .int .u8 0, .int .u8 0] 257)).alloc (.cells (Tryz.zeroCells384.setIfInBounds 0 (.int .u8 128)) 384) := ⟨_, rfl⟩
  rw [← hw1]
  have hbw : Below w.heap.size w w1 := by rw [hw1]; exact ((Below.refl _ _).alloc (Nat.le_refl _) _).alloc (by simp) _
  have hsz : w1.heap.size = w.heap.size + 2 := by rw [hw1]; simp
  have A1 : Row w1 w.heap.size 257 (cs8 (List.replicate 64 0)) := by
    rw [hw1]
    refine Row.below (B := w.heap.size + 1) ?_ ((Below.refl _ _).alloc (by simp) _) (by omega)
    exact Row.new w _ _ _ rfl
  have A2 : Row w1 (w.heap.size + 1) 384 (cs8 (128 :: List.replicate 143 0)) := by
    rw [hw1]
    have h := Row.new (w.alloc (.cells #[.int .u8 0, .int .u8 0, .int .u8 0, .int .u8 0, .int .u8 0, .int .u8 0, .int .u8 0, .int .u8 0, .int .u8 0, .int .u8 0, .int .u8 0, .int .u8 0, .int .u8 0, .int .u8 0, .int .u8 0, .int .u8 0, .int .u8 0, .int .u8 0, .int .u8 0, .int .u8 0, .int .u8 0, .int .u8 0, .int .u8 0, .int .u8 0, .int .u8 0, .int .u8 0, .int .u8 0, .int .u8 0, .int .u8 0, .int .u8 0, .int .u8 0, .int .u8 0, .int .u8 0, .int .u8 0, .int .u8 0, .int .u8 0, .int .u8 0, .int .u8 0, .int .u8 0, .int .u8 0, .int .u8 0, .int .u8 0, .int .u8 0, .int .u8 0, .int .u8 0, .int .u8 0, .int .u8 0, .int .u8 0, .int .u8 0, .int .u8 0, .int .u8 0, .int .u8 0, .int .u8 0, .int .u8 0, .int .u8 0, .int .u8 0, .int .u8 0, .int .u8 0, .int .u8 0, .int .u8 0, .int .u8 0, .int .u8 0, .int .u8 0, .int .u8 0] 257)) (Tryz.zeroCells384.setIfInBounds 0 (.int .u8 128)) 384 (w.heap.size + 1) (by simp)
    have e : (Tryz.zeroCells384.setIfInBounds 0 (.int .u8 128)).toList = cs8 (128 :: List.replicate 143 0) := by kernel_rfl
    rw [e] at h
    exact h
  have R1 := HR.out.below hbw hgl
  have K1 := HK.out.below hbw hkl
  clear hw1 b2
  have A1 := Lib.hid A1
  have A2 := Lib.hid A2
  have R1 := Lib.hid R1
  have K1 := Lib.hid K1
  have HBut := Lib.hid (But.of_below (g := g) hbw)
  have Hbw := Lib.hid hbw
  have Hsz := Lib.hid hsz
  have hs1 : w.heap.size + 1 < w1.heap.size := by omega
  clear hbw hsz
  generalize hB : w.heap.size = B at *
  have HB := Lib.hid hB
  clear hB
  obtain ⟨t, ht⟩ : ∃ t, padM n = t := ⟨_, rfl⟩
  have htl := padM_le n
  rw [ht] at htl
  obtain ⟨ht1, ht2⟩ := htl
  go_upto_if 15 with (fail)
  go_cut [5] (fun v5 wx => v5 = .int .u64 t ∧ wx = w1)
  case first =>
    by_cases h56 : n % 128 < 112
    · have h56' : (n : Int) % 128 < 112 := by omega
      have ht' : (112 : Int) - n % 128 = t := by rw [← ht]; unfold padM; rw [if_pos h56]; omega
      clear ht
      go_wp2_with fail
      go_meet
      exact ⟨rfl, rfl⟩
    · have h56' : ¬ (n : Int) % 128 < 112 := by omega
      have ht' : (240 : Int) - n % 128 = t := by rw [← ht]; unfold padM; rw [if_neg h56]; omega
      clear ht
      go_wp2_with fail
      go_meet
      exact ⟨rfl, rfl⟩
  case rest =>
    obtain ⟨rfl, rfl⟩ := hcut
    have Ht := Lib.hid ht
    clear ht
    have hsl1 := fun wx => run_arr_to (P := Tryz.prog) 384 5 144 Tryz.underlying384 (by kernel_rfl) (B + 1) 0 (t + 16) .u64 ((t : Int) + 16) (by omega) (by omega) wx
    have hsl2 := fun wx => run_sl_from (P := Tryz.prog) 22 5 Tryz.underlying22 (by kernel_rfl) (B + 1) 0 (t + 16) 144 (t + 8) (t + 8) 8 (136 - t) .u64 ((t : Int) + 8) (by omega) (by omega) (by omega) (by omega) (by omega) (by omega) wx
    have G1 := Lib.hid (bePut64h (B + 1) (t + 8) 8 (136 - t) _ _ ((n : Int) * 8) wc A2.out (by omega) (by rw [length_cs8]; simp; omega))
    go_wp2_with fail
    refine G1.out.mono ?_
    rintro e w2 ⟨rfl, r2, o2⟩
    rw [setL_cs8] at r2
    have hpl := pad64_len n
    rw [Ht.out] at hpl
    have X2 : Bs w2 (.slice (some ⟨B + 1, 0, none⟩) (t + 16) 144) (pad64 n) := by
      have h := Bs.row r2 0 144 (pad64 n) (by rw [hpl]; omega) (fun i hi => by
        rw [Nat.zero_add, get_cs8 _ _ (by rw [setI_len]; simp; omega)]
        unfold pad64
        rw [Ht.out]
        simp only [List.getD_eq_getElem?_getD, List.getElem?_take]
        rw [if_pos (by omega)])
      rw [hpl] at h
      exact h
    have hgB : g ≠ B + 1 := by omega
    have W := Lib.hid (write512 K hK g d (.slice (some ⟨B + 1, 0, none⟩) (t + 16) 144) (pad64 n) w2 Hx.out (by rw [Hnx.out]; omega) (R1.out.only o2 hgB) (K1.out.only o2 (by omega)) hgk X2 (by intro a n c h _; cases h; show B + 1 ≠ g; omega) (by rw [hpl]; omega))
    have A3 := Lib.hid (A1.out.only o2 (by omega))
    have O2 := Lib.hid (HBut.out.only_new o2 (by rw [HB.out]; omega))
    have S2 : B + 1 < w2.heap.size := by rw [o2.size]; exact hs1
    have hq0 : (write64 K d (pad64 n)).nx = 0 := by
      rw [write64_nx K d _ (by rw [Hnx.out]; omega), hpl, Hnx.out, ← Ht.out]
      unfold padM; split <;> omega
    have hqx := write64_x K d (pad64 n) Hx.out (by rw [Hnx.out]; omega)
    have hqz : (write64 K d (pad64 n)).sz = 48 := by rw [write64_sz, Hdz.out]
    obtain ⟨q, hq⟩ : ∃ q, write64 K d (pad64 n) = q := ⟨_, rfl⟩
    have Hq := Lib.hid hq
    rw [hq] at hq0 hqx hqz
    have Hqz := Lib.hid hqz
    have Hqx := Lib.hid hqx
    have Hq0 := Lib.hid hq0
    have Hpl := Lib.hid hpl
    clear hqz X2 r2 o2 hq hqx hq0 hpl A1 A2 R1 K1 hsl1 hsl2
    go_wp2_with fail
    refine W.out.mono ?_
    rintro e w3 ⟨rfl, r3, o3⟩
    rw [Hq.out] at r3
    have c72 : w3.cell? ⟨g, 136, none⟩ = some (.int .i64 0) := by
      rw [r3.cell, ecell_nx Hqx.out, Hq0.out]; rfl
    have A4 := Lib.hid (A3.out.but o3 (by omega))
    have O3 := Lib.hid (O2.out.trans o3)
    have S3 : B + 1 < w3.heap.size := Nat.lt_of_lt_of_le S2 o3.size
    have R3 := Lib.hid r3
    clear r3 o3 A3 O2
    go_upto_region 15 with (fail)
    obtain ⟨w4, hw4⟩ : ∃ w4 : World, w4 = w3.alloc (.cells #[.int .u8 0, .int .u8 0, .int .u8 0, .int .u8 0, .int .u8 0, .int .u8 0, .int .u8 0, .int .u8 0, .int .u8 0, .int .u8 0, .int .u8 0, .int .u8 0, .int .u8 0, .int .u8 0, .int .u8 0, .int .u8 0, .int .u8 0, .int .u8 0, .int .u8 0, .int .u8 0, .int .u8 0, .int .u8 0, .int .u8 0, .int .u8 0, .int .u8 0, .int .u8 0, .int .u8 0, .int .u8 0, .int .u8 0, .int .u8 0, .int .u8 0, .int .u8 0, .int .u8 0, .int .u8 0, .int .u8 0, .int .u8 0, .int .u8 0, .int .u8 0, .int .u8 0, .int .u8 0, .int .u8 0, .int .u8 0, .int .u8 0, .int .u8 0, .int .u8 0, .int .u8 0, .int .u8 0, .int .u8 0, .int .u8 0, .int .u8 0, .int .u8 0, .int .u8 0, .int .u8 0, .int .u8 0, .int .u8 0, .int .u8 0, .int .u8 0, .int .u8 0, .int .u8 0, .int .u8 0, .int .u8 0, .int .u8 0, .int .u8 0, .int .u8 0] 257) := ⟨_, rfl⟩
    rw [← hw4]
    have D4 : Row w4 w3.heap.size 257 (cs8 (List.replicate 64 0)) := by rw [hw4]; exact Row.new w3 _ _ _ rfl
    have R4 := Lib.hid (show Row w4 g 263 q.cells by rw [hw4]; exact R3.out.allocd _)
    have A4 := Lib.hid (show Row w4 B 257 (cs8 (List.replicate 64 0)) by rw [hw4]; exact A4.out.allocd _)
    have O4 := Lib.hid (show But g w w4 by rw [hw4]; exact O3.out.alloc _)
    have D4 := Lib.hid D4
    have hBw : w.heap.size ≤ w3.heap.size := by rw [HB.out]; omega
    have hgD : g ≠ w3.heap.size := by omega
    have hBD : B ≠ w3.heap.size := by omega
    clear hw4 c72 R3 O3
    generalize w3.heap.size = D at *
    have c0 : w4.cell? ⟨g, 0, none⟩ = some (.int .u64 q.s.a) := by rw [R4.out.cell]; rfl
    have P0 := Lib.hid (bePut64h D 0 64 64 _ _ q.s.a w4.drew (row_drew D4.out) (by omega) (by simp [cs8]))
    have X0 : Hid (Row w4.drew g 263 q.cells) := Lib.hid (row_drew R4.out)
    have Y0 : Hid (Row w4.drew B 257 (cs8 (List.replicate 64 0))) := Lib.hid (row_drew A4.out)
    have Z0 := Lib.hid O4.out.drew
    clear R4 A4 O4 D4
    go_wp2_with fail
    go_still_tail 6, (by kernel_rfl)
    change wpList _ _ _ _ _ w4.drew
    generalize w4.drew = wd at *
    clear c0
    go_wp2_with fail
    refine P0.out.mono ?_
    rintro e w5 ⟨rfl, d5, o5⟩
    have D5 := Lib.hid d5
    have R5 := Lib.hid (X0.out.only o5 hgD)
    have A5 := Lib.hid (Y0.out.only o5 hBD)
    have O5 := Lib.hid (Z0.out.only_new o5 hBw)
    clear d5 o5 P0 X0 Y0 Z0
    have c1 : w5.cell? ⟨g, 1, none⟩ = some (.int .u64 q.s.b) := by rw [R5.out.cell]; rfl
    have P1 := Lib.hid (bePut64h D 8 56 56 _ _ q.s.b w5.drew (row_drew D5.out) (by omega) (by simp [setL_len, cs8]))
    have X1 : Hid (Row w5.drew g 263 q.cells) := Lib.hid (row_drew R5.out)
    have Y1 : Hid (Row w5.drew B 257 (cs8 (List.replicate 64 0))) := Lib.hid (row_drew A5.out)
    have Z1 := Lib.hid O5.out.drew
    clear R5 A5 O5 D5
    go_wp2_with fail
    go_still_tail 6, (by kernel_rfl)
    change wpList _ _ _ _ _ w5.drew
    generalize w5.drew = wd at *
    clear c1
    go_wp2_with fail
    refine P1.out.mono ?_
    rintro e w6 ⟨rfl, d6, o6⟩
    have D6 := Lib.hid d6
    have R6 := Lib.hid (X1.out.only o6 hgD)
    have A6 := Lib.hid (Y1.out.only o6 hBD)
    have O6 := Lib.hid (Z1.out.only_new o6 hBw)
    clear d6 o6 P1 X1 Y1 Z1
    have c2 : w6.cell? ⟨g, 2, none⟩ = some (.int .u64 q.s.c) := by rw [R6.out.cell]; rfl
    have P2 := Lib.hid (bePut64h D 16 48 48 _ _ q.s.c w6.drew (row_drew D6.out) (by omega) (by simp [setL_len, cs8]))
    have X2 : Hid (Row w6.drew g 263 q.cells) := Lib.hid (row_drew R6.out)
    have Y2 : Hid (Row w6.drew B 257 (cs8 (List.replicate 64 0))) := Lib.hid (row_drew A6.out)
    have Z2 := Lib.hid O6.out.drew
    clear R6 A6 O6 D6
    go_wp2_with fail
    go_still_tail 6, (by kernel_rfl)
    change wpList _ _ _ _ _ w6.drew
    generalize w6.drew = wd at *
    clear c2
    go_wp2_with fail
    refine P2.out.mono ?_
    rintro e w7 ⟨rfl, d7, o7⟩
    have D7 := Lib.hid d7
    have R7 := Lib.hid (X2.out.only o7 hgD)
    have A7 := Lib.hid (Y2.out.only o7 hBD)
    have O7 := Lib.hid (Z2.out.only_new o7 hBw)
    clear d7 o7 P2 X2 Y2 Z2
    have c3 : w7.cell? ⟨g, 3, none⟩ = some (.int .u64 q.s.d) := by rw [R7.out.cell]; rfl
    have P3 := Lib.hid (bePut64h D 24 40 40 _ _ q.s.d w7.drew (row_drew D7.out) (by omega) (by simp [setL_len, cs8]))
    have X3 : Hid (Row w7.drew g 263 q.cells) := Lib.hid (row_drew R7.out)
    have Y3 : Hid (Row w7.drew B 257 (cs8 (List.replicate 64 0))) := Lib.hid (row_drew A7.out)
    have Z3 := Lib.hid O7.out.drew
    clear R7 A7 O7 D7
    go_wp2_with fail
    go_still_tail 6, (by kernel_rfl)
    change wpList _ _ _ _ _ w7.drew
    generalize w7.drew = wd at *
    clear c3
    go_wp2_with fail
    refine P3.out.mono ?_
    rintro e w8 ⟨rfl, d8, o8⟩
    have D8 := Lib.hid d8
    have R8 := Lib.hid (X3.out.only o8 hgD)
    have A8 := Lib.hid (Y3.out.only o8 hBD)
    have O8 := Lib.hid (Z3.out.only_new o8 hBw)
    clear d8 o8 P3 X3 Y3 Z3
    have c4 : w8.cell? ⟨g, 4, none⟩ = some (.int .u64 q.s.e) := by rw [R8.out.cell]; rfl
    have P4 := Lib.hid (bePut64h D 32 32 32 _ _ q.s.e w8.drew (row_drew D8.out) (by omega) (by simp [setL_len, cs8]))
    have X4 : Hid (Row w8.drew g 263 q.cells) := Lib.hid (row_drew R8.out)
    have Y4 : Hid (Row w8.drew B 257 (cs8 (List.replicate 64 0))) := Lib.hid (row_drew A8.out)
    have Z4 := Lib.hid O8.out.drew
    clear R8 A8 O8 D8
    go_wp2_with fail
    go_still_tail 6, (by kernel_rfl)
    change wpList _ _ _ _ _ w8.drew
    generalize w8.drew = wd at *
    clear c4
    go_wp2_with fail
    refine P4.out.mono ?_
    rintro e w9 ⟨rfl, d9, o9⟩
    have D9 := Lib.hid d9
    have R9 := Lib.hid (X4.out.only o9 hgD)
    have A9 := Lib.hid (Y4.out.only o9 hBD)
    have O9 := Lib.hid (Z4.out.only_new o9 hBw)
    clear d9 o9 P4 X4 Y4 Z4
    have c5 : w9.cell? ⟨g, 5, none⟩ = some (.int .u64 q.s.f) := by rw [R9.out.cell]; rfl
    have P5 := Lib.hid (bePut64h D 40 24 24 _ _ q.s.f w9.drew (row_drew D9.out) (by omega) (by simp [setL_len, cs8]))
    have X5 : Hid (Row w9.drew g 263 q.cells) := Lib.hid (row_drew R9.out)
    have Y5 : Hid (Row w9.drew B 257 (cs8 (List.replicate 64 0))) := Lib.hid (row_drew A9.out)
    have Z5 := Lib.hid O9.out.drew
    clear R9 A9 O9 D9
    go_wp2_with fail
    go_still_tail 6, (by kernel_rfl)
    change wpList _ _ _ _ _ w9.drew
    generalize w9.drew = wd at *
    clear c5
    go_wp2_with fail
    refine P5.out.mono ?_
    rintro e w10 ⟨rfl, d10, o10⟩
    have D10 := Lib.hid d10
    have R10 := Lib.hid (X5.out.only o10 hgD)
    have A10 := Lib.hid (Y5.out.only o10 hBD)
    have O10 := Lib.hid (Z5.out.only_new o10 hBw)
    clear d10 o10 P5 X5 Y5 Z5
    have c138 : w10.cell? ⟨g, 138, none⟩ = some (.int .i64 48) := by rw [R10.out.cell, ecell_sz Hqx.out, Hqz.out]
    have hout := dig6_set q.s
    have E10 : Hid (Row w10 D 257 (cs8 (dig6 q.s))) := Lib.hid (by rw [← hout]; exact D10.out)
    have hl1 : ((cs8 (dig6 q.s)).toArray).size = 64 := by simp [cs8, dig6_len]
    have hi : (Tryz.prog.info? 257).map (·.size) = some 64 := by kernel_rfl
    have hl1 : (Tryz.prog.info? 257).map (·.size) = some ((cs8 (dig6 q.s)).toArray).size := by rw [hl1]; exact hi
    have hl2 : (cs8 (dig6 q.s)).length = (cs8 (List.replicate 64 0)).length := by simp [cs8, dig6_len]
    have hl3 : (Tryz.prog.info? 257).map (·.size) = some (cs8 (dig6 q.s)).length := by rw [hi]; simp [cs8, dig6_len]
    obtain ⟨X, hX⟩ : ∃ X, cs8 (dig6 q.s) = X := ⟨_, rfl⟩
    have h1 : ∀ v ∈ X, v.oneCell' = true := by rw [← hX]; exact one_cs8 _
    rw [hX] at E10 hl1 hl2 hl3
    have hl1 := Lib.hid hl1
    have hl2 := Lib.hid hl2
    have hl3 := Lib.hid hl3
    have h1 := Lib.hid h1
    have HX := Lib.hid hX
    clear hout D10 hi hX
    go_wp2_with (first | (refine wpList_load_row rfl 257 (.tmp 7) rfl D rfl 257 X.toArray (0, 0) _ E10.out Tryz.underlying257 rfl hl1.out ?_) | (refine wpl_store_row rfl 257 (.tmp 2) (.tmp 103) rfl X rfl B rfl 257 _ A10.out hl2.out hl3.out h1.out ?_; intro w13 r13 o13))
    have hd : done48 K d n = dig6 q.s := by rw [← Hq.out]; rfl
    rw [← HX.out] at r13 hl1
    refine bodyPost_ret (v := .agg (cs8 (dig6 q.s)).toArray) (results_cell_row rfl _ _ B 257 _ (0, 0) _ rfl r13 Tryz.underlying257 rfl hl1.out) rfl ⟨by rw [hd], ?_, O10.out.only_new o13 (by rw [HB.out]; exact Nat.le_refl _)⟩
    rw [Hq.out]
    exact R10.out.only o13 (by omega)
end Go.Proofs.YtaemdppihpefnaaGreatDoor

/- (*sha512.Digest).Sum, whatever the table holds. -/
namespace Go.Proofs.YtaemdppihpefnaaGreatDoor
open Go.RowKit
set_option linter.unusedVariables false

theorem cells_len64 {d : D64} (hx : d.x.length = 128) : d.cells.length = 139 := by
  simp [D64.cells, dig64, cs64, cs8, words8, hx]
theorem cells_one64 (d : D64) : ∀ v ∈ d.cells, v.oneCell' = true := by
  intro v hv
  simp only [D64.cells, dig64, cs64, cs8, words8, List.mem_append, List.mem_map, List.mem_cons, List.not_mem_nil, or_false] at hv
  rcases hv with ⟨_, _, rfl⟩ | ⟨_, _, rfl⟩ | rfl | rfl | rfl <;> rfl
theorem done64_len (K : List Int) (d : D64) (n : Nat) : (done64 K d n).length = 64 := dig8_len _
theorem done48_len (K : List Int) (d : D64) (n : Nat) : (done48 K d n).length = 64 := dig6_len _

set_option maxRecDepth 100000 in
set_option maxHeartbeats 1000000 in
theorem sum512 (K : List Int) (hK : K.length = 80) (g : Nat) (d : D64) (n : Nat) (w : World)
    (hx : d.x.length = 128) (hsz : d.sz = 64) (hnx : d.nx = n % 128) (hlen : d.len = n) (hn : n ≤ 1099511627776) (hrow : Row w g 263 d.cells) (hkt : Row w 9 385 (cs64 K))
    (base : Nat) (v : Value) (hown : w.ownsRow base 5 1 v 0 []) (hbase : base ≤ w.heap.size) :
    Calls Tryz.prog 275 #[.pointer (some ⟨g, 0, none⟩), v] w fun e w' => ∃ v', e = .returned v' ∧ w'.ownsRow base 5 1 v' 64 ((cs8 (done64 K d n)).take 64) ∧ w.grownBy w' v.ownBlock := by
  have hgl := hrow.lt
  have hkl := hkt.lt
  have hz1 : Tryz.zeroCells263.toList.length = 139 := by kernel_rfl
  have hi1 : (Tryz.prog.info? 263).map (·.size) = some 139 := by kernel_rfl
  have hi2 : (Tryz.prog.info? 257).map (·.size) = some 64 := by kernel_rfl
  have Z1 := Lib.hid (Row.new w Tryz.zeroCells263 263 _ rfl)
  have hs1 : (Tryz.prog.info? 263).map (·.size) = some d.cells.toArray.size := by rw [hi1]; simp [cells_len64 hx]
  have hs2 : d.cells.length = Tryz.zeroCells263.toList.length := by rw [hz1, cells_len64 hx]
  have hs3 : (Tryz.prog.info? 263).map (·.size) = some d.cells.length := by rw [hi1, cells_len64 hx]
  have G : Hid (∀ w1, Row w1 w.heap.size 263 d.cells → Only w.heap.size (w.alloc (.cells Tryz.zeroCells263 263)) w1 →
      Calls Tryz.prog 278 #[.pointer (some ⟨w.heap.size, 0, none⟩)] w1 fun e w2 => e = .returned (.agg (cs8 (done64 K d n)).toArray) ∧ Hid (Below w.heap.size w w2) ∧ Hid (w.heap.size < w2.heap.size)) := by
    refine Lib.hid fun w1 r1 o1 => ?_
    have hb1 : Below w.heap.size w w1 := ((Below.refl _ _).alloc (Nat.le_refl _) _).trans (o1.below (Nat.le_refl _))
    have k1 := hkt.below hb1 hkl
    refine (check512 K hK w.heap.size d n w1 hx hsz hnx hlen hn r1 k1 (by omega)).mono ?_
    intro e w2 ⟨he, r2, b2⟩
    have hl2 := r2.lt
    exact ⟨he, Lib.hid (hb1.trans (b2.below (Nat.le_refl _) (by have := r1.lt; omega))), Lib.hid hl2⟩
  have hdl := done64_len K d n
  obtain ⟨X, hX⟩ : ∃ X, cs8 (done64 K d n) = X := ⟨_, rfl⟩
  have hXl : X.length = 64 := by rw [← hX, length_cs8, hdl]
  have hX1 : ∀ v ∈ X, v.oneCell' = true := by rw [← hX]; exact one_cs8 _
  rw [hX] at G
  rw [hX]
  have hs4 : (Tryz.prog.info? 257).map (·.size) = some X.length := by rw [hi2, hXl]
  have HR := Lib.hid hrow
  have hs1 := Lib.hid hs1
  have hs2 := Lib.hid hs2
  have hs3 := Lib.hid hs3
  have hs4 := Lib.hid hs4
  have HX1 := Lib.hid hX1
  have HXl := Lib.hid hXl
  have HXt : Hid ((X.take 64).length = 64) := Lib.hid (by rw [List.length_take, hXl]; decide)
  have HXt1 : Hid (∀ v ∈ X.take 64, v.oneCell' = true) := Lib.hid fun v hv => hX1 v (List.mem_of_mem_take hv)
  have Hx := Lib.hid hx
  have Hsz := Lib.hid hsz
  have Hown := Lib.hid hown
  have Hdc := Lib.hid (cells_one64 d)
  clear hrow hkt hx hsz hnx hlen hz1 hi1 hi2 hdl hX hXl hX1 hown
  obtain ⟨i0, hi, hz0, hz1, hz2⟩ := info_parts (P := Tryz.prog) (e := 5) (z := .int .u8 0) (size := 1) (bytes := 1) (by kernel_rfl)
  have Hi := Lib.hid hi
  have Hz0 := Lib.hid hz0
  have Hz1 := Lib.hid hz1
  have Hz2 := Lib.hid hz2
  clear hi hz0 hz1 hz2
  have Z2 : Hid (∀ wx : World, Row (wx.alloc (.cells #[.int .u8 0, .int .u8 0, .int .u8 0, .int .u8 0, .int .u8 0, .int .u8 0, .int .u8 0, .int .u8 0, .int .u8 0, .int .u8 0, .int .u8 0, .int .u8 0, .int .u8 0, .int .u8 0, .int .u8 0, .int .u8 0, .int .u8 0, .int .u8 0, .int .u8 0, .int .u8 0, .int .u8 0, .int .u8 0, .int .u8 0, .int .u8 0, .int .u8 0, .int .u8 0, .int .u8 0, .int .u8 0, .int .u8 0, .int .u8 0, .int .u8 0, .int .u8 0, .int .u8 0, .int .u8 0, .int .u8 0, .int .u8 0, .int .u8 0, .int .u8 0, .int .u8 0, .int .u8 0, .int .u8 0, .int .u8 0, .int .u8 0, .int .u8 0, .int .u8 0, .int .u8 0, .int .u8 0, .int .u8 0, .int .u8 0, .int .u8 0, .int .u8 0, .int .u8 0, .int .u8 0, .int .u8 0, .int .u8 0, .int .u8 0, .int .u8 0, .int .u8 0, .int .u8 0, .int .u8 0, .int .u8 0, .int .u8 0, .int .u8 0, .int .u8 0] 257)) wx.heap.size 257 (cs8 (List.replicate 64 0))) := Lib.hid fun wx => Row.new wx _ _ _ rfl
  have hs5 : Hid (X.length = (cs8 (List.replicate 64 0)).length) := Lib.hid (by rw [HXl.out]; simp [cs8])
  have G3 : Hid (∀ w2 w3, Below w.heap.size w w2 → w.heap.size < w2.heap.size → Row w3 w2.heap.size 257 X → Only w2.heap.size (w2.alloc (.cells #[.int .u8 0, .int .u8 0, .int .u8 0, .int .u8 0, .int .u8 0, .int .u8 0, .int .u8 0, .int .u8 0, .int .u8 0, .int .u8 0, .int .u8 0, .int .u8 0, .int .u8 0, .int .u8 0, .int .u8 0, .int .u8 0, .int .u8 0, .int .u8 0, .int .u8 0, .int .u8 0, .int .u8 0, .int .u8 0, .int .u8 0, .int .u8 0, .int .u8 0, .int .u8 0, .int .u8 0, .int .u8 0, .int .u8 0, .int .u8 0, .int .u8 0, .int .u8 0, .int .u8 0, .int .u8 0, .int .u8 0, .int .u8 0, .int .u8 0, .int .u8 0, .int .u8 0, .int .u8 0, .int .u8 0, .int .u8 0, .int .u8 0, .int .u8 0, .int .u8 0, .int .u8 0, .int .u8 0, .int .u8 0, .int .u8 0, .int .u8 0, .int .u8 0, .int .u8 0, .int .u8 0, .int .u8 0, .int .u8 0, .int .u8 0, .int .u8 0, .int .u8 0, .int .u8 0, .int .u8 0, .int .u8 0, .int .u8 0, .int .u8 0, .int .u8 0] 257)) w3 →
      w3.cell? ⟨g, 138, none⟩ = some (.int .i64 64) ∧ Hid (w3.ownsRow base 5 1 v 0 []) ∧ Hid (∀ (j : Nat) (u : Value), (X.take 64)[j]? = some u → w3.cell? ((⟨w2.heap.size, 0, none⟩ : Addr).add j) = some u) ∧ Hid (base ≤ w3.heap.size) ∧ Hid (Below w.heap.size w w3)) := by
    refine Lib.hid fun w2 w3 b2 l2 r3 o3 => ?_
    have hb : Below w2.heap.size w2 w3 := ((Below.refl _ _).alloc (Nat.le_refl _) _).trans (o3.below (Nat.le_refl _))
    have hb3 : Below w.heap.size w w3 := b2.trans (hb.mono b2.size)
    refine ⟨?_, ?_, ?_, ?_, Lib.hid hb3⟩
    · rw [hb3.cell (p := ⟨g, 138, none⟩) HR.out.lt, HR.out.cell, ecell_sz Hx.out, Hsz.out]
    · refine Lib.hid (Hown.out.kept (grown_of_below hb3 none) ?_)
      cases h : v.ownBlock with
      | none => exact Or.inl rfl
      | some k => exact Or.inr (by simp)
    · exact Lib.hid (r3.cells_at 0 (X.take 64) (fun j u hj => by rw [Nat.zero_add]; rw [List.getElem?_take] at hj; split at hj; exact hj; cases hj))
    · exact Lib.hid (Nat.le_trans hbase hb3.size)
  have hsl := fun D wx => run_arr_to (P := Tryz.prog) 257 5 64 Tryz.underlying257 (by kernel_rfl) D 0 64 .i64 64 rfl (by decide) wx
  go_enter Tryz.func275, Tryz.ntmps275
  go_wp2_with (first | (refine wpList_load_row rfl 263 (.tmp 10) rfl g rfl 263 d.cells.toArray (0, 0) _ (HR.out.allocd _) Tryz.underlying263 rfl hs1.out ?_) | (refine wpl_store_row rfl 263 (.tmp 12) (.tmp 11) rfl d.cells rfl w.heap.size rfl 263 _ Z1.out hs2.out hs3.out Hdc.out ?_; intro w1 r1 o1; have G1 := Lib.hid (G.out w1 r1 o1); clear r1 o1) | (go_at_call 278; refine G1.out.mono ?_; rintro e w2 ⟨rfl, b2, l2⟩) | (refine wpl_store_row rfl 257 (.tmp 6) (.tmp 14) rfl X rfl w2.heap.size rfl 257 _ (Z2.out w2) hs5.out hs4.out HX1.out ?_; intro w3 r3 o3; obtain ⟨c3, own3, new3, base3, b3⟩ := G3.out w2 w3 b2.out l2.out r3 o3; clear r3 o3) | (refine wpList_append_own _ rfl (.tmp 15) (.tmp 20) 22 rfl base 5 i0 (.int .u8 0) 1 1 Tryz.underlying22 Hi.out Hz0.out Hz1.out Hz2.out rfl (by decide) v 0 [] rfl own3.out ⟨w2.heap.size, 0, none⟩ 64 64 (X.take 64) rfl HXt.out new3.out HXt1.out (by decide) (by decide) base3.out ?_; intro v4 w4 own4 g4 _; have own4 := Lib.hid own4; have g4 := Lib.hid g4))
  go_ret
  refine ⟨v4, rfl, ?_, grown_trans (grown_of_below b3.out _) g4.out⟩
  have := own4.out
  rwa [Nat.zero_add, List.nil_append] at this
set_option maxRecDepth 100000 in
set_option maxHeartbeats 1000000 in
theorem sum384 (K : List Int) (hK : K.length = 80) (g : Nat) (d : D64) (n : Nat) (w : World)
    (hx : d.x.length = 128) (hsz : d.sz = 48) (hnx : d.nx = n % 128) (hlen : d.len = n) (hn : n ≤ 1099511627776) (hrow : Row w g 263 d.cells) (hkt : Row w 9 385 (cs64 K))
    (base : Nat) (v : Value) (hown : w.ownsRow base 5 1 v 0 []) (hbase : base ≤ w.heap.size) :
    Calls Tryz.prog 275 #[.pointer (some ⟨g, 0, none⟩), v] w fun e w' => ∃ v', e = .returned v' ∧ w'.ownsRow base 5 1 v' 48 ((cs8 (done48 K d n)).take 48) ∧ w.grownBy w' v.ownBlock := by
  have hgl := hrow.lt
  have hkl := hkt.lt
  have hz1 : Tryz.zeroCells263.toList.length = 139 := by kernel_rfl
  have hi1 : (Tryz.prog.info? 263).map (·.size) = some 139 := by kernel_rfl
  have hi2 : (Tryz.prog.info? 257).map (·.size) = some 64 := by kernel_rfl
  have Z1 := Lib.hid (Row.new w Tryz.zeroCells263 263 _ rfl)
  have hs1 : (Tryz.prog.info? 263).map (·.size) = some d.cells.toArray.size := by rw [hi1]; simp [cells_len64 hx]
  have hs2 : d.cells.length = Tryz.zeroCells263.toList.length := by rw [hz1, cells_len64 hx]
  have hs3 : (Tryz.prog.info? 263).map (·.size) = some d.cells.length := by rw [hi1, cells_len64 hx]
  have G : Hid (∀ w1, Row w1 w.heap.size 263 d.cells → Only w.heap.size (w.alloc (.cells Tryz.zeroCells263 263)) w1 →
      Calls Tryz.prog 278 #[.pointer (some ⟨w.heap.size, 0, none⟩)] w1 fun e w2 => e = .returned (.agg (cs8 (done48 K d n)).toArray) ∧ Hid (Below w.heap.size w w2) ∧ Hid (w.heap.size < w2.heap.size)) := by
    refine Lib.hid fun w1 r1 o1 => ?_
    have hb1 : Below w.heap.size w w1 := ((Below.refl _ _).alloc (Nat.le_refl _) _).trans (o1.below (Nat.le_refl _))
    have k1 := hkt.below hb1 hkl
    refine (check384 K hK w.heap.size d n w1 hx hsz hnx hlen hn r1 k1 (by omega)).mono ?_
    intro e w2 ⟨he, r2, b2⟩
    have hl2 := r2.lt
    exact ⟨he, Lib.hid (hb1.trans (b2.below (Nat.le_refl _) (by have := r1.lt; omega))), Lib.hid hl2⟩
  have hdl := done48_len K d n
  obtain ⟨X, hX⟩ : ∃ X, cs8 (done48 K d n) = X := ⟨_, rfl⟩
  have hXl : X.length = 64 := by rw [← hX, length_cs8, hdl]
  have hX1 : ∀ v ∈ X, v.oneCell' = true := by rw [← hX]; exact one_cs8 _
  rw [hX] at G
  rw [hX]
  have hs4 : (Tryz.prog.info? 257).map (·.size) = some X.length := by rw [hi2, hXl]
  have HR := Lib.hid hrow
  have hs1 := Lib.hid hs1
  have hs2 := Lib.hid hs2
  have hs3 := Lib.hid hs3
  have hs4 := Lib.hid hs4
  have HX1 := Lib.hid hX1
  have HXl := Lib.hid hXl
  have HXt : Hid ((X.take 48).length = 48) := Lib.hid (by rw [List.length_take, hXl]; decide)
  have HXt1 : Hid (∀ v ∈ X.take 48, v.oneCell' = true) := Lib.hid fun v hv => hX1 v (List.mem_of_mem_take hv)
  have Hx := Lib.hid hx
  have Hsz := Lib.hid hsz
  have Hown := Lib.hid hown
  have Hdc := Lib.hid (cells_one64 d)
  clear hrow hkt hx hsz hnx hlen hz1 hi1 hi2 hdl hX hXl hX1 hown
  obtain ⟨i0, hi, hz0, hz1, hz2⟩ := info_parts (P := Tryz.prog) (e := 5) (z := .int .u8 0) (size := 1) (bytes := 1) (by kernel_rfl)
  have Hi := Lib.hid hi
  have Hz0 := Lib.hid hz0
  have Hz1 := Lib.hid hz1
  have Hz2 := Lib.hid hz2
  clear hi hz0 hz1 hz2
  have Z2 : Hid (∀ wx : World, Row (wx.alloc (.cells #[.int .u8 0, .int .u8 0, .int .u8 0, .int .u8 0, .int .u8 0, .int .u8 0, .int .u8 0, .int .u8 0, .int .u8 0, .int .u8 0, .int .u8 0, .int .u8 0, .int .u8 0, .int .u8 0, .int .u8 0, .int .u8 0, .int .u8 0, .int .u8 0, .int .u8 0, .int .u8 0, .int .u8 0, .int .u8 0, .int .u8 0, .int .u8 0, .int .u8 0, .int .u8 0, .int .u8 0, .int .u8 0, .int .u8 0, .int .u8 0, .int .u8 0, .int .u8 0, .int .u8 0, .int .u8 0, .int .u8 0, .int .u8 0, .int .u8 0, .int .u8 0, .int .u8 0, .int .u8 0, .int .u8 0, .int .u8 0, .int .u8 0, .int .u8 0, .int .u8 0, .int .u8 0, .int .u8 0, .int .u8 0, .int .u8 0, .int .u8 0, .int .u8 0, .int .u8 0, .int .u8 0, .int .u8 0, .int .u8 0, .int .u8 0, .int .u8 0, .int .u8 0, .int .u8 0, .int .u8 0, .int .u8 0, .int .u8 0, .int .u8 0, .int .u8 0] 257)) wx.heap.size 257 (cs8 (List.replicate 64 0))) := Lib.hid fun wx => Row.new wx _ _ _ rfl
  have hs5 : Hid (X.length = (cs8 (List.replicate 64 0)).length) := Lib.hid (by rw [HXl.out]; simp [cs8])
  have G3 : Hid (∀ w2 w3, Below w.heap.size w w2 → w.heap.size < w2.heap.size → Row w3 w2.heap.size 257 X → Only w2.heap.size (w2.alloc (.cells #[.int .u8 0, .int .u8 0, .int .u8 0, .int .u8 0, .int .u8 0, .int .u8 0, .int .u8 0, .int .u8 0, .int .u8 0, .int .u8 0, .int .u8 0, .int .u8 0, .int .u8 0, .int .u8 0, .int .u8 0, .int .u8 0, .int .u8 0, .int .u8 0, .int .u8 0, .int .u8 0, .int .u8 0, .int .u8 0, .int .u8 0, .int .u8 0, .int .u8 0, .int .u8 0, .int .u8 0, .int .u8 0, .int .u8 0, .int .u8 0, .int .u8 0, .int .u8 0, .int .u8 0, .int .u8 0, .int .u8 0, .int .u8 0, .int .u8 0, .int .u8 0, .int .u8 0, .int .u8 0, .int .u8 0, .int .u8 0, .int .u8 0, .int .u8 0, .int .u8 0, .int .u8 0, .int .u8 0, .int .u8 0, .int .u8 0, .int .u8 0, .int .u8 0, .int .u8 0, .int .u8 0, .int .u8 0, .int .u8 0, .int .u8 0, .int .u8 0, .int .u8 0, .int .u8 0, .int .u8 0, .int .u8 0, .int .u8 0, .int .u8 0, .int .u8 0] 257)) w3 →
      w3.cell? ⟨g, 138, none⟩ = some (.int .i64 48) ∧ Hid (w3.ownsRow base 5 1 v 0 []) ∧ Hid (∀ (j : Nat) (u : Value), (X.take 48)[j]? = some u → w3.cell? ((⟨w2.heap.size, 0, none⟩ : Addr).add j) = some u) ∧ Hid (base ≤ w3.heap.size) ∧ Hid (Below w.heap.size w w3)) := by
    refine Lib.hid fun w2 w3 b2 l2 r3 o3 => ?_
    have hb : Below w2.heap.size w2 w3 := ((Below.refl _ _).alloc (Nat.le_refl _) _).trans (o3.below (Nat.le_refl _))
    have hb3 : Below w.heap.size w w3 := b2.trans (hb.mono b2.size)
    refine ⟨?_, ?_, ?_, ?_, Lib.hid hb3⟩
    · rw [hb3.cell (p := ⟨g, 138, none⟩) HR.out.lt, HR.out.cell, ecell_sz Hx.out, Hsz.out]
    · refine Lib.hid (Hown.out.kept (grown_of_below hb3 none) ?_)
      cases h : v.ownBlock with
      | none => exact Or.inl rfl
      | some k => exact Or.inr (by simp)
    · exact Lib.hid (r3.cells_at 0 (X.take 48) (fun j u hj => by rw [Nat.zero_add]; rw [List.getElem?_take] at hj; split at hj; exact hj; cases hj))
    · exact Lib.hid (Nat.le_trans hbase hb3.size)
  have hsl := fun D wx => run_arr_to (P := Tryz.prog) 257 5 64 Tryz.underlying257 (by kernel_rfl) D 0 48 .i64 48 rfl (by decide) wx
  go_enter Tryz.func275, Tryz.ntmps275
  go_wp2_with (first | (refine wpList_load_row rfl 263 (.tmp 10) rfl g rfl 263 d.cells.toArray (0, 0) _ (HR.out.allocd _) Tryz.underlying263 rfl hs1.out ?_) | (refine wpl_store_row rfl 263 (.tmp 12) (.tmp 11) rfl d.cells rfl w.heap.size rfl 263 _ Z1.out hs2.out hs3.out Hdc.out ?_; intro w1 r1 o1; have G1 := Lib.hid (G.out w1 r1 o1); clear r1 o1) | (go_at_call 278; refine G1.out.mono ?_; rintro e w2 ⟨rfl, b2, l2⟩) | (refine wpl_store_row rfl 257 (.tmp 6) (.tmp 14) rfl X rfl w2.heap.size rfl 257 _ (Z2.out w2) hs5.out hs4.out HX1.out ?_; intro w3 r3 o3; obtain ⟨c3, own3, new3, base3, b3⟩ := G3.out w2 w3 b2.out l2.out r3 o3; clear r3 o3) | (refine wpList_append_own _ rfl (.tmp 15) (.tmp 20) 22 rfl base 5 i0 (.int .u8 0) 1 1 Tryz.underlying22 Hi.out Hz0.out Hz1.out Hz2.out rfl (by decide) v 0 [] rfl own3.out ⟨w2.heap.size, 0, none⟩ 48 64 (X.take 48) rfl HXt.out new3.out HXt1.out (by decide) (by decide) base3.out ?_; intro v4 w4 own4 g4 _; have own4 := Lib.hid own4; have g4 := Lib.hid g4))
  go_ret
  refine ⟨v4, rfl, ?_, grown_trans (grown_of_below b3.out _) g4.out⟩
  have := own4.out
  rwa [Nat.zero_add, List.nil_append] at this
end Go.Proofs.YtaemdppihpefnaaGreatDoor

/- SHA-512 and SHA-384 as hashes behind an interface. -/
namespace Go.Proofs.YtaemdppihpefnaaGreatDoor
open Go.RowKit
set_option linter.unusedVariables false

theorem put64_byt (v : Int) (k : Nat) : Byt (put64 v k) := by
  intro x hx
  obtain ⟨i, _, rfl⟩ := List.mem_map.1 hx
  have h : (256 : Int) ≠ 0 := by decide
  exact ⟨Int.emod_nonneg _ h, Int.emod_lt_of_pos _ (by decide)⟩
theorem setI_byt : ∀ (ys cur : List Int) (o : Nat), Byt cur → Byt ys → Byt (setI cur o ys)
  | [], _, _, h, _ => h
  | y :: ys, cur, o, h, k => by
    refine setI_byt ys _ _ (fun x hx => ?_) (fun x hx => k x (List.mem_cons_of_mem _ hx))
    rcases List.mem_or_eq_of_mem_set hx with h1 | h1
    · exact h x h1
    · rw [h1]; exact k y List.mem_cons_self
theorem dig6_byt (s : S8) : Byt (dig6 s) := by
  unfold dig6
  refine setI_byt _ _ _ (setI_byt _ _ _ (setI_byt _ _ _ (setI_byt _ _ _ (setI_byt _ _ _ (setI_byt _ _ _ ?_ (put64_byt _ _)) (put64_byt _ _)) (put64_byt _ _)) (put64_byt _ _)) (put64_byt _ _)) (put64_byt _ _)
  intro x hx
  rw [(List.mem_replicate.1 hx).2]; decide
theorem dig8_byt (s : S8) : Byt (dig8 s) := setI_byt _ _ _ (setI_byt _ _ _ (dig6_byt s) (put64_byt _ _)) (put64_byt _ _)
theorem byt_take {xs : List Int} (h : Byt xs) (n : Nat) : Byt (xs.take n) := fun x hx => h x (List.mem_of_mem_take hx)
theorem cs8_take (xs : List Int) (n : Nat) : cs8 (xs.take n) = (cs8 xs).take n := by simp [cs8, List.map_take]

theorem cmp512 (g1 g2 : Nat) (c1 c2 : List Value) (w : World) (hne : g1 ≠ g2) (h1 : Row w g1 263 c1) (h2 : Row w g2 263 c2) : (binOp .eql 207 (.iface 211 (.pointer (some ⟨g1, 0, none⟩))) (.iface 211 (.pointer (some ⟨g2, 0, none⟩)))).run Tryz.prog w = .ok (.bool false) w := by
  obtain ⟨i, hi, hc⟩ := Option.map_eq_some_iff.1 (show (Tryz.prog.info? 211).map (·.comparable) = some true by kernel_rfl)
  obtain ⟨j, hj, hz⟩ := Option.map_eq_some_iff.1 (show (Tryz.prog.info? 263).map (·.size) = some 139 by kernel_rfl)
  exact run_eql_two (ms := #[]) ⟨_, Tryz.underlying207⟩ hi hc Tryz.underlying211 hj (by rw [hz]; decide) g1 g2 c1 c2 _ _ w hne h1 h2
theorem mBlock512 (a : Addr) (w : World) : (method 508 211 (.pointer (some a)) "BlockSize").run Tryz.prog w = .ok (273, .pointer (some a)) w := by kernel_rfl
theorem eBlock512 (args : Array Value) (w : World) : (callFunc 273 args).run Tryz.prog w = .ok (.enter 273 args) w :=
  enter_of Tryz.func273 (by kernel_rfl) rfl args w
theorem mWrite512 (a : Addr) (w : World) : (method 508 211 (.pointer (some a)) "Write").run Tryz.prog w = .ok (277, .pointer (some a)) w := by kernel_rfl
theorem eWrite512 (args : Array Value) (w : World) : (callFunc 277 args).run Tryz.prog w = .ok (.enter 277 args) w :=
  enter_of Tryz.func277 (by kernel_rfl) rfl args w
theorem mSum512 (a : Addr) (w : World) : (method 508 211 (.pointer (some a)) "Sum").run Tryz.prog w = .ok (275, .pointer (some a)) w := by kernel_rfl
theorem eSum512 (args : Array Value) (w : World) : (callFunc 275 args).run Tryz.prog w = .ok (.enter 275 args) w :=
  enter_of Tryz.func275 (by kernel_rfl) rfl args w
theorem mReset512 (a : Addr) (w : World) : (method 508 211 (.pointer (some a)) "Reset").run Tryz.prog w = .ok (122, .pointer (some a)) w := by kernel_rfl
theorem eReset512 (args : Array Value) (w : World) : (callFunc 122 args).run Tryz.prog w = .ok (.enter 122 args) w :=
  enter_of Tryz.func122 (by kernel_rfl) rfl args w
theorem naW512 (a : Addr) (w : World) : (nilAhead 508 211 (.pointer (some a)) "Write").run Tryz.prog w = .ok (some false) w := by kernel_rfl
theorem naS512 (a : Addr) (w : World) : (nilAhead 508 211 (.pointer (some a)) "Sum").run Tryz.prog w = .ok (some false) w := by kernel_rfl


theorem new512i (w : World) :
    Calls Tryz.prog 93 #[] w fun e w' => e = .returned (.iface 211 (.pointer (some ⟨w.heap.size, 0, none⟩))) ∧ Row w' w.heap.size 263 (dig64 init64_512 (List.replicate 128 0) 0 0 64) ∧ Below w.heap.size w w' ∧ w'.heap.size = w.heap.size + 1 := by
  have G := Lib.hid (new512 w)
  go_enter Tryz.func93, Tryz.ntmps93
  go_wp2_with (go_at_call 94; refine G.out.mono ?_; rintro e w1 ⟨rfl, r, b, s⟩; have r := Lib.hid r; have b := Lib.hid b; have s := Lib.hid s)
  go_ret
  exact ⟨rfl, r.out, b.out, s.out⟩
theorem eNew512 (args : Array Value) (w : World) : (callFunc 93 args).run Tryz.prog w = .ok (.enter 93 args) w :=
  enter_of Tryz.func93 (by kernel_rfl) rfl args w
def ok512 (s : D64 × Nat) : Prop := s.1.x.length = 128 ∧ s.1.nx = s.2 % 128 ∧ s.1.len = s.2 ∧ s.1.sz = 64

/-- SHA-512, whatever its table holds. -/
def hk512 (K : List Int) (hK : K.length = 80) : HK where
  T := 211
  cT := 263
  St := D64 × Nat
  cells s := s.1.cells
  n s := s.2
  ok := ok512
  init := (⟨init64_512, List.replicate 128 0, 0, 0, 64⟩, 0)
  write s p := (write64 K s.1 p, s.2 + p.length)
  reset s := (⟨init64_512, s.1.x, 0, 0, 64⟩, 0)
  sum s := (done64 K s.1 s.2).take 64
  block := 128
  size := 64
  kg := 9
  kT := 385
  kC := cs64 K
  fNew := 93
  fWrite := 277
  fSum := 275
  fBlock := 273
  fReset := 122
  block_pos := by decide
  block_le := by decide
  size_pos := by decide
  size_le := by decide
  size_block := by decide
  init_ok := ⟨rfl, rfl, rfl, rfl⟩
  init_n := rfl
  write_ok := fun s p ⟨h1, h2, h3, h4⟩ hp hn => by
    refine ⟨⟨write64_x K s.1 p h1 (by omega), ?_, ?_, ?_⟩, rfl⟩
    · show (write64 K s.1 p).nx = (s.2 + p.length) % 128
      rw [write64_nx K s.1 p (by omega), h2]; omega
    · show (write64 K s.1 p).len = ((s.2 + p.length : Nat) : Int)
      rw [write64_len, h3, IntKind.wrap_u64]
      have hn : s.2 + p.length ≤ 1099511627776 := hn
      omega
    · show (write64 K s.1 p).sz = 64
      rw [write64_sz, h4]
  reset_ok := fun s ⟨h1, _, _, _⟩ => ⟨⟨h1, rfl, rfl, rfl⟩, rfl⟩
  sum_len := fun s => by rw [List.length_take, done64_len]; rfl
  sum_byt := fun s => byt_take (dig8_byt _) _
  mBlock := mBlock512
  mWrite := mWrite512
  mSum := mSum512
  mReset := mReset512
  nilAheadW := naW512
  nilAheadS := naS512
  cmp := cmp512
  eNew := eNew512
  eWrite := eWrite512
  eSum := eSum512
  eBlock := eBlock512
  eReset := eReset512
  cnew := new512i
  cwrite := fun g s v p w ⟨h1, h2, h3, _⟩ hr hk hg hb ho hp hn => write512 K hK g s.1 v p w h1 (by omega) hr hk hg hb ho hp
  csum := fun g s w base v ⟨h1, h2, h3, h4⟩ hn hr hk ho hb => by rw [cs8_take]; exact sum512 K hK g s.1 s.2 w h1 h4 h2 h3 hn hr hk base v ho hb
  cblock := blockSize512
  creset := fun g s w ⟨h1, h2, h3, h4⟩ hr => by
    have hr : Row w g 263 (dig64 s.1.s s.1.x s.1.nx s.1.len s.1.sz) := hr
    rw [h4] at hr
    exact reset512 g s.1.s s.1.x s.1.nx s.1.len w h1 hr

theorem new384i (w : World) :
    Calls Tryz.prog 90 #[] w fun e w' => e = .returned (.iface 211 (.pointer (some ⟨w.heap.size, 0, none⟩))) ∧ Row w' w.heap.size 263 (dig64 init64_384 (List.replicate 128 0) 0 0 48) ∧ Below w.heap.size w w' ∧ w'.heap.size = w.heap.size + 1 := by
  have G := Lib.hid (new384 w)
  go_enter Tryz.func90, Tryz.ntmps90
  go_wp2_with (go_at_call 91; refine G.out.mono ?_; rintro e w1 ⟨rfl, r, b, s⟩; have r := Lib.hid r; have b := Lib.hid b; have s := Lib.hid s)
  go_ret
  exact ⟨rfl, r.out, b.out, s.out⟩
theorem eNew384 (args : Array Value) (w : World) : (callFunc 90 args).run Tryz.prog w = .ok (.enter 90 args) w :=
  enter_of Tryz.func90 (by kernel_rfl) rfl args w
def ok384 (s : D64 × Nat) : Prop := s.1.x.length = 128 ∧ s.1.nx = s.2 % 128 ∧ s.1.len = s.2 ∧ s.1.sz = 48

/-- SHA-384, whatever its table holds. -/
def hk384 (K : List Int) (hK : K.length = 80) : HK where
  T := 211
  cT := 263
  St := D64 × Nat
  cells s := s.1.cells
  n s := s.2
  ok := ok384
  init := (⟨init64_384, List.replicate 128 0, 0, 0, 48⟩, 0)
  write s p := (write64 K s.1 p, s.2 + p.length)
  reset s := (⟨init64_384, s.1.x, 0, 0, 48⟩, 0)
  sum s := (done48 K s.1 s.2).take 48
  block := 128
  size := 48
  kg := 9
  kT := 385
  kC := cs64 K
  fNew := 90
  fWrite := 277
  fSum := 275
  fBlock := 273
  fReset := 122
  block_pos := by decide
  block_le := by decide
  size_pos := by decide
  size_le := by decide
  size_block := by decide
  init_ok := ⟨rfl, rfl, rfl, rfl⟩
  init_n := rfl
  write_ok := fun s p ⟨h1, h2, h3, h4⟩ hp hn => by
    refine ⟨⟨write64_x K s.1 p h1 (by omega), ?_, ?_, ?_⟩, rfl⟩
    · show (write64 K s.1 p).nx = (s.2 + p.length) % 128
      rw [write64_nx K s.1 p (by omega), h2]; omega
    · show (write64 K s.1 p).len = ((s.2 + p.length : Nat) : Int)
      rw [write64_len, h3, IntKind.wrap_u64]
      have hn : s.2 + p.length ≤ 1099511627776 := hn
      omega
    · show (write64 K s.1 p).sz = 48
      rw [write64_sz, h4]
  reset_ok := fun s ⟨h1, _, _, _⟩ => ⟨⟨h1, rfl, rfl, rfl⟩, rfl⟩
  sum_len := fun s => by rw [List.length_take, done48_len]; rfl
  sum_byt := fun s => byt_take (dig6_byt _) _
  mBlock := mBlock512
  mWrite := mWrite512
  mSum := mSum512
  mReset := mReset512
  nilAheadW := naW512
  nilAheadS := naS512
  cmp := cmp512
  eNew := eNew384
  eWrite := eWrite512
  eSum := eSum512
  eBlock := eBlock512
  eReset := eReset512
  cnew := new384i
  cwrite := fun g s v p w ⟨h1, h2, h3, _⟩ hr hk hg hb ho hp hn => write512 K hK g s.1 v p w h1 (by omega) hr hk hg hb ho hp
  csum := fun g s w base v ⟨h1, h2, h3, h4⟩ hn hr hk ho hb => by rw [cs8_take]; exact sum384 K hK g s.1 s.2 w h1 h4 h2 h3 hn hr hk base v ho hb
  cblock := blockSize512
  creset := fun g s w ⟨h1, h2, h3, h4⟩ hr => by
    have hr : Row w g 263 (dig64 s.1.s s.1.x s.1.nx s.1.len s.1.sz) := hr
    rw [h4] at hr
    exact reset384 g s.1.s s.1.x s.1.nx s.1.len w h1 hr
end Go.Proofs.YtaemdppihpefnaaGreatDoor
