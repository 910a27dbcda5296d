/- encoding/base64's Decode, with no padding: of what was coded. (Printed by mkdec.py.) -/
import Derived.Test.YtaemdppihpefnaaGreatDoorBsB
namespace Go.Proofs.YtaemdppihpefnaaGreatDoor
open Go.RowKit
set_option linter.unusedVariables false
set_option linter.unusedSimpArgs false

/-- The first n bytes are there. -/
def Dn (xs : List Nat) (n : Nat) (Y : List Int) : Prop := Y.length = xs.length ∧ ∀ j, j < n → Y.getD j 0 = ((xs.getD j 0 : Nat) : Int)
theorem Dn.full {xs : List Nat} {Y : List Int} (h : Dn xs xs.length Y) : Y = bi xs := by
  apply List.ext_getElem
  · rw [h.1, bi_len]
  · intro i h1 h2
    have := h.2 i (by rw [← h.1]; exact h1)
    have hx : i < xs.length := by rw [← h.1]; exact h1
    simpa [List.getD, h1, hx, bi] using this
theorem Dn.setsN {xs : List Nat} {p k : Nat} {Y vs : List Int} (h : Dn xs p Y) (hk : k ≤ vs.length) (hl : p + vs.length ≤ xs.length) (hv : ∀ i, i < k → vs.getD i 0 = ((xs.getD (p + i) 0 : Nat) : Int)) : Dn xs (p + k) (sets Y p vs) := by
  refine ⟨by rw [sets_len]; exact h.1, fun j hj => ?_⟩
  rw [sets_get _ _ _ _ (by rw [h.1]; exact hl)]
  by_cases hp : p ≤ j
  · rw [if_pos ⟨hp, by omega⟩, hv (j - p) (by omega), show p + (j - p) = j by omega]
  · rw [if_neg (by omega)]; exact h.2 j (by omega)
theorem sum8 (x0 x1 x2 x3 x4 x5 : Nat) :
    x0 / 4 * 288230376151711744 + (x0 % 4 * 16 + x1 / 16) * 4503599627370496 + (x1 % 16 * 4 + x2 / 64) * 70368744177664 + x2 % 64 * 1099511627776 + x3 / 4 * 17179869184 + (x3 % 4 * 16 + x4 / 16) * 268435456 + (x4 % 16 * 4 + x5 / 64) * 4194304 + x5 % 64 * 65536 =
      x0 * 72057594037927936 + x1 * 281474976710656 + x2 * 1099511627776 + x3 * 4294967296 + x4 * 16777216 + x5 * 65536 := by omega
theorem sum4 (x0 x1 x2 : Nat) : x0 / 4 * 67108864 + (x0 % 4 * 16 + x1 / 16) * 1048576 + (x1 % 16 * 4 + x2 / 64) * 16384 + x2 % 64 * 256 = x0 * 16777216 + x1 * 65536 + x2 * 256 := by omega
theorem Dn.put8 {xs : List Nat} {p V x0 x1 x2 x3 x4 x5 : Nat} {Y : List Int} (h : Dn xs p Y) (hl : p + 8 ≤ xs.length)
    (h0 : xs.getD p 0 = x0) (h1 : xs.getD (p + 1) 0 = x1) (h2 : xs.getD (p + 2) 0 = x2) (h3 : xs.getD (p + 3) 0 = x3) (h4 : xs.getD (p + 4) 0 = x4) (h5 : xs.getD (p + 5) 0 = x5)
    (b0 : x0 < 256) (b1 : x1 < 256) (b2 : x2 < 256) (b3 : x3 < 256) (b4 : x4 < 256) (b5 : x5 < 256)
    (hV : V = x0 * 72057594037927936 + x1 * 281474976710656 + x2 * 1099511627776 + x3 * 4294967296 + x4 * 16777216 + x5 * 65536) :
    Dn xs (p + 6) (sets Y p [((V / 72057594037927936 % 256 : Nat) : Int), ((V / 281474976710656 % 256 : Nat) : Int), ((V / 1099511627776 % 256 : Nat) : Int), ((V / 4294967296 % 256 : Nat) : Int), ((V / 16777216 % 256 : Nat) : Int), ((V / 65536 % 256 : Nat) : Int), ((V / 256 % 256 : Nat) : Int), ((V % 256 : Nat) : Int)]) := by
  refine h.setsN (by simp) (by simpa using hl) fun i hi => ?_
  have : i = 0 ∨ i = 1 ∨ i = 2 ∨ i = 3 ∨ i = 4 ∨ i = 5 := by omega
  rcases this with rfl | rfl | rfl | rfl | rfl | rfl
  · show ((V / 72057594037927936 % 256 : Nat) : Int) = _
    rw [Nat.add_zero, h0]; omega
  · show ((V / 281474976710656 % 256 : Nat) : Int) = _
    rw [h1]; omega
  · show ((V / 1099511627776 % 256 : Nat) : Int) = _
    rw [h2]; omega
  · show ((V / 4294967296 % 256 : Nat) : Int) = _
    rw [h3]; omega
  · show ((V / 16777216 % 256 : Nat) : Int) = _
    rw [h4]; omega
  · show ((V / 65536 % 256 : Nat) : Int) = _
    rw [h5]; omega
theorem Dn.put4 {xs : List Nat} {p V x0 x1 x2 : Nat} {Y : List Int} (h : Dn xs p Y) (hl : p + 4 ≤ xs.length) (h0 : xs.getD p 0 = x0) (h1 : xs.getD (p + 1) 0 = x1) (h2 : xs.getD (p + 2) 0 = x2)
    (b0 : x0 < 256) (b1 : x1 < 256) (b2 : x2 < 256) (hV : V = x0 * 16777216 + x1 * 65536 + x2 * 256) :
    Dn xs (p + 3) (sets Y p [((V / 16777216 % 256 : Nat) : Int), ((V / 65536 % 256 : Nat) : Int), ((V / 256 % 256 : Nat) : Int), ((V % 256 : Nat) : Int)]) := by
  refine h.setsN (by simp) (by simpa using hl) fun i hi => ?_
  have : i = 0 ∨ i = 1 ∨ i = 2 := by omega
  rcases this with rfl | rfl | rfl
  · show ((V / 16777216 % 256 : Nat) : Int) = _
    rw [Nat.add_zero, h0]; omega
  · show ((V / 65536 % 256 : Nat) : Int) = _
    rw [h1]; omega
  · show ((V / 256 % 256 : Nat) : Int) = _
    rw [h2]; omega
theorem Dn.one {xs : List Nat} {p x : Nat} {Y : List Int} (h : Dn xs p Y) (hl : p < xs.length) (h0 : xs.getD p 0 = x) : Dn xs (p + 1) (Y.set p (x : Int)) :=
  h.setsN (vs := [(x : Int)]) (k := 1) (by simp) (by simp only [List.length_cons, List.length_nil]; omega) (fun i hi => by
    obtain rfl : i = 0 := by omega
    rw [Nat.add_zero, h0]; rfl)
/-- The last bytes. -/
theorem Dn.q4 {xs : List Nat} {p x y z : Nat} {Y : List Int} (h : Dn xs p Y) (hl : p + 3 ≤ xs.length) (h0 : xs.getD p 0 = x) (h1 : xs.getD (p + 1) 0 = y) (h2 : xs.getD (p + 2) 0 = z) : Dn xs (p + 3) (qset 4 p Y x y z) := by
  refine ⟨by simp [qset, h.1], fun j hj => ?_⟩
  have hY := h.1
  show ((((Y.set (p + 2) (z : Int)).set (p + 1) (y : Int)).set p (x : Int))).getD j 0 = _
  by_cases e0 : j = p
  · subst e0; rw [h0]; simp [List.getD, show j < Y.length by omega]
  by_cases e1 : j = p + 1
  · subst e1; rw [h1]; simp [List.getD, List.getElem?_set_ne (show p ≠ p + 1 by omega), show p + 1 < Y.length by omega]
  by_cases e2 : j = p + 2
  · subst e2; rw [h2]; simp [List.getD, List.getElem?_set_ne (show p ≠ p + 2 by omega), List.getElem?_set_ne (show p + 1 ≠ p + 2 by omega), show p + 2 < Y.length by omega]
  · rw [← h.2 j (by omega)]
    simp [List.getD, List.getElem?_set_ne (Ne.symm e0), List.getElem?_set_ne (Ne.symm e1), List.getElem?_set_ne (Ne.symm e2)]
theorem Dn.q3 {xs : List Nat} {p x y z : Nat} {Y : List Int} (h : Dn xs p Y) (hl : p + 2 ≤ xs.length) (h0 : xs.getD p 0 = x) (h1 : xs.getD (p + 1) 0 = y) : Dn xs (p + 2) (qset 3 p Y x y z) := by
  refine ⟨by simp [qset, h.1], fun j hj => ?_⟩
  have hY := h.1
  show ((Y.set (p + 1) (y : Int)).set p (x : Int)).getD j 0 = _
  by_cases e0 : j = p
  · subst e0; rw [h0]; simp [List.getD, show j < Y.length by omega]
  by_cases e1 : j = p + 1
  · subst e1; rw [h1]; simp [List.getD, List.getElem?_set_ne (show p ≠ p + 1 by omega), show p + 1 < Y.length by omega]
  · rw [← h.2 j (by omega)]
    simp [List.getD, List.getElem?_set_ne (Ne.symm e0), List.getElem?_set_ne (Ne.symm e1)]
theorem Dn.q2 {xs : List Nat} {p x y z : Nat} {Y : List Int} (h : Dn xs p Y) (hl : p + 1 ≤ xs.length) (h0 : xs.getD p 0 = x) : Dn xs (p + 1) (qset 2 p Y x y z) := by
  show Dn xs (p + 1) (Y.set p (x : Int))
  exact h.one (by omega) h0

set_option maxRecDepth 100000 in
set_option maxHeartbeats 1000000 in
theorem decode0 (g : Nat) (d : Value) (q : Option Addr) (c : Nat) (w : World) : Calls Tryz.prog 286 #[.pointer (some ⟨g, 0, none⟩), d, .slice q 0 c] w fun e w' => e = .returned (.tuple #[.int .i64 0, .nilIface]) ∧ w' = w := by
  go_enter Tryz.func286, Tryz.ntmps286
  go_wp2_with fail
  go_ret2
  exact ⟨rfl, rfl⟩

set_option maxRecDepth 100000 in
set_option maxHeartbeats 8000000 in
theorem decode (g gd gs os cs : Nat) (cur : List Int) (xs : List Nat) (w : World) (h : Row w g 299 (eC (xl 64) (-1))) (hd : Row w gd 5 (cs8 cur)) (hne : gd ≠ g) (hgs : gs ≠ gd) (hgl : gs < w.heap.size)
    (hc : cur.length = xs.length) (hx : ∀ x ∈ xs, x < 256) (hl : xs.length ≤ 65536) (hpos : 0 < xs.length) (hcs : (B64.enc xs).length ≤ cs) (hs : ∀ i, i < (B64.enc xs).length → w.cell? ⟨gs, os + i, none⟩ = some (.int .u8 ((B64.enc xs).getD i 0 : Nat))) :
    Calls Tryz.prog 286 #[.pointer (some ⟨g, 0, none⟩), .slice (some ⟨gd, 0, none⟩) xs.length xs.length, .slice (some ⟨gs, os, none⟩) (B64.enc xs).length cs] w fun e w' =>
      e = .returned (.tuple #[.int .i64 xs.length, .nilIface]) ∧ Row w' gd 5 (cs8 (bi xs)) ∧ But gd w w' := by
  have hH := Lib.hid h
  have hD := Lib.hid hd
  have HS := Lib.hid hs
  have HX : Hid (∀ i, xs.getD i 0 < 256) := Lib.hid (fun i => by
    by_cases hi : i < xs.length
    · exact hx _ (by simp [List.getD, hi])
    · simp [List.getD, show xs[i]? = none by simp; omega])
  have HL := Lib.hid (B64.enc_len xs)
  generalize hLg : (B64.enc xs).length = L at *
  have HLg := Lib.hid hLg
  have hr1 := Lib.hid (rangeM h)
  have hi := Lib.hid (show (Tryz.prog.info? 297).map (·.size) = some (cs8 ((xl 64).drop 64)).length by rw [show (cs8 ((xl 64).drop 64)).length = 256 by simp [cs8, xl_len]]; kernel_rfl)
  have hu : Tryz.prog.underlying 297 = some (.array 256 5) := by kernel_rfl
  have hL0 : 0 < L := by have := HL.out; omega
  have hL1 : L ≤ 100000 := by have := HL.out; omega
  have hm0 : ¬ (L : Int) = 0 := by omega
  have hm1 : ((L : Int) == 0) = false := by rw [beq_eq_false_iff_ne]; omega
  have HC : Hid (Dn xs 0 cur) := Lib.hid ⟨hc, fun j hj => by omega⟩
  have hg1 : ¬ g = gd := fun h => hne h.symm
  have hg2 : ¬ gd = g := hne
  have hg3 : ¬ gs = gd := hgs
  have hg4 : ¬ gd = gs := fun h => hgs h.symm
  obtain ⟨len, hlen⟩ : ∃ n, xs.length = n := ⟨_, rfl⟩
  have HLEN := Lib.hid hlen
  rw [hlen] at HL hl hpos ⊢
  clear h hd hs hx hLg hc hlen
  go_enter Tryz.func286, Tryz.ntmps286
  go_wp2_with (refine wpList_load_mid rfl 297 (.tmp 23) rfl g 64 rfl (cs8 ((xl 64).drop 64)) _ hr1.out hu rfl hi.out ?_)
  go_loopw [6, 7, 8] (fun nv ev sv wr => ∃ j : Nat, nv = .int .i64 ((6 * j : Nat) : Int) ∧ ev = .nilIface ∧ sv = .int .i64 ((8 * j : Nat) : Int) ∧ 8 * j ≤ L ∧ 6 * j ≤ len ∧ Hid (∃ Y, Row wr gd 5 (cs8 Y) ∧ Dn xs (6 * j) Y) ∧ Hid (But gd w wr)) (fun _ _ sv _ => L - (intOf sv).toNat)
  case atStart => exact ⟨0, rfl, rfl, rfl, by omega, by omega, Lib.hid ⟨cur, hD.out, HC.out⟩, Lib.hid (But.refl _ _)⟩
  case round =>
    obtain ⟨j, rfl, rfl, rfl, hq, hp, hY, hB⟩ := hrel
    have hH1 := Lib.hid (hH.out.but hB.out (Ne.symm hne))
    obtain ⟨q, eq⟩ : ∃ q, 8 * j = q := ⟨_, rfl⟩
    obtain ⟨p, ep⟩ : ∃ p, 6 * j = p := ⟨_, rfl⟩
    have HJ : Hid (8 * j = q ∧ 6 * j = p) := Lib.hid ⟨eq, ep⟩
    rw [eq] at hq ⊢
    rw [ep] at hp hY ⊢
    obtain ⟨La, hLa⟩ : ∃ n, L - q = n := ⟨_, rfl⟩
    obtain ⟨Lb, hLb⟩ : ∃ n, len - p = n := ⟨_, rfl⟩
    have wa : IntKind.i64.wrap ((L : Int) - (q : Int)) = (La : Int) := by rw [IntWalk.i64_in _ (by omega)]; omega
    have wb : IntKind.i64.wrap ((len : Int) - (p : Int)) = (Lb : Int) := by rw [IntWalk.i64_in _ (by omega)]; omega
    have hcase : (8 ≤ La ∧ 8 ≤ Lb) ∨ ¬ 8 ≤ La ∨ (8 ≤ La ∧ ¬ 8 ≤ Lb) := by omega
    rcases hcase with ⟨h8, h9⟩ | h8 | ⟨h8, h9⟩
    · as_aux_lemma =>
        have ca : (8 : Int) ≤ La := by omega
        have cb : (8 : Int) ≤ Lb := by omega
        obtain ⟨x0, hx0⟩ : ∃ x, xs.getD (p) 0 = x := ⟨_, rfl⟩
        have bx0 : x0 < 256 := by rw [← hx0]; exact HX.out _
        obtain ⟨x1, hx1⟩ : ∃ x, xs.getD (p + 1) 0 = x := ⟨_, rfl⟩
        have bx1 : x1 < 256 := by rw [← hx1]; exact HX.out _
        obtain ⟨x2, hx2⟩ : ∃ x, xs.getD (p + 2) 0 = x := ⟨_, rfl⟩
        have bx2 : x2 < 256 := by rw [← hx2]; exact HX.out _
        obtain ⟨x3, hx3⟩ : ∃ x, xs.getD (p + 3) 0 = x := ⟨_, rfl⟩
        have bx3 : x3 < 256 := by rw [← hx3]; exact HX.out _
        obtain ⟨x4, hx4⟩ : ∃ x, xs.getD (p + 4) 0 = x := ⟨_, rfl⟩
        have bx4 : x4 < 256 := by rw [← hx4]; exact HX.out _
        obtain ⟨x5, hx5⟩ : ∃ x, xs.getD (p + 5) 0 = x := ⟨_, rfl⟩
        have bx5 : x5 < 256 := by rw [← hx5]; exact HX.out _
        have E0 := B64.enc_at (2 * j) xs (by have := HLEN.out; omega)
        rw [show 4 * (2 * j) + 1 = q + 1 by omega, show 4 * (2 * j) + 2 = q + 2 by omega, show 4 * (2 * j) + 3 = q + 3 by omega, show 4 * (2 * j) = q by omega, show 3 * (2 * j) + 1 = p + 1 by omega, show 3 * (2 * j) + 2 = p + 2 by omega, show 3 * (2 * j) = p by omega, hx0, hx1, hx2] at E0
        have y0 : x0 / 4 < 64 := by omega
        have s0 : wr.cell? ⟨gs, os + q, none⟩ = some (.int .u8 (B64.lt (x0 / 4) : Nat)) := by rw [show os + q = os + (q) by omega, hB.out.cellAt hgl hgs, HS.out _ (by omega), E0.1]
        have t0 := map_at hH1.out _ y0
        have z0 := (xlfree y0).2.1
        have y1 : x0 % 4 * 16 + x1 / 16 < 64 := by omega
        have s1 : wr.cell? ⟨gs, os + q + 1, none⟩ = some (.int .u8 (B64.lt (x0 % 4 * 16 + x1 / 16) : Nat)) := by rw [show os + q + 1 = os + (q + 1) by omega, hB.out.cellAt hgl hgs, HS.out _ (by omega), E0.2.1]
        have t1 := map_at hH1.out _ y1
        have z1 := (xlfree y1).2.1
        have y2 : x1 % 16 * 4 + x2 / 64 < 64 := by omega
        have s2 : wr.cell? ⟨gs, os + q + 2, none⟩ = some (.int .u8 (B64.lt (x1 % 16 * 4 + x2 / 64) : Nat)) := by rw [show os + q + 2 = os + (q + 2) by omega, hB.out.cellAt hgl hgs, HS.out _ (by omega), E0.2.2.1]
        have t2 := map_at hH1.out _ y2
        have z2 := (xlfree y2).2.1
        have y3 : x2 % 64 < 64 := by omega
        have s3 : wr.cell? ⟨gs, os + q + 3, none⟩ = some (.int .u8 (B64.lt (x2 % 64) : Nat)) := by rw [show os + q + 3 = os + (q + 3) by omega, hB.out.cellAt hgl hgs, HS.out _ (by omega), E0.2.2.2]
        have t3 := map_at hH1.out _ y3
        have z3 := (xlfree y3).2.1
        have E1 := B64.enc_at (2 * j + 1) xs (by have := HLEN.out; omega)
        rw [show 4 * (2 * j + 1) + 1 = q + 5 by omega, show 4 * (2 * j + 1) + 2 = q + 6 by omega, show 4 * (2 * j + 1) + 3 = q + 7 by omega, show 4 * (2 * j + 1) = q + 4 by omega, show 3 * (2 * j + 1) + 1 = p + 4 by omega, show 3 * (2 * j + 1) + 2 = p + 5 by omega, show 3 * (2 * j + 1) = p + 3 by omega, hx3, hx4, hx5] at E1
        have y4 : x3 / 4 < 64 := by omega
        have s4 : wr.cell? ⟨gs, os + q + 4, none⟩ = some (.int .u8 (B64.lt (x3 / 4) : Nat)) := by rw [show os + q + 4 = os + (q + 4) by omega, hB.out.cellAt hgl hgs, HS.out _ (by omega), E1.1]
        have t4 := map_at hH1.out _ y4
        have z4 := (xlfree y4).2.1
        have y5 : x3 % 4 * 16 + x4 / 16 < 64 := by omega
        have s5 : wr.cell? ⟨gs, os + q + 5, none⟩ = some (.int .u8 (B64.lt (x3 % 4 * 16 + x4 / 16) : Nat)) := by rw [show os + q + 5 = os + (q + 5) by omega, hB.out.cellAt hgl hgs, HS.out _ (by omega), E1.2.1]
        have t5 := map_at hH1.out _ y5
        have z5 := (xlfree y5).2.1
        have y6 : x4 % 16 * 4 + x5 / 64 < 64 := by omega
        have s6 : wr.cell? ⟨gs, os + q + 6, none⟩ = some (.int .u8 (B64.lt (x4 % 16 * 4 + x5 / 64) : Nat)) := by rw [show os + q + 6 = os + (q + 6) by omega, hB.out.cellAt hgl hgs, HS.out _ (by omega), E1.2.2.1]
        have t6 := map_at hH1.out _ y6
        have z6 := (xlfree y6).2.1
        have y7 : x5 % 64 < 64 := by omega
        have s7 : wr.cell? ⟨gs, os + q + 7, none⟩ = some (.int .u8 (B64.lt (x5 % 64) : Nat)) := by rw [show os + q + 7 = os + (q + 7) by omega, hB.out.cellAt hgl hgs, HS.out _ (by omega), E1.2.2.2]
        have t7 := map_at hH1.out _ y7
        have z7 := (xlfree y7).2.1
        obtain ⟨V, hV⟩ : ∃ V : Nat, V = x0 * 72057594037927936 + x1 * 281474976710656 + x2 * 1099511627776 + x3 * 4294967296 + x4 * 16777216 + x5 * 65536 := ⟨_, rfl⟩
        have hVs := sum8 x0 x1 x2 x3 x4 x5
        rw [← hV] at hVs
        have HV := Lib.hid hV
        have HXS := Lib.hid (show xs.getD (p) 0 = x0 ∧ x0 < 256 ∧ xs.getD (p + 1) 0 = x1 ∧ x1 < 256 ∧ xs.getD (p + 2) 0 = x2 ∧ x2 < 256 ∧ xs.getD (p + 3) 0 = x3 ∧ x3 < 256 ∧ xs.getD (p + 4) 0 = x4 ∧ x4 < 256 ∧ xs.getD (p + 5) 0 = x5 ∧ x5 < 256 from ⟨hx0, bx0, hx1, bx1, hx2, bx2, hx3, bx3, hx4, bx4, hx5, bx5⟩)
        clear hV E0 E1
        generalize B64.lt (x0 / 4) = l0 at s0 t0 z0
        generalize B64.lt (x0 % 4 * 16 + x1 / 16) = l1 at s1 t1 z1
        generalize B64.lt (x1 % 16 * 4 + x2 / 64) = l2 at s2 t2 z2
        generalize B64.lt (x2 % 64) = l3 at s3 t3 z3
        generalize x0 / 4 = d0 at t0 y0 hVs
        have zi0 : (l0 : Int) < 256 := by omega
        generalize x0 % 4 * 16 + x1 / 16 = d1 at t1 y1 hVs
        have zi1 : (l1 : Int) < 256 := by omega
        generalize x1 % 16 * 4 + x2 / 64 = d2 at t2 y2 hVs
        have zi2 : (l2 : Int) < 256 := by omega
        generalize x2 % 64 = d3 at t3 y3 hVs
        have zi3 : (l3 : Int) < 256 := by omega
        generalize B64.lt (x3 / 4) = l4 at s4 t4 z4
        generalize B64.lt (x3 % 4 * 16 + x4 / 16) = l5 at s5 t5 z5
        generalize B64.lt (x4 % 16 * 4 + x5 / 64) = l6 at s6 t6 z6
        generalize B64.lt (x5 % 64) = l7 at s7 t7 z7
        generalize x3 / 4 = d4 at t4 y4 hVs
        have zi4 : (l4 : Int) < 256 := by omega
        generalize x3 % 4 * 16 + x4 / 16 = d5 at t5 y5 hVs
        have zi5 : (l5 : Int) < 256 := by omega
        generalize x4 % 16 * 4 + x5 / 64 = d6 at t6 y6 hVs
        have zi6 : (l6 : Int) < 256 := by omega
        generalize x5 % 64 = d7 at t7 y7 hVs
        have zi7 : (l7 : Int) < 256 := by omega
        clear hx0 bx0 hx1 bx1 hx2 bx2 hx3 bx3 hx4 bx4 hx5 bx5
        have HA : Hid (∀ wx, Calls Tryz.prog 291 #[.int .u8 (d0 : Int), .int .u8 (d1 : Int), .int .u8 (d2 : Int), .int .u8 (d3 : Int), .int .u8 (d4 : Int), .int .u8 (d5 : Int), .int .u8 (d6 : Int), .int .u8 (d7 : Int)] wx fun r w' => r = .returned (.tuple #[.int .u64 (V : Int), .bool true]) ∧ w' = wx) := Lib.hid (fun wx => by
          have := asm64 d0 d1 d2 d3 d4 d5 d6 d7 y0 y1 y2 y3 y4 y5 y6 y7 wx
          rw [hVs] at this
          exact this)
        clear hVs y0 y1 y2 y3 y4 y5 y6 y7 z0 z1 z2 z3 z4 z5 z6 z7
        obtain ⟨Y, hRY, hDY⟩ := hY.out
        have HRY := Lib.hid hRY
        have HDY := Lib.hid hDY
        have hcq : ¬ cs = q := by omega
        have hlq : (len : Int) - p = Lb := by omega
        have wq : IntKind.i64.wrap ((q : Int) + 8) = (q : Int) + 8 := IntWalk.i64_in _ (by omega)
        have wp : IntKind.i64.wrap ((p : Int) + 6) = (p : Int) + 6 := IntWalk.i64_in _ (by omega)
        have hq8 : (q : Int) + 8 ≤ cs := by omega
        have hqc : (q : Int) ≤ cs := by omega
        have hpl : (p : Int) ≤ len := by omega
        have hqs : (q + 8 - q : Nat) = 8 := by omega
        have hnl : ¬ len = p := by omega
        clear hRY hDY hY
        go_wp2_with fail
        rw [hqs]
        try dsimp only [List.append]
        go_quiet ((go_at_call 291; exact Calls.quiet_of_same (HA.out _)))
        have HRw := Lib.hid (row_drewN HRY.out nq)
        have hB := Lib.hid (show But gd w (wr.drewN nq) from hB.out.trans ⟨rfl, rfl, rfl, Nat.le_refl _, fun _ _ _ => rfl⟩)
        generalize wr.drewN nq = w3 at *
        clear HA
        go_wp2_with fail
        go_at_call 292
        refine (bput64 gd p Lb Lb V Y w3 HRw.out (by omega) (by have := HDY.out.1; have := HLEN.out; omega)).mono ?_
        rintro e w4 ⟨⟨v, rfl⟩, hr4, ho4⟩
        have HY4 : Hid (∃ Y, Row w4 gd 5 (cs8 Y) ∧ Dn xs (p + 6) Y) := Lib.hid (by
          obtain ⟨hx0, bx0, hx1, bx1, hx2, bx2, hx3, bx3, hx4, bx4, hx5, bx5⟩ := HXS.out
          exact ⟨_, hr4, HDY.out.put8 (by have := HLEN.out; omega) hx0 hx1 hx2 hx3 hx4 hx5 bx0 bx1 bx2 bx3 bx4 bx5 HV.out⟩)
        have HB4 := Lib.hid (hB.out.trans (But.of_only ho4))
        clear hr4 ho4
        go_wp2_with fail
        have hj := HJ.out
        refine ⟨⟨j + 1, by rw [show ((6 * (j + 1) : Nat) : Int) = (p : Int) + 6 by omega], rfl, by rw [show ((8 * (j + 1) : Nat) : Int) = (q : Int) + 8 by omega], by omega, by omega, ?_, HB4⟩, by simp [intOf]; omega⟩
        rw [show 6 * (j + 1) = p + 6 by omega]
        exact HY4
    · as_aux_lemma =>
        have nca : decide ((8 : Int) ≤ La) = false := by rw [decide_eq_false_iff_not]; omega
        have nca2 : ¬ (8 : Int) ≤ La := by omega
        go_wp2_with fail
        obtain ⟨wo, rfl⟩ : ∃ wo : World, wo = wr := ⟨_, rfl⟩
        go_loopw [6, 7, 8] (fun nv ev sv wr => ∃ j : Nat, nv = .int .i64 ((3 * j : Nat) : Int) ∧ ev = .nilIface ∧ sv = .int .i64 ((4 * j : Nat) : Int) ∧ 4 * j ≤ L ∧ 3 * j ≤ len ∧ Hid (∃ Y, Row wr gd 5 (cs8 Y) ∧ Dn xs (3 * j) Y) ∧ Hid (But gd w wr)) (fun _ _ sv _ => L - (intOf sv).toNat)
        case atStart => exact ⟨2 * j, by rw [show ((3 * (2 * j) : Nat) : Int) = (p : Int) by have := HJ.out; omega], rfl, by rw [show ((4 * (2 * j) : Nat) : Int) = (q : Int) by have := HJ.out; omega], by have := HJ.out; omega, by have := HJ.out; omega, by rw [show 3 * (2 * j) = p by have := HJ.out; omega]; exact hY, hB⟩
        case round =>
          clear hY hB hH1 wa wb HJ eq ep hLa hLb
          obtain ⟨j, rfl, rfl, rfl, hq, hp, hY, hB⟩ := hrel
          have hH1 := Lib.hid (hH.out.but hB.out (Ne.symm hne))
          obtain ⟨q, eq⟩ : ∃ q, 4 * j = q := ⟨_, rfl⟩
          obtain ⟨p, ep⟩ : ∃ p, 3 * j = p := ⟨_, rfl⟩
          have HJ : Hid (4 * j = q ∧ 3 * j = p) := Lib.hid ⟨eq, ep⟩
          rw [eq] at hq ⊢
          rw [ep] at hp hY ⊢
          obtain ⟨La, hLa⟩ : ∃ n, L - q = n := ⟨_, rfl⟩
          obtain ⟨Lb, hLb⟩ : ∃ n, len - p = n := ⟨_, rfl⟩
          have wa : IntKind.i64.wrap ((L : Int) - (q : Int)) = (La : Int) := by rw [IntWalk.i64_in _ (by omega)]; omega
          have wb : IntKind.i64.wrap ((len : Int) - (p : Int)) = (Lb : Int) := by rw [IntWalk.i64_in _ (by omega)]; omega
          have hcase : (4 ≤ La ∧ 4 ≤ Lb) ∨ ¬ 4 ≤ La ∨ (4 ≤ La ∧ ¬ 4 ≤ Lb) := by omega
          rcases hcase with ⟨h8, h9⟩ | h8 | ⟨h8, h9⟩
          · as_aux_lemma =>
              have ca : (4 : Int) ≤ La := by omega
              have cb : (4 : Int) ≤ Lb := by omega
              obtain ⟨x0, hx0⟩ : ∃ x, xs.getD (p) 0 = x := ⟨_, rfl⟩
              have bx0 : x0 < 256 := by rw [← hx0]; exact HX.out _
              obtain ⟨x1, hx1⟩ : ∃ x, xs.getD (p + 1) 0 = x := ⟨_, rfl⟩
              have bx1 : x1 < 256 := by rw [← hx1]; exact HX.out _
              obtain ⟨x2, hx2⟩ : ∃ x, xs.getD (p + 2) 0 = x := ⟨_, rfl⟩
              have bx2 : x2 < 256 := by rw [← hx2]; exact HX.out _
              have E0 := B64.enc_at (j) xs (by have := HLEN.out; omega)
              rw [show 4 * (j) + 1 = q + 1 by omega, show 4 * (j) + 2 = q + 2 by omega, show 4 * (j) + 3 = q + 3 by omega, show 4 * (j) = q by omega, show 3 * (j) + 1 = p + 1 by omega, show 3 * (j) + 2 = p + 2 by omega, show 3 * (j) = p by omega, hx0, hx1, hx2] at E0
              have y0 : x0 / 4 < 64 := by omega
              have s0 : wr.cell? ⟨gs, os + q, none⟩ = some (.int .u8 (B64.lt (x0 / 4) : Nat)) := by rw [show os + q = os + (q) by omega, hB.out.cellAt hgl hgs, HS.out _ (by omega), E0.1]
              have t0 := map_at hH1.out _ y0
              have z0 := (xlfree y0).2.1
              have y1 : x0 % 4 * 16 + x1 / 16 < 64 := by omega
              have s1 : wr.cell? ⟨gs, os + q + 1, none⟩ = some (.int .u8 (B64.lt (x0 % 4 * 16 + x1 / 16) : Nat)) := by rw [show os + q + 1 = os + (q + 1) by omega, hB.out.cellAt hgl hgs, HS.out _ (by omega), E0.2.1]
              have t1 := map_at hH1.out _ y1
              have z1 := (xlfree y1).2.1
              have y2 : x1 % 16 * 4 + x2 / 64 < 64 := by omega
              have s2 : wr.cell? ⟨gs, os + q + 2, none⟩ = some (.int .u8 (B64.lt (x1 % 16 * 4 + x2 / 64) : Nat)) := by rw [show os + q + 2 = os + (q + 2) by omega, hB.out.cellAt hgl hgs, HS.out _ (by omega), E0.2.2.1]
              have t2 := map_at hH1.out _ y2
              have z2 := (xlfree y2).2.1
              have y3 : x2 % 64 < 64 := by omega
              have s3 : wr.cell? ⟨gs, os + q + 3, none⟩ = some (.int .u8 (B64.lt (x2 % 64) : Nat)) := by rw [show os + q + 3 = os + (q + 3) by omega, hB.out.cellAt hgl hgs, HS.out _ (by omega), E0.2.2.2]
              have t3 := map_at hH1.out _ y3
              have z3 := (xlfree y3).2.1
              obtain ⟨V, hV⟩ : ∃ V : Nat, V = x0 * 16777216 + x1 * 65536 + x2 * 256 := ⟨_, rfl⟩
              have hVs := sum4 x0 x1 x2
              rw [← hV] at hVs
              have HV := Lib.hid hV
              have HXS := Lib.hid (show xs.getD (p) 0 = x0 ∧ x0 < 256 ∧ xs.getD (p + 1) 0 = x1 ∧ x1 < 256 ∧ xs.getD (p + 2) 0 = x2 ∧ x2 < 256 from ⟨hx0, bx0, hx1, bx1, hx2, bx2⟩)
              clear hV E0
              generalize B64.lt (x0 / 4) = l0 at s0 t0 z0
              generalize B64.lt (x0 % 4 * 16 + x1 / 16) = l1 at s1 t1 z1
              generalize B64.lt (x1 % 16 * 4 + x2 / 64) = l2 at s2 t2 z2
              generalize B64.lt (x2 % 64) = l3 at s3 t3 z3
              generalize x0 / 4 = d0 at t0 y0 hVs
              have zi0 : (l0 : Int) < 256 := by omega
              generalize x0 % 4 * 16 + x1 / 16 = d1 at t1 y1 hVs
              have zi1 : (l1 : Int) < 256 := by omega
              generalize x1 % 16 * 4 + x2 / 64 = d2 at t2 y2 hVs
              have zi2 : (l2 : Int) < 256 := by omega
              generalize x2 % 64 = d3 at t3 y3 hVs
              have zi3 : (l3 : Int) < 256 := by omega
              clear hx0 bx0 hx1 bx1 hx2 bx2
              have HA : Hid (∀ wx, Calls Tryz.prog 294 #[.int .u8 (d0 : Int), .int .u8 (d1 : Int), .int .u8 (d2 : Int), .int .u8 (d3 : Int)] wx fun r w' => r = .returned (.tuple #[.int .u32 (V : Int), .bool true]) ∧ w' = wx) := Lib.hid (fun wx => by
                have := asm32 d0 d1 d2 d3 y0 y1 y2 y3 wx
                rw [hVs] at this
                exact this)
              clear hVs y0 y1 y2 y3 z0 z1 z2 z3
              obtain ⟨Y, hRY, hDY⟩ := hY.out
              have HRY := Lib.hid hRY
              have HDY := Lib.hid hDY
              have hcq : ¬ cs = q := by omega
              have hlq : (len : Int) - p = Lb := by omega
              have wq : IntKind.i64.wrap ((q : Int) + 4) = (q : Int) + 4 := IntWalk.i64_in _ (by omega)
              have wp : IntKind.i64.wrap ((p : Int) + 3) = (p : Int) + 3 := IntWalk.i64_in _ (by omega)
              have hq8 : (q : Int) + 4 ≤ cs := by omega
              have hqc : (q : Int) ≤ cs := by omega
              have hpl : (p : Int) ≤ len := by omega
              have hqs : (q + 4 - q : Nat) = 4 := by omega
              have hnl : ¬ len = p := by omega
              clear hRY hDY hY
              go_wp2_with fail
              rw [hqs]
              try dsimp only [List.append]
              go_quiet ((go_at_call 294; exact Calls.quiet_of_same (HA.out _)))
              have HRw := Lib.hid (row_drewN HRY.out nq)
              have hB := Lib.hid (show But gd w (wr.drewN nq) from hB.out.trans ⟨rfl, rfl, rfl, Nat.le_refl _, fun _ _ _ => rfl⟩)
              generalize wr.drewN nq = w3 at *
              clear HA
              go_wp2_with fail
              go_at_call 295
              refine (bput32 gd p Lb Lb V Y w3 HRw.out (by omega) (by have := HDY.out.1; have := HLEN.out; omega)).mono ?_
              rintro e w4 ⟨⟨v, rfl⟩, hr4, ho4⟩
              have HY4 : Hid (∃ Y, Row w4 gd 5 (cs8 Y) ∧ Dn xs (p + 3) Y) := Lib.hid (by
                obtain ⟨hx0, bx0, hx1, bx1, hx2, bx2⟩ := HXS.out
                exact ⟨_, hr4, HDY.out.put4 (by have := HLEN.out; omega) hx0 hx1 hx2 bx0 bx1 bx2 HV.out⟩)
              have HB4 := Lib.hid (hB.out.trans (But.of_only ho4))
              clear hr4 ho4
              go_wp2_with fail
              have hj := HJ.out
              refine ⟨⟨j + 1, by rw [show ((3 * (j + 1) : Nat) : Int) = (p : Int) + 3 by omega], rfl, by rw [show ((4 * (j + 1) : Nat) : Int) = (q : Int) + 4 by omega], by omega, by omega, ?_, HB4⟩, by simp [intOf]; omega⟩
              rw [show 3 * (j + 1) = p + 3 by omega]
              exact HY4
          · as_aux_lemma =>
              have nca : decide ((4 : Int) ≤ La) = false := by rw [decide_eq_false_iff_not]; omega
              have nca2 : ¬ (4 : Int) ≤ La := by omega
              go_wp2_with fail
              obtain ⟨wo, rfl⟩ : ∃ wo : World, wo = wr := ⟨_, rfl⟩
              go_loopw [6, 7, 8] (fun nv ev sv wr => ∃ n s : Nat, nv = .int .i64 (n : Int) ∧ ev = .nilIface ∧ sv = .int .i64 (s : Int) ∧ s ≤ L ∧ ((∃ m, s = 4 * m ∧ n = 3 * m ∧ 3 * m ≤ len) ∨ (s = L ∧ n = len)) ∧ Hid (∃ Y, Row wr gd 5 (cs8 Y) ∧ Dn xs n Y) ∧ Hid (But gd w wr)) (fun _ _ sv _ => L - (intOf sv).toNat)
              case atStart => exact ⟨p, q, rfl, rfl, rfl, by omega, Or.inl ⟨j, by have := HJ.out; omega, by have := HJ.out; omega, by have := HJ.out; omega⟩, hY, hB⟩
              case round =>
                clear hY hB hH1 wa wb HJ
                obtain ⟨n, s, rfl, rfl, rfl, hsL, hor, hY, hB⟩ := hrel
                have hH1 := Lib.hid (hH.out.but hB.out (Ne.symm hne))
                by_cases hs : s < L
                · as_aux_lemma =>
                  have hsI : (s : Int) < L := by omega
                  have hm : ∃ m, s = 4 * m ∧ n = 3 * m ∧ 3 * m ≤ len := by
                    rcases hor with h | h
                    · exact h
                    · omega
                  obtain ⟨m, hm1, hm2, hm3⟩ := hm
                  obtain ⟨Y, hRY, hDY⟩ := hY.out
                  have hHL := HL.out
                  have hlenx := HLEN.out
                  have Q : Hid (∃ r k : Nat, s + r ≤ L ∧ n + k ≤ len ∧ 0 < r ∧ ((∃ m, s + r = 4 * m ∧ n + k = 3 * m ∧ 3 * m ≤ len) ∨ (s + r = L ∧ n + k = len)) ∧
                      ∀ wx, wx = wr → Calls Tryz.prog 293 #[.pointer (some ⟨g, 0, none⟩), .slice (some ⟨gd, n, none⟩) (len - n) (len - n), .slice (some ⟨gs, os, none⟩) L cs, .int .i64 s] wx fun e w' =>
                        e = .returned (.tuple #[.int .i64 ((s + r : Nat) : Int), .int .i64 (k : Int), .nilIface]) ∧ Hid (∃ Y, Row w' gd 5 (cs8 Y) ∧ Dn xs (n + k) Y) ∧ Hid (But gd w w')) := Lib.hid (by
                    have cell : ∀ i, i < L → wr.cell? ⟨gs, os + i, none⟩ = some (.int .u8 ((B64.enc xs).getD i 0 : Nat)) := fun i hi => by rw [hB.out.cellAt hgl hgs]; exact HS.out i hi
                    by_cases h4 : s + 4 ≤ L
                    · have E := B64.enc_at m xs (by omega)
                      rw [← hm1, ← hm2] at E
                      obtain ⟨x, hx⟩ : ∃ x, xs.getD n 0 = x := ⟨_, rfl⟩
                      obtain ⟨y, hy⟩ : ∃ x, xs.getD (n + 1) 0 = x := ⟨_, rfl⟩
                      obtain ⟨z, hz⟩ : ∃ x, xs.getD (n + 2) 0 = x := ⟨_, rfl⟩
                      have bx : x < 256 := by rw [← hx]; exact HX.out _
                      have bY : y < 256 := by rw [← hy]; exact HX.out _
                      have bz : z < 256 := by rw [← hz]; exact HX.out _
                      rw [hx, hy, hz] at E
                      refine ⟨4, 3, by omega, by omega, by omega, Or.inl ⟨m + 1, by omega, by omega, by omega⟩, fun wx hwx => ?_⟩
                      subst hwx
                      refine (quantum g gd n (len - n) (len - n) gs os L cs s 4 (x / 4) (x % 4 * 16 + y / 16) (y % 16 * 4 + z / 64) (z % 64) x y z Y wx hH1.out hRY hne (by omega) (by omega) (by rw [hDY.1]; omega) (by omega) hcs (by omega) (by omega) (by omega) (by omega) bx bY bz (by omega) ?_).mono ?_
                      · intro i hi
                        rw [cell _ (by omega)]
                        have : i = 0 ∨ i = 1 ∨ i = 2 ∨ i = 3 := by omega
                        rcases this with rfl | rfl | rfl | rfl
                        · rw [Nat.add_zero, E.1]; rfl
                        · rw [E.2.1]; rfl
                        · rw [E.2.2.1]; rfl
                        · rw [E.2.2.2]; rfl
                      · rintro e w' ⟨rfl, h2, h3⟩
                        exact ⟨rfl, Lib.hid ⟨_, h2, hDY.q4 (by omega) hx hy hz⟩, Lib.hid (hB.out.trans h3)⟩
                    · by_cases h3 : L = s + 3
                      · have E := B64.enc_two m xs (by omega)
                        rw [← hm1, ← hm2] at E
                        obtain ⟨x, hx⟩ : ∃ x, xs.getD n 0 = x := ⟨_, rfl⟩
                        obtain ⟨y, hy⟩ : ∃ x, xs.getD (n + 1) 0 = x := ⟨_, rfl⟩
                        have bx : x < 256 := by rw [← hx]; exact HX.out _
                        have bY : y < 256 := by rw [← hy]; exact HX.out _
                        rw [hx, hy] at E
                        refine ⟨3, 2, by omega, by omega, by omega, Or.inr ⟨by omega, by omega⟩, fun wx hwx => ?_⟩
                        subst hwx
                        refine (quantum g gd n (len - n) (len - n) gs os L cs s 3 (x / 4) (x % 4 * 16 + y / 16) (y % 16 * 4) 0 x y 0 Y wx hH1.out hRY hne (by omega) (by omega) (by rw [hDY.1]; omega) (by omega) hcs (by omega) (by omega) (by omega) (by omega) bx bY (by omega) (by omega) ?_).mono ?_
                        · intro i hi
                          rw [cell _ (by omega)]
                          have : i = 0 ∨ i = 1 ∨ i = 2 := by omega
                          rcases this with rfl | rfl | rfl
                          · rw [Nat.add_zero, E.1]; rfl
                          · rw [E.2.1]; rfl
                          · rw [E.2.2]; rfl
                        · rintro e w' ⟨rfl, h2, h3⟩
                          exact ⟨rfl, Lib.hid ⟨_, h2, hDY.q3 (by omega) hx hy⟩, Lib.hid (hB.out.trans h3)⟩
                      · have E := B64.enc_one m xs (by omega)
                        rw [← hm1, ← hm2] at E
                        obtain ⟨x, hx⟩ : ∃ x, xs.getD n 0 = x := ⟨_, rfl⟩
                        have bx : x < 256 := by rw [← hx]; exact HX.out _
                        rw [hx] at E
                        refine ⟨2, 1, by omega, by omega, by omega, Or.inr ⟨by omega, by omega⟩, fun wx hwx => ?_⟩
                        subst hwx
                        refine (quantum g gd n (len - n) (len - n) gs os L cs s 2 (x / 4) (x % 4 * 16) 0 0 x 0 0 Y wx hH1.out hRY hne (by omega) (by omega) (by rw [hDY.1]; omega) (by omega) hcs (by omega) (by omega) (by omega) (by omega) bx (by omega) (by omega) (by omega) ?_).mono ?_
                        · intro i hi
                          rw [cell _ (by omega)]
                          have : i = 0 ∨ i = 1 := by omega
                          rcases this with rfl | rfl
                          · rw [Nat.add_zero, E.1]; rfl
                          · rw [E.2]; rfl
                        · rintro e w' ⟨rfl, h2, h3⟩
                          exact ⟨rfl, Lib.hid ⟨_, h2, hDY.q2 (by omega) hx⟩, Lib.hid (hB.out.trans h3)⟩)
                  obtain ⟨r, k, hr1, hk1, hr0, hor2, hcall⟩ := Q.out
                  have HCALL := Lib.hid (hcall wr rfl)
                  have hnl : (n : Int) ≤ len := by omega
                  have hnl2 : ¬ len = n := by omega
                  have wn : IntKind.i64.wrap ((n : Int) + (k : Int)) = (n : Int) + (k : Int) := IntWalk.i64_in _ (by omega)
                  clear hcall Q hRY hDY hY hHL hlenx hm1 hm2 hor
                  go_wp2_with fail
                  go_at_call 293
                  refine HCALL.out.mono ?_
                  rintro e w4 ⟨rfl, HY4, HB4⟩
                  clear HCALL
                  go_wp2_with fail
                  exact ⟨⟨n + k, s + r, by rw [show ((n + k : Nat) : Int) = (n : Int) + k by omega], rfl, rfl, hr1, hor2, HY4, HB4⟩, by simp [intOf]; omega⟩
                · have hsI : ¬ (s : Int) < L := by omega
                  have hnn : n = len := by
                    have hHL := HL.out
                    rcases hor with ⟨m, h1, h2, h3⟩ | ⟨_, h⟩
                    · omega
                    · exact h
                  subst hnn
                  have HYF : Hid (Row wr gd 5 (cs8 (bi xs))) := Lib.hid (by
                    obtain ⟨Y, hRY, hDY⟩ := hY.out
                    rw [← HLEN.out] at hDY
                    rw [← hDY.full]; exact hRY)
                  clear hor hY
                  go_wp2_with fail
                  go_ret2
                  exact ⟨rfl, HYF.out, hB.out⟩
          · as_aux_lemma =>
              have ca : (4 : Int) ≤ La := by omega
              have ncb : decide ((4 : Int) ≤ Lb) = false := by rw [decide_eq_false_iff_not]; omega
              have ncb2 : ¬ (4 : Int) ≤ Lb := by omega
              go_wp2_with fail
              obtain ⟨wo, rfl⟩ : ∃ wo : World, wo = wr := ⟨_, rfl⟩
              go_loopw [6, 7, 8] (fun nv ev sv wr => ∃ n s : Nat, nv = .int .i64 (n : Int) ∧ ev = .nilIface ∧ sv = .int .i64 (s : Int) ∧ s ≤ L ∧ ((∃ m, s = 4 * m ∧ n = 3 * m ∧ 3 * m ≤ len) ∨ (s = L ∧ n = len)) ∧ Hid (∃ Y, Row wr gd 5 (cs8 Y) ∧ Dn xs n Y) ∧ Hid (But gd w wr)) (fun _ _ sv _ => L - (intOf sv).toNat)
              case atStart => exact ⟨p, q, rfl, rfl, rfl, by omega, Or.inl ⟨j, by have := HJ.out; omega, by have := HJ.out; omega, by have := HJ.out; omega⟩, hY, hB⟩
              case round =>
                clear hY hB hH1 wa wb HJ
                obtain ⟨n, s, rfl, rfl, rfl, hsL, hor, hY, hB⟩ := hrel
                have hH1 := Lib.hid (hH.out.but hB.out (Ne.symm hne))
                by_cases hs : s < L
                · as_aux_lemma =>
                  have hsI : (s : Int) < L := by omega
                  have hm : ∃ m, s = 4 * m ∧ n = 3 * m ∧ 3 * m ≤ len := by
                    rcases hor with h | h
                    · exact h
                    · omega
                  obtain ⟨m, hm1, hm2, hm3⟩ := hm
                  obtain ⟨Y, hRY, hDY⟩ := hY.out
                  have hHL := HL.out
                  have hlenx := HLEN.out
                  have Q : Hid (∃ r k : Nat, s + r ≤ L ∧ n + k ≤ len ∧ 0 < r ∧ ((∃ m, s + r = 4 * m ∧ n + k = 3 * m ∧ 3 * m ≤ len) ∨ (s + r = L ∧ n + k = len)) ∧
                      ∀ wx, wx = wr → Calls Tryz.prog 293 #[.pointer (some ⟨g, 0, none⟩), .slice (some ⟨gd, n, none⟩) (len - n) (len - n), .slice (some ⟨gs, os, none⟩) L cs, .int .i64 s] wx fun e w' =>
                        e = .returned (.tuple #[.int .i64 ((s + r : Nat) : Int), .int .i64 (k : Int), .nilIface]) ∧ Hid (∃ Y, Row w' gd 5 (cs8 Y) ∧ Dn xs (n + k) Y) ∧ Hid (But gd w w')) := Lib.hid (by
                    have cell : ∀ i, i < L → wr.cell? ⟨gs, os + i, none⟩ = some (.int .u8 ((B64.enc xs).getD i 0 : Nat)) := fun i hi => by rw [hB.out.cellAt hgl hgs]; exact HS.out i hi
                    by_cases h4 : s + 4 ≤ L
                    · have E := B64.enc_at m xs (by omega)
                      rw [← hm1, ← hm2] at E
                      obtain ⟨x, hx⟩ : ∃ x, xs.getD n 0 = x := ⟨_, rfl⟩
                      obtain ⟨y, hy⟩ : ∃ x, xs.getD (n + 1) 0 = x := ⟨_, rfl⟩
                      obtain ⟨z, hz⟩ : ∃ x, xs.getD (n + 2) 0 = x := ⟨_, rfl⟩
                      have bx : x < 256 := by rw [← hx]; exact HX.out _
                      have bY : y < 256 := by rw [← hy]; exact HX.out _
                      have bz : z < 256 := by rw [← hz]; exact HX.out _
                      rw [hx, hy, hz] at E
                      refine ⟨4, 3, by omega, by omega, by omega, Or.inl ⟨m + 1, by omega, by omega, by omega⟩, fun wx hwx => ?_⟩
                      subst hwx
                      refine (quantum g gd n (len - n) (len - n) gs os L cs s 4 (x / 4) (x % 4 * 16 + y / 16) (y % 16 * 4 + z / 64) (z % 64) x y z Y wx hH1.out hRY hne (by omega) (by omega) (by rw [hDY.1]; omega) (by omega) hcs (by omega) (by omega) (by omega) (by omega) bx bY bz (by omega) ?_).mono ?_
                      · intro i hi
                        rw [cell _ (by omega)]
                        have : i = 0 ∨ i = 1 ∨ i = 2 ∨ i = 3 := by omega
                        rcases this with rfl | rfl | rfl | rfl
                        · rw [Nat.add_zero, E.1]; rfl
                        · rw [E.2.1]; rfl
                        · rw [E.2.2.1]; rfl
                        · rw [E.2.2.2]; rfl
                      · rintro e w' ⟨rfl, h2, h3⟩
                        exact ⟨rfl, Lib.hid ⟨_, h2, hDY.q4 (by omega) hx hy hz⟩, Lib.hid (hB.out.trans h3)⟩
                    · by_cases h3 : L = s + 3
                      · have E := B64.enc_two m xs (by omega)
                        rw [← hm1, ← hm2] at E
                        obtain ⟨x, hx⟩ : ∃ x, xs.getD n 0 = x := ⟨_, rfl⟩
                        obtain ⟨y, hy⟩ : ∃ x, xs.getD (n + 1) 0 = x := ⟨_, rfl⟩
                        have bx : x < 256 := by rw [← hx]; exact HX.out _
                        have bY : y < 256 := by rw [← hy]; exact HX.out _
                        rw [hx, hy] at E
                        refine ⟨3, 2, by omega, by omega, by omega, Or.inr ⟨by omega, by omega⟩, fun wx hwx => ?_⟩
                        subst hwx
                        refine (quantum g gd n (len - n) (len - n) gs os L cs s 3 (x / 4) (x % 4 * 16 + y / 16) (y % 16 * 4) 0 x y 0 Y wx hH1.out hRY hne (by omega) (by omega) (by rw [hDY.1]; omega) (by omega) hcs (by omega) (by omega) (by omega) (by omega) bx bY (by omega) (by omega) ?_).mono ?_
                        · intro i hi
                          rw [cell _ (by omega)]
                          have : i = 0 ∨ i = 1 ∨ i = 2 := by omega
                          rcases this with rfl | rfl | rfl
                          · rw [Nat.add_zero, E.1]; rfl
                          · rw [E.2.1]; rfl
                          · rw [E.2.2]; rfl
                        · rintro e w' ⟨rfl, h2, h3⟩
                          exact ⟨rfl, Lib.hid ⟨_, h2, hDY.q3 (by omega) hx hy⟩, Lib.hid (hB.out.trans h3)⟩
                      · have E := B64.enc_one m xs (by omega)
                        rw [← hm1, ← hm2] at E
                        obtain ⟨x, hx⟩ : ∃ x, xs.getD n 0 = x := ⟨_, rfl⟩
                        have bx : x < 256 := by rw [← hx]; exact HX.out _
                        rw [hx] at E
                        refine ⟨2, 1, by omega, by omega, by omega, Or.inr ⟨by omega, by omega⟩, fun wx hwx => ?_⟩
                        subst hwx
                        refine (quantum g gd n (len - n) (len - n) gs os L cs s 2 (x / 4) (x % 4 * 16) 0 0 x 0 0 Y wx hH1.out hRY hne (by omega) (by omega) (by rw [hDY.1]; omega) (by omega) hcs (by omega) (by omega) (by omega) (by omega) bx (by omega) (by omega) (by omega) ?_).mono ?_
                        · intro i hi
                          rw [cell _ (by omega)]
                          have : i = 0 ∨ i = 1 := by omega
                          rcases this with rfl | rfl
                          · rw [Nat.add_zero, E.1]; rfl
                          · rw [E.2]; rfl
                        · rintro e w' ⟨rfl, h2, h3⟩
                          exact ⟨rfl, Lib.hid ⟨_, h2, hDY.q2 (by omega) hx⟩, Lib.hid (hB.out.trans h3)⟩)
                  obtain ⟨r, k, hr1, hk1, hr0, hor2, hcall⟩ := Q.out
                  have HCALL := Lib.hid (hcall wr rfl)
                  have hnl : (n : Int) ≤ len := by omega
                  have hnl2 : ¬ len = n := by omega
                  have wn : IntKind.i64.wrap ((n : Int) + (k : Int)) = (n : Int) + (k : Int) := IntWalk.i64_in _ (by omega)
                  clear hcall Q hRY hDY hY hHL hlenx hm1 hm2 hor
                  go_wp2_with fail
                  go_at_call 293
                  refine HCALL.out.mono ?_
                  rintro e w4 ⟨rfl, HY4, HB4⟩
                  clear HCALL
                  go_wp2_with fail
                  exact ⟨⟨n + k, s + r, by rw [show ((n + k : Nat) : Int) = (n : Int) + k by omega], rfl, rfl, hr1, hor2, HY4, HB4⟩, by simp [intOf]; omega⟩
                · have hsI : ¬ (s : Int) < L := by omega
                  have hnn : n = len := by
                    have hHL := HL.out
                    rcases hor with ⟨m, h1, h2, h3⟩ | ⟨_, h⟩
                    · omega
                    · exact h
                  subst hnn
                  have HYF : Hid (Row wr gd 5 (cs8 (bi xs))) := Lib.hid (by
                    obtain ⟨Y, hRY, hDY⟩ := hY.out
                    rw [← HLEN.out] at hDY
                    rw [← hDY.full]; exact hRY)
                  clear hor hY
                  go_wp2_with fail
                  go_ret2
                  exact ⟨rfl, HYF.out, hB.out⟩
    · as_aux_lemma =>
        have ca : (8 : Int) ≤ La := by omega
        have ncb : decide ((8 : Int) ≤ Lb) = false := by rw [decide_eq_false_iff_not]; omega
        have ncb2 : ¬ (8 : Int) ≤ Lb := by omega
        go_wp2_with fail
        obtain ⟨wo, rfl⟩ : ∃ wo : World, wo = wr := ⟨_, rfl⟩
        go_loopw [6, 7, 8] (fun nv ev sv wr => ∃ j : Nat, nv = .int .i64 ((3 * j : Nat) : Int) ∧ ev = .nilIface ∧ sv = .int .i64 ((4 * j : Nat) : Int) ∧ 4 * j ≤ L ∧ 3 * j ≤ len ∧ Hid (∃ Y, Row wr gd 5 (cs8 Y) ∧ Dn xs (3 * j) Y) ∧ Hid (But gd w wr)) (fun _ _ sv _ => L - (intOf sv).toNat)
        case atStart => exact ⟨2 * j, by rw [show ((3 * (2 * j) : Nat) : Int) = (p : Int) by have := HJ.out; omega], rfl, by rw [show ((4 * (2 * j) : Nat) : Int) = (q : Int) by have := HJ.out; omega], by have := HJ.out; omega, by have := HJ.out; omega, by rw [show 3 * (2 * j) = p by have := HJ.out; omega]; exact hY, hB⟩
        case round =>
          clear hY hB hH1 wa wb HJ eq ep hLa hLb
          obtain ⟨j, rfl, rfl, rfl, hq, hp, hY, hB⟩ := hrel
          have hH1 := Lib.hid (hH.out.but hB.out (Ne.symm hne))
          obtain ⟨q, eq⟩ : ∃ q, 4 * j = q := ⟨_, rfl⟩
          obtain ⟨p, ep⟩ : ∃ p, 3 * j = p := ⟨_, rfl⟩
          have HJ : Hid (4 * j = q ∧ 3 * j = p) := Lib.hid ⟨eq, ep⟩
          rw [eq] at hq ⊢
          rw [ep] at hp hY ⊢
          obtain ⟨La, hLa⟩ : ∃ n, L - q = n := ⟨_, rfl⟩
          obtain ⟨Lb, hLb⟩ : ∃ n, len - p = n := ⟨_, rfl⟩
          have wa : IntKind.i64.wrap ((L : Int) - (q : Int)) = (La : Int) := by rw [IntWalk.i64_in _ (by omega)]; omega
          have wb : IntKind.i64.wrap ((len : Int) - (p : Int)) = (Lb : Int) := by rw [IntWalk.i64_in _ (by omega)]; omega
          have hcase : (4 ≤ La ∧ 4 ≤ Lb) ∨ ¬ 4 ≤ La ∨ (4 ≤ La ∧ ¬ 4 ≤ Lb) := by omega
          rcases hcase with ⟨h8, h9⟩ | h8 | ⟨h8, h9⟩
          · as_aux_lemma =>
              have ca : (4 : Int) ≤ La := by omega
              have cb : (4 : Int) ≤ Lb := by omega
              obtain ⟨x0, hx0⟩ : ∃ x, xs.getD (p) 0 = x := ⟨_, rfl⟩
              have bx0 : x0 < 256 := by rw [← hx0]; exact HX.out _
              obtain ⟨x1, hx1⟩ : ∃ x, xs.getD (p + 1) 0 = x := ⟨_, rfl⟩
              have bx1 : x1 < 256 := by rw [← hx1]; exact HX.out _
              obtain ⟨x2, hx2⟩ : ∃ x, xs.getD (p + 2) 0 = x := ⟨_, rfl⟩
              have bx2 : x2 < 256 := by rw [← hx2]; exact HX.out _
              have E0 := B64.enc_at (j) xs (by have := HLEN.out; omega)
              rw [show 4 * (j) + 1 = q + 1 by omega, show 4 * (j) + 2 = q + 2 by omega, show 4 * (j) + 3 = q + 3 by omega, show 4 * (j) = q by omega, show 3 * (j) + 1 = p + 1 by omega, show 3 * (j) + 2 = p + 2 by omega, show 3 * (j) = p by omega, hx0, hx1, hx2] at E0
              have y0 : x0 / 4 < 64 := by omega
              have s0 : wr.cell? ⟨gs, os + q, none⟩ = some (.int .u8 (B64.lt (x0 / 4) : Nat)) := by rw [show os + q = os + (q) by omega, hB.out.cellAt hgl hgs, HS.out _ (by omega), E0.1]
              have t0 := map_at hH1.out _ y0
              have z0 := (xlfree y0).2.1
              have y1 : x0 % 4 * 16 + x1 / 16 < 64 := by omega
              have s1 : wr.cell? ⟨gs, os + q + 1, none⟩ = some (.int .u8 (B64.lt (x0 % 4 * 16 + x1 / 16) : Nat)) := by rw [show os + q + 1 = os + (q + 1) by omega, hB.out.cellAt hgl hgs, HS.out _ (by omega), E0.2.1]
              have t1 := map_at hH1.out _ y1
              have z1 := (xlfree y1).2.1
              have y2 : x1 % 16 * 4 + x2 / 64 < 64 := by omega
              have s2 : wr.cell? ⟨gs, os + q + 2, none⟩ = some (.int .u8 (B64.lt (x1 % 16 * 4 + x2 / 64) : Nat)) := by rw [show os + q + 2 = os + (q + 2) by omega, hB.out.cellAt hgl hgs, HS.out _ (by omega), E0.2.2.1]
              have t2 := map_at hH1.out _ y2
              have z2 := (xlfree y2).2.1
              have y3 : x2 % 64 < 64 := by omega
              have s3 : wr.cell? ⟨gs, os + q + 3, none⟩ = some (.int .u8 (B64.lt (x2 % 64) : Nat)) := by rw [show os + q + 3 = os + (q + 3) by omega, hB.out.cellAt hgl hgs, HS.out _ (by omega), E0.2.2.2]
              have t3 := map_at hH1.out _ y3
              have z3 := (xlfree y3).2.1
              obtain ⟨V, hV⟩ : ∃ V : Nat, V = x0 * 16777216 + x1 * 65536 + x2 * 256 := ⟨_, rfl⟩
              have hVs := sum4 x0 x1 x2
              rw [← hV] at hVs
              have HV := Lib.hid hV
              have HXS := Lib.hid (show xs.getD (p) 0 = x0 ∧ x0 < 256 ∧ xs.getD (p + 1) 0 = x1 ∧ x1 < 256 ∧ xs.getD (p + 2) 0 = x2 ∧ x2 < 256 from ⟨hx0, bx0, hx1, bx1, hx2, bx2⟩)
              clear hV E0
              generalize B64.lt (x0 / 4) = l0 at s0 t0 z0
              generalize B64.lt (x0 % 4 * 16 + x1 / 16) = l1 at s1 t1 z1
              generalize B64.lt (x1 % 16 * 4 + x2 / 64) = l2 at s2 t2 z2
              generalize B64.lt (x2 % 64) = l3 at s3 t3 z3
              generalize x0 / 4 = d0 at t0 y0 hVs
              have zi0 : (l0 : Int) < 256 := by omega
              generalize x0 % 4 * 16 + x1 / 16 = d1 at t1 y1 hVs
              have zi1 : (l1 : Int) < 256 := by omega
              generalize x1 % 16 * 4 + x2 / 64 = d2 at t2 y2 hVs
              have zi2 : (l2 : Int) < 256 := by omega
              generalize x2 % 64 = d3 at t3 y3 hVs
              have zi3 : (l3 : Int) < 256 := by omega
              clear hx0 bx0 hx1 bx1 hx2 bx2
              have HA : Hid (∀ wx, Calls Tryz.prog 294 #[.int .u8 (d0 : Int), .int .u8 (d1 : Int), .int .u8 (d2 : Int), .int .u8 (d3 : Int)] wx fun r w' => r = .returned (.tuple #[.int .u32 (V : Int), .bool true]) ∧ w' = wx) := Lib.hid (fun wx => by
                have := asm32 d0 d1 d2 d3 y0 y1 y2 y3 wx
                rw [hVs] at this
                exact this)
              clear hVs y0 y1 y2 y3 z0 z1 z2 z3
              obtain ⟨Y, hRY, hDY⟩ := hY.out
              have HRY := Lib.hid hRY
              have HDY := Lib.hid hDY
              have hcq : ¬ cs = q := by omega
              have hlq : (len : Int) - p = Lb := by omega
              have wq : IntKind.i64.wrap ((q : Int) + 4) = (q : Int) + 4 := IntWalk.i64_in _ (by omega)
              have wp : IntKind.i64.wrap ((p : Int) + 3) = (p : Int) + 3 := IntWalk.i64_in _ (by omega)
              have hq8 : (q : Int) + 4 ≤ cs := by omega
              have hqc : (q : Int) ≤ cs := by omega
              have hpl : (p : Int) ≤ len := by omega
              have hqs : (q + 4 - q : Nat) = 4 := by omega
              have hnl : ¬ len = p := by omega
              clear hRY hDY hY
              go_wp2_with fail
              rw [hqs]
              try dsimp only [List.append]
              go_quiet ((go_at_call 294; exact Calls.quiet_of_same (HA.out _)))
              have HRw := Lib.hid (row_drewN HRY.out nq)
              have hB := Lib.hid (show But gd w (wr.drewN nq) from hB.out.trans ⟨rfl, rfl, rfl, Nat.le_refl _, fun _ _ _ => rfl⟩)
              generalize wr.drewN nq = w3 at *
              clear HA
              go_wp2_with fail
              go_at_call 295
              refine (bput32 gd p Lb Lb V Y w3 HRw.out (by omega) (by have := HDY.out.1; have := HLEN.out; omega)).mono ?_
              rintro e w4 ⟨⟨v, rfl⟩, hr4, ho4⟩
              have HY4 : Hid (∃ Y, Row w4 gd 5 (cs8 Y) ∧ Dn xs (p + 3) Y) := Lib.hid (by
                obtain ⟨hx0, bx0, hx1, bx1, hx2, bx2⟩ := HXS.out
                exact ⟨_, hr4, HDY.out.put4 (by have := HLEN.out; omega) hx0 hx1 hx2 bx0 bx1 bx2 HV.out⟩)
              have HB4 := Lib.hid (hB.out.trans (But.of_only ho4))
              clear hr4 ho4
              go_wp2_with fail
              have hj := HJ.out
              refine ⟨⟨j + 1, by rw [show ((3 * (j + 1) : Nat) : Int) = (p : Int) + 3 by omega], rfl, by rw [show ((4 * (j + 1) : Nat) : Int) = (q : Int) + 4 by omega], by omega, by omega, ?_, HB4⟩, by simp [intOf]; omega⟩
              rw [show 3 * (j + 1) = p + 3 by omega]
              exact HY4
          · as_aux_lemma =>
              have nca : decide ((4 : Int) ≤ La) = false := by rw [decide_eq_false_iff_not]; omega
              have nca2 : ¬ (4 : Int) ≤ La := by omega
              go_wp2_with fail
              obtain ⟨wo, rfl⟩ : ∃ wo : World, wo = wr := ⟨_, rfl⟩
              go_loopw [6, 7, 8] (fun nv ev sv wr => ∃ n s : Nat, nv = .int .i64 (n : Int) ∧ ev = .nilIface ∧ sv = .int .i64 (s : Int) ∧ s ≤ L ∧ ((∃ m, s = 4 * m ∧ n = 3 * m ∧ 3 * m ≤ len) ∨ (s = L ∧ n = len)) ∧ Hid (∃ Y, Row wr gd 5 (cs8 Y) ∧ Dn xs n Y) ∧ Hid (But gd w wr)) (fun _ _ sv _ => L - (intOf sv).toNat)
              case atStart => exact ⟨p, q, rfl, rfl, rfl, by omega, Or.inl ⟨j, by have := HJ.out; omega, by have := HJ.out; omega, by have := HJ.out; omega⟩, hY, hB⟩
              case round =>
                clear hY hB hH1 wa wb HJ
                obtain ⟨n, s, rfl, rfl, rfl, hsL, hor, hY, hB⟩ := hrel
                have hH1 := Lib.hid (hH.out.but hB.out (Ne.symm hne))
                by_cases hs : s < L
                · as_aux_lemma =>
                  have hsI : (s : Int) < L := by omega
                  have hm : ∃ m, s = 4 * m ∧ n = 3 * m ∧ 3 * m ≤ len := by
                    rcases hor with h | h
                    · exact h
                    · omega
                  obtain ⟨m, hm1, hm2, hm3⟩ := hm
                  obtain ⟨Y, hRY, hDY⟩ := hY.out
                  have hHL := HL.out
                  have hlenx := HLEN.out
                  have Q : Hid (∃ r k : Nat, s + r ≤ L ∧ n + k ≤ len ∧ 0 < r ∧ ((∃ m, s + r = 4 * m ∧ n + k = 3 * m ∧ 3 * m ≤ len) ∨ (s + r = L ∧ n + k = len)) ∧
                      ∀ wx, wx = wr → Calls Tryz.prog 293 #[.pointer (some ⟨g, 0, none⟩), .slice (some ⟨gd, n, none⟩) (len - n) (len - n), .slice (some ⟨gs, os, none⟩) L cs, .int .i64 s] wx fun e w' =>
                        e = .returned (.tuple #[.int .i64 ((s + r : Nat) : Int), .int .i64 (k : Int), .nilIface]) ∧ Hid (∃ Y, Row w' gd 5 (cs8 Y) ∧ Dn xs (n + k) Y) ∧ Hid (But gd w w')) := Lib.hid (by
                    have cell : ∀ i, i < L → wr.cell? ⟨gs, os + i, none⟩ = some (.int .u8 ((B64.enc xs).getD i 0 : Nat)) := fun i hi => by rw [hB.out.cellAt hgl hgs]; exact HS.out i hi
                    by_cases h4 : s + 4 ≤ L
                    · have E := B64.enc_at m xs (by omega)
                      rw [← hm1, ← hm2] at E
                      obtain ⟨x, hx⟩ : ∃ x, xs.getD n 0 = x := ⟨_, rfl⟩
                      obtain ⟨y, hy⟩ : ∃ x, xs.getD (n + 1) 0 = x := ⟨_, rfl⟩
                      obtain ⟨z, hz⟩ : ∃ x, xs.getD (n + 2) 0 = x := ⟨_, rfl⟩
                      have bx : x < 256 := by rw [← hx]; exact HX.out _
                      have bY : y < 256 := by rw [← hy]; exact HX.out _
                      have bz : z < 256 := by rw [← hz]; exact HX.out _
                      rw [hx, hy, hz] at E
                      refine ⟨4, 3, by omega, by omega, by omega, Or.inl ⟨m + 1, by omega, by omega, by omega⟩, fun wx hwx => ?_⟩
                      subst hwx
                      refine (quantum g gd n (len - n) (len - n) gs os L cs s 4 (x / 4) (x % 4 * 16 + y / 16) (y % 16 * 4 + z / 64) (z % 64) x y z Y wx hH1.out hRY hne (by omega) (by omega) (by rw [hDY.1]; omega) (by omega) hcs (by omega) (by omega) (by omega) (by omega) bx bY bz (by omega) ?_).mono ?_
                      · intro i hi
                        rw [cell _ (by omega)]
                        have : i = 0 ∨ i = 1 ∨ i = 2 ∨ i = 3 := by omega
                        rcases this with rfl | rfl | rfl | rfl
                        · rw [Nat.add_zero, E.1]; rfl
                        · rw [E.2.1]; rfl
                        · rw [E.2.2.1]; rfl
                        · rw [E.2.2.2]; rfl
                      · rintro e w' ⟨rfl, h2, h3⟩
                        exact ⟨rfl, Lib.hid ⟨_, h2, hDY.q4 (by omega) hx hy hz⟩, Lib.hid (hB.out.trans h3)⟩
                    · by_cases h3 : L = s + 3
                      · have E := B64.enc_two m xs (by omega)
                        rw [← hm1, ← hm2] at E
                        obtain ⟨x, hx⟩ : ∃ x, xs.getD n 0 = x := ⟨_, rfl⟩
                        obtain ⟨y, hy⟩ : ∃ x, xs.getD (n + 1) 0 = x := ⟨_, rfl⟩
                        have bx : x < 256 := by rw [← hx]; exact HX.out _
                        have bY : y < 256 := by rw [← hy]; exact HX.out _
                        rw [hx, hy] at E
                        refine ⟨3, 2, by omega, by omega, by omega, Or.inr ⟨by omega, by omega⟩, fun wx hwx => ?_⟩
                        subst hwx
                        refine (quantum g gd n (len - n) (len - n) gs os L cs s 3 (x / 4) (x % 4 * 16 + y / 16) (y % 16 * 4) 0 x y 0 Y wx hH1.out hRY hne (by omega) (by omega) (by rw [hDY.1]; omega) (by omega) hcs (by omega) (by omega) (by omega) (by omega) bx bY (by omega) (by omega) ?_).mono ?_
                        · intro i hi
                          rw [cell _ (by omega)]
                          have : i = 0 ∨ i = 1 ∨ i = 2 := by omega
                          rcases this with rfl | rfl | rfl
                          · rw [Nat.add_zero, E.1]; rfl
                          · rw [E.2.1]; rfl
                          · rw [E.2.2]; rfl
                        · rintro e w' ⟨rfl, h2, h3⟩
                          exact ⟨rfl, Lib.hid ⟨_, h2, hDY.q3 (by omega) hx hy⟩, Lib.hid (hB.out.trans h3)⟩
                      · have E := B64.enc_one m xs (by omega)
                        rw [← hm1, ← hm2] at E
                        obtain ⟨x, hx⟩ : ∃ x, xs.getD n 0 = x := ⟨_, rfl⟩
                        have bx : x < 256 := by rw [← hx]; exact HX.out _
                        rw [hx] at E
                        refine ⟨2, 1, by omega, by omega, by omega, Or.inr ⟨by omega, by omega⟩, fun wx hwx => ?_⟩
                        subst hwx
                        refine (quantum g gd n (len - n) (len - n) gs os L cs s 2 (x / 4) (x % 4 * 16) 0 0 x 0 0 Y wx hH1.out hRY hne (by omega) (by omega) (by rw [hDY.1]; omega) (by omega) hcs (by omega) (by omega) (by omega) (by omega) bx (by omega) (by omega) (by omega) ?_).mono ?_
                        · intro i hi
                          rw [cell _ (by omega)]
                          have : i = 0 ∨ i = 1 := by omega
                          rcases this with rfl | rfl
                          · rw [Nat.add_zero, E.1]; rfl
                          · rw [E.2]; rfl
                        · rintro e w' ⟨rfl, h2, h3⟩
                          exact ⟨rfl, Lib.hid ⟨_, h2, hDY.q2 (by omega) hx⟩, Lib.hid (hB.out.trans h3)⟩)
                  obtain ⟨r, k, hr1, hk1, hr0, hor2, hcall⟩ := Q.out
                  have HCALL := Lib.hid (hcall wr rfl)
                  have hnl : (n : Int) ≤ len := by omega
                  have hnl2 : ¬ len = n := by omega
                  have wn : IntKind.i64.wrap ((n : Int) + (k : Int)) = (n : Int) + (k : Int) := IntWalk.i64_in _ (by omega)
                  clear hcall Q hRY hDY hY hHL hlenx hm1 hm2 hor
                  go_wp2_with fail
                  go_at_call 293
                  refine HCALL.out.mono ?_
                  rintro e w4 ⟨rfl, HY4, HB4⟩
                  clear HCALL
                  go_wp2_with fail
                  exact ⟨⟨n + k, s + r, by rw [show ((n + k : Nat) : Int) = (n : Int) + k by omega], rfl, rfl, hr1, hor2, HY4, HB4⟩, by simp [intOf]; omega⟩
                · have hsI : ¬ (s : Int) < L := by omega
                  have hnn : n = len := by
                    have hHL := HL.out
                    rcases hor with ⟨m, h1, h2, h3⟩ | ⟨_, h⟩
                    · omega
                    · exact h
                  subst hnn
                  have HYF : Hid (Row wr gd 5 (cs8 (bi xs))) := Lib.hid (by
                    obtain ⟨Y, hRY, hDY⟩ := hY.out
                    rw [← HLEN.out] at hDY
                    rw [← hDY.full]; exact hRY)
                  clear hor hY
                  go_wp2_with fail
                  go_ret2
                  exact ⟨rfl, HYF.out, hB.out⟩
          · as_aux_lemma =>
              have ca : (4 : Int) ≤ La := by omega
              have ncb : decide ((4 : Int) ≤ Lb) = false := by rw [decide_eq_false_iff_not]; omega
              have ncb2 : ¬ (4 : Int) ≤ Lb := by omega
              go_wp2_with fail
              obtain ⟨wo, rfl⟩ : ∃ wo : World, wo = wr := ⟨_, rfl⟩
              go_loopw [6, 7, 8] (fun nv ev sv wr => ∃ n s : Nat, nv = .int .i64 (n : Int) ∧ ev = .nilIface ∧ sv = .int .i64 (s : Int) ∧ s ≤ L ∧ ((∃ m, s = 4 * m ∧ n = 3 * m ∧ 3 * m ≤ len) ∨ (s = L ∧ n = len)) ∧ Hid (∃ Y, Row wr gd 5 (cs8 Y) ∧ Dn xs n Y) ∧ Hid (But gd w wr)) (fun _ _ sv _ => L - (intOf sv).toNat)
              case atStart => exact ⟨p, q, rfl, rfl, rfl, by omega, Or.inl ⟨j, by have := HJ.out; omega, by have := HJ.out; omega, by have := HJ.out; omega⟩, hY, hB⟩
              case round =>
                clear hY hB hH1 wa wb HJ
                obtain ⟨n, s, rfl, rfl, rfl, hsL, hor, hY, hB⟩ := hrel
                have hH1 := Lib.hid (hH.out.but hB.out (Ne.symm hne))
                by_cases hs : s < L
                · as_aux_lemma =>
                  have hsI : (s : Int) < L := by omega
                  have hm : ∃ m, s = 4 * m ∧ n = 3 * m ∧ 3 * m ≤ len := by
                    rcases hor with h | h
                    · exact h
                    · omega
                  obtain ⟨m, hm1, hm2, hm3⟩ := hm
                  obtain ⟨Y, hRY, hDY⟩ := hY.out
                  have hHL := HL.out
                  have hlenx := HLEN.out
                  have Q : Hid (∃ r k : Nat, s + r ≤ L ∧ n + k ≤ len ∧ 0 < r ∧ ((∃ m, s + r = 4 * m ∧ n + k = 3 * m ∧ 3 * m ≤ len) ∨ (s + r = L ∧ n + k = len)) ∧
                      ∀ wx, wx = wr → Calls Tryz.prog 293 #[.pointer (some ⟨g, 0, none⟩), .slice (some ⟨gd, n, none⟩) (len - n) (len - n), .slice (some ⟨gs, os, none⟩) L cs, .int .i64 s] wx fun e w' =>
                        e = .returned (.tuple #[.int .i64 ((s + r : Nat) : Int), .int .i64 (k : Int), .nilIface]) ∧ Hid (∃ Y, Row w' gd 5 (cs8 Y) ∧ Dn xs (n + k) Y) ∧ Hid (But gd w w')) := Lib.hid (by
                    have cell : ∀ i, i < L → wr.cell? ⟨gs, os + i, none⟩ = some (.int .u8 ((B64.enc xs).getD i 0 : Nat)) := fun i hi => by rw [hB.out.cellAt hgl hgs]; exact HS.out i hi
                    by_cases h4 : s + 4 ≤ L
                    · have E := B64.enc_at m xs (by omega)
                      rw [← hm1, ← hm2] at E
                      obtain ⟨x, hx⟩ : ∃ x, xs.getD n 0 = x := ⟨_, rfl⟩
                      obtain ⟨y, hy⟩ : ∃ x, xs.getD (n + 1) 0 = x := ⟨_, rfl⟩
                      obtain ⟨z, hz⟩ : ∃ x, xs.getD (n + 2) 0 = x := ⟨_, rfl⟩
                      have bx : x < 256 := by rw [← hx]; exact HX.out _
                      have bY : y < 256 := by rw [← hy]; exact HX.out _
                      have bz : z < 256 := by rw [← hz]; exact HX.out _
                      rw [hx, hy, hz] at E
                      refine ⟨4, 3, by omega, by omega, by omega, Or.inl ⟨m + 1, by omega, by omega, by omega⟩, fun wx hwx => ?_⟩
                      subst hwx
                      refine (quantum g gd n (len - n) (len - n) gs os L cs s 4 (x / 4) (x % 4 * 16 + y / 16) (y % 16 * 4 + z / 64) (z % 64) x y z Y wx hH1.out hRY hne (by omega) (by omega) (by rw [hDY.1]; omega) (by omega) hcs (by omega) (by omega) (by omega) (by omega) bx bY bz (by omega) ?_).mono ?_
                      · intro i hi
                        rw [cell _ (by omega)]
                        have : i = 0 ∨ i = 1 ∨ i = 2 ∨ i = 3 := by omega
                        rcases this with rfl | rfl | rfl | rfl
                        · rw [Nat.add_zero, E.1]; rfl
                        · rw [E.2.1]; rfl
                        · rw [E.2.2.1]; rfl
                        · rw [E.2.2.2]; rfl
                      · rintro e w' ⟨rfl, h2, h3⟩
                        exact ⟨rfl, Lib.hid ⟨_, h2, hDY.q4 (by omega) hx hy hz⟩, Lib.hid (hB.out.trans h3)⟩
                    · by_cases h3 : L = s + 3
                      · have E := B64.enc_two m xs (by omega)
                        rw [← hm1, ← hm2] at E
                        obtain ⟨x, hx⟩ : ∃ x, xs.getD n 0 = x := ⟨_, rfl⟩
                        obtain ⟨y, hy⟩ : ∃ x, xs.getD (n + 1) 0 = x := ⟨_, rfl⟩
                        have bx : x < 256 := by rw [← hx]; exact HX.out _
                        have bY : y < 256 := by rw [← hy]; exact HX.out _
                        rw [hx, hy] at E
                        refine ⟨3, 2, by omega, by omega, by omega, Or.inr ⟨by omega, by omega⟩, fun wx hwx => ?_⟩
                        subst hwx
                        refine (quantum g gd n (len - n) (len - n) gs os L cs s 3 (x / 4) (x % 4 * 16 + y / 16) (y % 16 * 4) 0 x y 0 Y wx hH1.out hRY hne (by omega) (by omega) (by rw [hDY.1]; omega) (by omega) hcs (by omega) (by omega) (by omega) (by omega) bx bY (by omega) (by omega) ?_).mono ?_
                        · intro i hi
                          rw [cell _ (by omega)]
                          have : i = 0 ∨ i = 1 ∨ i = 2 := by omega
                          rcases this with rfl | rfl | rfl
                          · rw [Nat.add_zero, E.1]; rfl
                          · rw [E.2.1]; rfl
                          · rw [E.2.2]; rfl
                        · rintro e w' ⟨rfl, h2, h3⟩
                          exact ⟨rfl, Lib.hid ⟨_, h2, hDY.q3 (by omega) hx hy⟩, Lib.hid (hB.out.trans h3)⟩
                      · have E := B64.enc_one m xs (by omega)
                        rw [← hm1, ← hm2] at E
                        obtain ⟨x, hx⟩ : ∃ x, xs.getD n 0 = x := ⟨_, rfl⟩
                        have bx : x < 256 := by rw [← hx]; exact HX.out _
                        rw [hx] at E
                        refine ⟨2, 1, by omega, by omega, by omega, Or.inr ⟨by omega, by omega⟩, fun wx hwx => ?_⟩
                        subst hwx
                        refine (quantum g gd n (len - n) (len - n) gs os L cs s 2 (x / 4) (x % 4 * 16) 0 0 x 0 0 Y wx hH1.out hRY hne (by omega) (by omega) (by rw [hDY.1]; omega) (by omega) hcs (by omega) (by omega) (by omega) (by omega) bx (by omega) (by omega) (by omega) ?_).mono ?_
                        · intro i hi
                          rw [cell _ (by omega)]
                          have : i = 0 ∨ i = 1 := by omega
                          rcases this with rfl | rfl
                          · rw [Nat.add_zero, E.1]; rfl
                          · rw [E.2]; rfl
                        · rintro e w' ⟨rfl, h2, h3⟩
                          exact ⟨rfl, Lib.hid ⟨_, h2, hDY.q2 (by omega) hx⟩, Lib.hid (hB.out.trans h3)⟩)
                  obtain ⟨r, k, hr1, hk1, hr0, hor2, hcall⟩ := Q.out
                  have HCALL := Lib.hid (hcall wr rfl)
                  have hnl : (n : Int) ≤ len := by omega
                  have hnl2 : ¬ len = n := by omega
                  have wn : IntKind.i64.wrap ((n : Int) + (k : Int)) = (n : Int) + (k : Int) := IntWalk.i64_in _ (by omega)
                  clear hcall Q hRY hDY hY hHL hlenx hm1 hm2 hor
                  go_wp2_with fail
                  go_at_call 293
                  refine HCALL.out.mono ?_
                  rintro e w4 ⟨rfl, HY4, HB4⟩
                  clear HCALL
                  go_wp2_with fail
                  exact ⟨⟨n + k, s + r, by rw [show ((n + k : Nat) : Int) = (n : Int) + k by omega], rfl, rfl, hr1, hor2, HY4, HB4⟩, by simp [intOf]; omega⟩
                · have hsI : ¬ (s : Int) < L := by omega
                  have hnn : n = len := by
                    have hHL := HL.out
                    rcases hor with ⟨m, h1, h2, h3⟩ | ⟨_, h⟩
                    · omega
                    · exact h
                  subst hnn
                  have HYF : Hid (Row wr gd 5 (cs8 (bi xs))) := Lib.hid (by
                    obtain ⟨Y, hRY, hDY⟩ := hY.out
                    rw [← HLEN.out] at hDY
                    rw [← hDY.full]; exact hRY)
                  clear hor hY
                  go_wp2_with fail
                  go_ret2
                  exact ⟨rfl, HYF.out, hB.out⟩
end Go.Proofs.YtaemdppihpefnaaGreatDoor
