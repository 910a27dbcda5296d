/- base64.Guess, of letters; the decoder behind its interface; impl.Decoded. -/
import Derived.Test.YtaemdppihpefnaaGreatDoorBsC
import Derived.Test.YtaemdppihpefnaaGreatDoorBsB
import Derived.Test.YtaemdppihpefnaaGreatDoorHashKit
namespace Go.Proofs.YtaemdppihpefnaaGreatDoor
open Go.RowKit
set_option linter.unusedVariables false

theorem lets_ok : (B64.letters.all fun c => decide (c ≠ 43 ∧ c ≠ 46 ∧ c ≠ 47 ∧ c ≠ 61 ∧ c < 256)) = true := by decide +kernel
theorem lets {c : Nat} (h : c ∈ B64.letters) : c ≠ 43 ∧ c ≠ 46 ∧ c ≠ 47 ∧ c ≠ 61 ∧ c < 256 := by
  have := List.all_eq_true.1 lets_ok c h
  simpa using this
theorem bi_byt {xs : List Nat} (h : ∀ x ∈ xs, x < 256) : Byt (bi xs) := by
  intro x hx
  obtain ⟨n, hn, rfl⟩ := List.mem_map.1 hx
  have := h n hn
  omega

set_option maxRecDepth 100000 in
set_option maxHeartbeats 1000000 in
theorem suffix61 (v v2 : Value) (xs : List Nat) (w : World) (h : Bs w v (bi xs)) (h2 : Bs w v2 [61]) (hx : ∀ x ∈ xs, x ∈ B64.letters) (hl : xs.length ≤ 1000000) :
    Calls Tryz.prog 303 #[v, v2] w fun e w' => e = .returned (.bool false) ∧ w' = w := by
  obtain ⟨p, c, rfl, hc, -, -⟩ := id h
  obtain ⟨p2, c2, rfl, hc2, -, -⟩ := id h2
  have H := Lib.hid h
  have H2 := Lib.hid h2
  have hlen := bi_len xs
  rw [hlen] at hc H ⊢
  have h1 : ([61] : List Int).length = 1 := rfl
  rw [h1] at H2 ⊢
  clear h h2
  rcases Nat.eq_zero_or_pos xs.length with h0 | h0
  · rw [h0]
    go_enter Tryz.func303, Tryz.ntmps303
    go_wp2_with fail
    go_ret
    exact ⟨rfl, rfl⟩
  · obtain ⟨m, hm⟩ : ∃ m, xs.length = m + 1 := ⟨xs.length - 1, by omega⟩
    rw [hm] at H hc ⊢
    obtain ⟨b, o, rfl, hcell⟩ := H.out.at (by omega)
    have hw : IntKind.i64.wrap ((m : Int) + 1 - 1) = (m : Int) := by rw [show (m : Int) + 1 - 1 = m by omega]; exact IntWalk.i64_in _ (by omega)
    have hcm : ¬ c = m := by omega
    have hE : Hid (Calls Tryz.prog 12 #[.slice (some ⟨b, o + m, none⟩) 1 (c - m), .slice p2 1 c2] w fun e w' => e = .returned (.bool false) ∧ w' = w) := Lib.hid (by
      have hb1 := H.out.cut m (m + 1) (by omega) (Nat.le_refl _)
      rw [show cutA (some (⟨b, o, none⟩ : Addr)) m c = some ⟨b, o + m, none⟩ by unfold cutA; rw [if_neg hcm]; simp [Go.WideShapes.add_plain], show m + 1 - m = 1 by omega] at hb1
      refine (equal _ _ _ _ w hb1 H2.out (fun x hx2 => bi_byt (fun y hy => (lets (hx y hy)).2.2.2.2) x (List.mem_of_mem_take (List.mem_of_mem_drop hx2))) (by intro x hx; simp at hx; omega)).mono ?_
      rintro e w' ⟨rfl, rfl⟩
      refine ⟨?_, rfl⟩
      congr 2
      rw [decide_eq_false_iff_not]
      intro hcon
      have h3 : (bi xs).getD m 0 = 61 := by
        have := congrArg (fun l : List Int => l.getD 0 0) hcon
        simpa [List.getD, List.getElem?_drop, List.getElem?_take] using this
      rw [bi_get] at h3
      have h4 := (lets (hx (xs.getD m 0) (by simp [List.getD, hm]))).2.2.2.1
      omega)
    clear hcell H H2
    go_enter Tryz.func303, Tryz.ntmps303
    go_wp2_with fail
    go_at_call 12
    refine hE.out.mono ?_
    rintro e w ⟨rfl, rfl⟩
    go_wp2_with fail
    go_ret
    exact ⟨rfl, rfl⟩

set_option maxRecDepth 100000 in
set_option maxHeartbeats 1000000 in
theorem zzStd (v : Value) (xs : List Nat) (w : World) (h : Bs w v (bi xs)) (hx : ∀ x ∈ xs, x ∈ B64.letters) (hl : xs.length ≤ 1000000) :
    Calls Tryz.prog 304 #[v] w fun e w' => e = .returned (.bool false) ∧ w' = w := by
  obtain ⟨p, c, rfl, hc, -, -⟩ := id h
  have H := Lib.hid h
  have HX := Lib.hid hx
  have hlen := bi_len xs
  rw [hlen] at hc H ⊢
  clear h hx hlen
  go_enter Tryz.func304, Tryz.ntmps304
  go_wp2_with fail
  go_loopw [7] (fun i wr => ∃ k : Nat, k ≤ xs.length ∧ i = .int .i64 k ∧ wr = w) (fun i _ => xs.length - (intOf i).toNat)
  case atStart => exact ⟨0, by omega, rfl, rfl⟩
  case round =>
    obtain ⟨k, hk, rfl, rfl⟩ := hrel
    by_cases hkn : k < xs.length
    · obtain ⟨b, o, rfl, hcell⟩ := H.out.at (by omega)
      have c0 := hcell k hkn
      rw [bi_get] at c0
      have hm := lets (HX.out (xs.getD k 0) (by simp [List.getD, hkn]))
      generalize xs.getD k 0 = y at c0 hm
      have y1 : ((y : Int) == 43) = false := by rw [beq_eq_false_iff_ne]; omega
      have y2 : ((y : Int) == 47) = false := by rw [beq_eq_false_iff_ne]; omega
      have y3 : ¬ (y : Int) = 43 := by omega
      have y4 : ¬ (y : Int) = 47 := by omega
      have hkI : (k : Int) < xs.length := by omega
      have hkw : IntKind.i64.wrap ((k : Int) + 1) = (k : Int) + 1 := IntWalk.i64_in _ (by omega)
      clear hcell hm
      go_wp2_with fail
      exact ⟨⟨k + 1, by omega, by go_num, trivial⟩, by simp [intOf]; omega⟩
    · obtain rfl : k = xs.length := by omega
      go_wp2_with fail
      go_ret
      exact ⟨rfl, rfl⟩

set_option maxRecDepth 100000 in
set_option maxHeartbeats 1000000 in
theorem guess (v : Value) (xs : List Nat) (w : World) (h : Bs w v (bi xs)) (hx : ∀ x ∈ xs, x ∈ B64.letters) (hl : xs.length ≤ 1000000) :
    Calls Tryz.prog 298 #[v] w fun e w' => e = .returned (.int .i64 4) ∧ Below w.heap.size w w' := by
  have hb : Below w.heap.size w (w.alloc (.cells (cs8 [61]).toArray 5)) := (Below.refl _ _).alloc (Nat.le_refl _) _
  have HS := Lib.hid (suffix61 v (.slice (some ⟨w.heap.size, 0, none⟩) 1 1) xs (w.alloc (.cells (cs8 [61]).toArray 5)) (h.below hb) (Bs.row (Row.alloc w (cs8 [61]) 5) 0 1 [61] (Nat.le_refl _) (fun i hi => by rw [Nat.zero_add, get_cs8 _ _ hi])) hx hl)
  have HZ := Lib.hid (zzStd v xs (w.alloc (.cells (cs8 [61]).toArray 5)) (h.below hb) hx hl)
  have HB := Lib.hid hb
  have dn : ∀ (b : Bool) (wx : World), (Op.unary .not (.bool b)).run Tryz.prog wx = .ok (.bool (!b)) wx := fun _ _ => rfl
  clear hb h hx
  go_enter Tryz.func298, Tryz.ntmps298
  go_wp2_with fail
  go_at_call 303
  refine HS.out.mono ?_
  rintro e w1 ⟨rfl, rfl⟩
  go_wp2_with fail
  go_at_call 304
  refine HZ.out.mono ?_
  rintro e w2 ⟨rfl, rfl⟩
  go_wp2_with fail
  go_ret
  exact ⟨rfl, HB.out⟩
end Go.Proofs.YtaemdppihpefnaaGreatDoor

/- base64.Decode by its guess, of what was coded; impl.Decoded. -/
namespace Go.Proofs.YtaemdppihpefnaaGreatDoor
open Go.RowKit
set_option linter.unusedVariables false

theorem mDec (w : World) : (method 508 219 (.agg #[]) "Decode").run Tryz.prog w = .ok (297, .agg #[]) w := by kernel_rfl
theorem eDec (args : Array Value) (w : World) : (callFunc 297 args).run Tryz.prog w = .ok (.enter 297 args) w :=
  enter_of2 Tryz.func297 (by kernel_rfl) rfl args w

theorem run_make8 (n : Nat) (hn : n ≤ 1000000) : ∀ wx : World, (Instr.makeSlice 22 (.int .i64 n) (.int .i64 n)).run Tryz.prog wx = .ok (.slice (some ⟨wx.heap.size, 0, none⟩) n n) (wx.alloc (.cells (cs8 (List.replicate n 0)).toArray 5)) := fun wx => by
  have h := run_makeN Tryz.prog 22 5 (.int .u8 0) 1 Tryz.underlying22 (by kernel_rfl) rfl n (by omega) (by unfold maxLen; omega) wx
  rw [h]
  simp [cs8]

set_option maxRecDepth 100000 in
set_option maxHeartbeats 2000000 in
theorem decodeD (vs : Value) (xs : List Nat) (w : World) (h : Bs w vs (bi (B64.enc xs))) (hx : ∀ x ∈ xs, x < 256) (hl : xs.length ≤ 65536) :
    Calls Tryz.prog 297 #[.agg #[], vs] w fun e w' => (∃ v, e = .returned (.tuple #[v, .nilIface]) ∧ Bs w' v (bi xs)) ∧ Below w.heap.size w w' := by
  obtain ⟨p, c, rfl, hc, -, -⟩ := id h
  have hEL := B64.enc_len xs
  have HX := Lib.hid hx
  have H := Lib.hid h
  have hlt := B64.enc_letters xs hx
  obtain ⟨w1, hw1⟩ : ∃ w1 : World, w1 = w.alloc (.cells #[] 219) := ⟨_, rfl⟩
  have hb1 : Below w.heap.size w w1 := by rw [hw1]; exact (Below.refl _ _).alloc (Nat.le_refl _) _
  have HB1 := Lib.hid hb1
  have HG := Lib.hid (guess _ (B64.enc xs) w1 (h.below hb1) hlt (by omega))
  have hlen := bi_len (B64.enc xs)
  rw [hlen] at hc H HG ⊢
  have HL := Lib.hid (show (B64.enc xs).length / 4 * 3 + (B64.enc xs).length % 4 * 6 / 8 = xs.length by omega)
  generalize hLg : (B64.enc xs).length = L at *
  have HLg := Lib.hid hLg
  have HW1 := Lib.hid hw1
  obtain ⟨len, hlx⟩ : ∃ n, xs.length = n := ⟨_, rfl⟩
  have HLX := Lib.hid hlx
  have hmk := run_make8 len (by omega)
  have hL2 : L ≤ 100000 := by omega
  have hlen2 : len ≤ 65536 := by omega
  clear h hx hlt hw1 hlen hEL hLg hlx hl hb1
  go_enter Tryz.func297, Tryz.ntmps297
  go_wp2_with fail
  rw [← HW1.out]
  go_at_call 298
  refine HG.out.mono ?_
  rintro e w2 ⟨rfl, hb2⟩
  have HB2 := Lib.hid (HB1.out.trans (hb2.mono HB1.out.size))
  have HR := Lib.hid (rawURL w2)
  clear hb2 HG HW1
  go_wp2_with fail
  go_at_call 95
  refine HR.out.mono ?_
  rintro e w3 ⟨⟨g, rfl, hg, hr⟩, hb3⟩
  have HB3 := Lib.hid (HB2.out.trans (hb3.mono HB2.out.size))
  have HD := Lib.hid (decLen g L (xl 64) w3 hr (xl_len 64) (by omega))
  rw [HL.out, HLX.out] at HD
  have HRW := Lib.hid hr
  clear hr hb3 hg HR
  go_wp2_with fail
  go_at_call 287
  refine HD.out.mono ?_
  rintro e w3 ⟨rfl, rfl⟩
  clear HD
  obtain ⟨w4, hw4⟩ : ∃ w4 : World, w4 = w3.alloc (.cells (cs8 (List.replicate len 0)).toArray 5) := ⟨_, rfl⟩
  have hb4 : Below w3.heap.size w3 w4 := by rw [hw4]; exact (Below.refl _ _).alloc (Nat.le_refl _) _
  have HB4 := Lib.hid (HB3.out.trans (hb4.mono HB3.out.size))
  have HN4 : Hid (Row w4 w3.heap.size 5 (cs8 (List.replicate len 0))) := Lib.hid (by rw [hw4]; exact Row.alloc _ _ _)
  have HE4 := Lib.hid (HRW.out.below hb4 HRW.out.lt)
  have HC : Hid (Calls Tryz.prog 286 #[.pointer (some ⟨g, 0, none⟩), .slice (some ⟨w3.heap.size, 0, none⟩) len len, .slice p L c] w4 fun e w' =>
      e = .returned (.tuple #[.int .i64 len, .nilIface]) ∧ Hid (Row w' w3.heap.size 5 (cs8 (bi xs))) ∧ Hid (Below w.heap.size w w')) := Lib.hid (by
    rcases Nat.eq_zero_or_pos len with h0 | h0
    · have hxs : xs = [] := List.eq_nil_of_length_eq_zero (by rw [HLX.out]; exact h0)
      have hL0 : L = 0 := by rw [← HLg.out, hxs]; rfl
      rw [hL0, h0]
      refine (decode0 g _ p c w4).mono ?_
      rintro e w' ⟨rfl, rfl⟩
      refine ⟨rfl, Lib.hid ?_, HB4⟩
      have := HN4.out
      rw [h0] at this
      rw [hxs]; exact this
    · have hpos : 0 < L := by have := HL.out; have := HLX.out; omega
      obtain ⟨gs, os, rfl, hcell⟩ := (H.out.below HB3.out : Bs w3 _ _).at hpos
      have hgl : gs < w3.heap.size := World.block_lt_of_cell? w3 _ (hcell 0 hpos)
      have hlg := HLg.out
      have hlx := HLX.out
      have := decode g w3.heap.size gs os c (List.replicate len 0) xs w4 HE4.out HN4.out (by have := HRW.out.lt; omega) (by omega) (Nat.lt_of_lt_of_le hgl hb4.size) (by simp [hlx]) HX.out (by omega) (by omega) (by rw [hlg]; omega)
        (fun i hi => by rw [hb4.cell (p := ⟨gs, os + i, none⟩) hgl, hcell i (by omega), bi_get])
      rw [hlx, hlg] at this
      refine this.mono ?_
      rintro e w' ⟨rfl, h2, h3⟩
      exact ⟨rfl, Lib.hid h2, Lib.hid (HB3.out.trans (((hb4.mono HB3.out.size).trans (h3.below HB3.out.size (by have := hb4.size; omega)))))⟩)
  have HW4 := Lib.hid hw4
  clear hb4 hw4 HB4 HN4 HE4
  go_wp2_with fail
  rw [← HW4.out]
  go_at_call 286
  refine HC.out.mono ?_
  rintro e w5 ⟨rfl, HR5, HB5⟩
  clear HC
  have HV : Hid (Bs w5 (.slice (some ⟨w3.heap.size, 0, none⟩) len len) (bi xs)) := Lib.hid (by
    have := Bs.row HR5.out 0 len (bi xs) (by rw [bi_len, HLX.out]; exact Nat.le_refl _) (fun i hi => by rw [Nat.zero_add, get_cs8 _ _ hi])
    rwa [bi_len, HLX.out] at this)
  go_wp2_with fail
  go_ret2
  exact ⟨⟨_, rfl, HV.out⟩, HB5.out⟩

set_option maxRecDepth 100000 in
set_option maxHeartbeats 1000000 in
theorem decodeB (vs : Value) (xs : List Nat) (w : World) (h : Bs w vs (bi (B64.enc xs))) (hx : ∀ x ∈ xs, x < 256) (hl : xs.length ≤ 65536) :
    Calls Tryz.prog 52 #[vs] w fun e w' => (∃ v, e = .returned (.tuple #[v, .nilIface]) ∧ Bs w' v (bi xs)) ∧ Below w.heap.size w w' := by
  have D := Lib.hid (decodeD vs xs w h hx hl)
  have G : Hid (Calls Tryz.prog 75 #[] w fun e w' => e = .returned (.iface 219 (.agg #[])) ∧ w' = w) := Lib.hid (by
    clear D h hx
    go_enter Tryz.func75, Tryz.ntmps75
    go_wp2_with fail
    go_ret
    exact ⟨rfl, rfl⟩)
  have m1 := mDec
  have e1 := eDec
  clear h hx
  go_enter Tryz.func52, Tryz.ntmps52
  go_wp2_with fail
  go_at_call 75
  refine G.out.mono ?_
  rintro e w ⟨rfl, rfl⟩
  clear G
  go_wp2_with fail
  refine D.out.mono ?_
  rintro e w1 ⟨⟨v, rfl, hv⟩, hb⟩
  have HV := Lib.hid hv
  have HB := Lib.hid hb
  clear hv hb
  go_wp2_with fail
  go_ret2
  exact ⟨⟨v, rfl, HV.out⟩, HB.out⟩

set_option maxRecDepth 100000 in
set_option maxHeartbeats 1000000 in
theorem decoded (vs : Value) (xs : List Nat) (w : World) (h : Bs w vs (bi (B64.enc xs))) (hx : ∀ x ∈ xs, x < 256) (hl : xs.length ≤ 65536) :
    Calls Tryz.prog 29 #[vs] w fun e w' => (∃ v, e = .returned (.tuple #[v, .bool true]) ∧ Bs w' v (bi xs)) ∧ Below w.heap.size w w' := by
  have C := Lib.hid (clone vs (bi (B64.enc xs)) w h (by rw [bi_len, B64.enc_len]; omega))
  have HX := Lib.hid hx
  clear h hx
  go_enter Tryz.func29, Tryz.ntmps29
  go_wp2_with fail
  go_at_call 7
  refine C.out.mono ?_
  rintro e w1 ⟨v1, rfl, own1, hb1⟩
  have B1 := Lib.hid hb1
  have D := Lib.hid (decodeB v1 xs w1 (Bs.own own1) HX.out hl)
  clear own1 hb1 C
  go_wp2_with fail
  go_at_call 52
  refine D.out.mono ?_
  rintro e w2 ⟨⟨v, rfl, hv⟩, hb2⟩
  have HV := Lib.hid hv
  have HB := Lib.hid (B1.out.trans (hb2.mono B1.out.size))
  clear hv hb2 D
  go_wp2_with fail
  go_ret2
  exact ⟨⟨v, rfl, HV.out⟩, HB.out⟩
end Go.Proofs.YtaemdppihpefnaaGreatDoor
