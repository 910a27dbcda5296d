/- slices.Grow on bytes of one's own, with room or without; base64's AppendEncode. -/
import Derived.Test.YtaemdppihpefnaaGreatDoorBsA
import Derived.Lib.AppendZerosOnto
import Derived.Lib.AppendZeros
namespace Go.Proofs.YtaemdppihpefnaaGreatDoor
open Go.RowKit
set_option linter.unusedVariables false

/-- The bytes ys stand at the beginning of block g (at or behind B), with nothing but bytes behind them. -/
def OwnB (w : World) (B : Nat) (T : TypeId) (g cap : Nat) (ys : List Int) : Prop :=
  ∃ cur : List Int, B ≤ g ∧ Row w g T (cs8 cur) ∧ cur.length = cap ∧ ys.length ≤ cap ∧ cap ≤ maxLen ∧ cur.take ys.length = ys

theorem OwnB.bs {w : World} {B : Nat} {T : TypeId} {g cap : Nat} {ys : List Int} (h : OwnB w B T g cap ys) : Bs w (.slice (some ⟨g, 0, none⟩) ys.length cap) ys := by
  obtain ⟨cur, hb, hr, hc, hy, hm, ht⟩ := h
  refine Bs.row hr 0 cap ys hy fun i hi => ?_
  rw [Nat.zero_add, get_cs8 _ _ (by omega)]
  have : cur.getD i 0 = ys.getD i 0 := by
    conv => rhs; rw [← ht]
    simp [List.getD, hi]
  rw [this]
theorem OwnB.below {w w' : World} {B B' : Nat} {T : TypeId} {g cap : Nat} {ys : List Int} (h : OwnB w B T g cap ys) (hb : Below B' w w') (hg : g < B') : OwnB w' B T g cap ys := by
  obtain ⟨cur, h1, hr, r⟩ := h
  exact ⟨cur, h1, hr.below hb hg, r⟩
theorem OwnB.lower {w : World} {B B' : Nat} {T : TypeId} {g cap : Nat} {ys : List Int} (h : OwnB w B T g cap ys) (hb : B' ≤ B) : OwnB w B' T g cap ys := by
  obtain ⟨cur, h1, r⟩ := h
  exact ⟨cur, Nat.le_trans hb h1, r⟩
theorem OwnB.made (w : World) (B : Nat) (T : TypeId) (n : Nat) (hB : B ≤ w.heap.size) (hn : n ≤ maxLen) : OwnB (w.alloc (.cells (List.replicate n (Value.int .u8 0)).toArray T)) B T w.heap.size n [] :=
  ⟨List.replicate n 0, hB, by rw [show cs8 (List.replicate n 0) = List.replicate n (Value.int .u8 0) by simp [cs8]]; exact Row.alloc w _ _, by simp, Nat.zero_le _, hn, by simp⟩
theorem OwnB.lt {w : World} {B : Nat} {T : TypeId} {g cap : Nat} {ys : List Int} (h : OwnB w B T g cap ys) : g < w.heap.size := by
  obtain ⟨cur, _, hr, _⟩ := h; exact hr.lt
theorem OwnB.own {w : World} {B : Nat} {T : TypeId} {g cap : Nat} {ys : List Int} (h : OwnB w B T g cap ys) : w.ownsRow B T 1 (.slice (some ⟨g, 0, none⟩) ys.length cap) ys.length (cs8 ys) := by
  obtain ⟨cur, h1, hr, h2, h3, h4, h5⟩ := h
  have := own_of_row hr B ys.length cap h1 h3 (by simp [cs8, h2]) h4
  have e : (cs8 cur).take ys.length = cs8 (cur.take ys.length) := by simp [cs8, List.map_take]
  rwa [e, h5] at this

theorem zc8 (n : Nat) : Builtin.zeroCells (Value.int .u8 0).cells n = (cs8 (List.replicate n 0)).toArray := by
  apply Array.ext
  · rw [size_zeroCells]; show n * 1 = _; simp [cs8]
  · intro i h1 h2
    simp [Builtin.zeroCells, cs8, Value.cells, Nat.mod_one]

/-- 'append(s, x..)': bytes of one's own, and some more. -/
theorem run_appB {P : Program} (w : World) (B : Nat) (t ty T : TypeId) (ht : P.underlying t = some (.slice T)) (hi : (P.info? T).map (fun i => (i.zero, i.size, i.bytes)) = some (some (.int .u8 0), 1, 1))
    (g cap : Nat) (ys : List Int) (ho : OwnB w B T g cap ys) (hB : B ≤ w.heap.size) (a : Addr) (m c : Nat) (zs : List Int) (hb : Bs w (.slice (some a) m c) zs) (hn : ys.length + zs.length ≤ 10000000) :
    ∃ g' cap' w', (Builtin.append_ #[t, t] ty #[.slice (some ⟨g, 0, none⟩) ys.length cap, .slice (some a) m c]).run P w = .ok (.slice (some ⟨g', 0, none⟩) (ys ++ zs).length cap') w' ∧ OwnB w' B T g' cap' (ys ++ zs) ∧ Below B w w' := by
  obtain ⟨i, hi1, hz, hs1, hb1⟩ := info_parts hi
  obtain ⟨hmz, hcells⟩ := hb.cells
  obtain ⟨cur, h1, hr, h2, h3, h4, h5⟩ := id ho
  rw [List.length_append, ← hmz]
  by_cases hroom : ys.length + m ≤ cap
  · have hrun := run_append_room (P := P) w t ty T i ht hi1 g ys.length cap (cs8 cur).toArray hr a m c (cs8 zs) (by simp [cs8, hs1, hmz]) hcells (one_cs8 zs) hroom (by simp [cs8, hs1, h2]; omega)
    refine ⟨g, cap, _, hrun, ?_, (Only.setRow _ _ _).below h1⟩
    refine ⟨cur.take ys.length ++ zs ++ cur.drop (ys.length + m), h1, ?_, by simp; omega, by simp; omega, h4, ?_⟩
    · have := hr.setRow (cs8 (cur.take ys.length ++ zs ++ cur.drop (ys.length + m)))
      have e : (cs8 cur).toArray.toList.take (ys.length * i.size) ++ cs8 zs ++ (cs8 cur).toArray.toList.drop (ys.length * i.size + (cs8 zs).length) = cs8 (cur.take ys.length ++ zs ++ cur.drop (ys.length + m)) := by
        simp [cs8, hs1, hmz, List.map_take, List.map_drop]
      rw [e]; exact this
    · rw [h5, List.take_left' (by simp)]
  · have hrun := run_append_grow (P := P) w t ty T i _ ht hi1 hz ⟨g, 0, none⟩ ys.length cap (cs8 ys) (by simp [cs8, hs1]) ho.bs.cells.2 a m c (cs8 zs) (by simp [cs8, hs1, hmz]) hcells (by omega) (by omega)
      (by rw [hb1]; exact growslice_fits (by omega) (by omega))
    have hge := grownCap_ge w (ys.length + m) cap T
    have hle := grownCap_le_maxLen w (ys.length + m) cap T (by unfold maxLen; omega)
    refine ⟨w.heap.size, _, _, hrun, ?_, ((below_drewd (Below.refl B w)).alloc hB _)⟩
    generalize grownCap w (ys.length + m) cap T = G at *
    refine ⟨ys ++ zs ++ List.replicate (G - (ys.length + m)) 0, hB, ?_, by simp; omega, by simp; omega, hle, by rw [List.take_left' rfl]⟩
    have e : (cs8 ys).toArray ++ (cs8 zs).toArray ++ Builtin.zeroCells (Value.int .u8 0).cells (G - (ys.length + m)) = (cs8 (ys ++ zs ++ List.replicate (G - (ys.length + m)) 0)).toArray := by
      rw [zc8]; simp [cs8]
    rw [e]
    exact Row.alloc w.drew _ _

set_option maxRecDepth 100000 in
set_option maxHeartbeats 1000000 in
/-- slices.Grow. -/
theorem growS (n : Nat) (hn : n ≤ 1000000) (B g cap : Nat) (ys : List Int) (w : World) (ho : OwnB w B 5 g cap ys) (hB : B ≤ w.heap.size) (hy : ys.length ≤ 1000000) :
    Calls Tryz.prog 54 #[.slice (some ⟨g, 0, none⟩) ys.length cap, .int .i64 n] w fun e w' => (∃ g' cap', e = .returned (.slice (some ⟨g', 0, none⟩) ys.length cap') ∧ OwnB w' B 5 g' cap' ys ∧ ys.length + n ≤ cap') ∧ Below B w w' := by
  obtain ⟨i0, hi, hz0, hz1, hz2⟩ := info_parts (P := Tryz.prog) (e := 5) (z := .int .u8 0) (size := 1) (bytes := 1) (by kernel_rfl)
  obtain ⟨cur, h1, hr, h2, h3, h4, h5⟩ := id ho
  have hm : cap ≤ 9223372036854775807 := by unfold maxLen at h4; omega
  generalize hlen : ys.length = l at *
  have hnI : ¬ ((n : Int) < 0) := by omega
  have hw1 : IntKind.i64.wrap ((cap : Int) - (l : Int)) = (cap : Int) - (l : Int) := IntWalk.i64_in _ (by omega)
  have hw2 : IntKind.i64.wrap ((n : Int) - ((cap : Int) - (l : Int))) = (n : Int) - ((cap : Int) - (l : Int)) := IntWalk.i64_in _ (by omega)
  by_cases hroom : l + n ≤ cap
  · have h40 : ¬ (0 < (n : Int) - ((cap : Int) - (l : Int))) := by omega
    have HO := Lib.hid ho
    clear ho hr h1 h2 h4 h5 hi hz0 hz1 hz2
    have HL := Lib.hid hlen
    clear hlen
    go_enter Tryz.func54, Tryz.ntmps54
    go_wp2_with fail
    go_ret
    exact ⟨⟨g, cap, rfl, HO.out, hroom⟩, Below.refl _ _⟩
  · have h40 : 0 < (n : Int) - ((cap : Int) - (l : Int)) := by omega
    have hold : (Builtin.firstCells i0.size cap (.slice (some ⟨g, 0, none⟩) cap cap)).run Tryz.prog w.drew = .ok (cs8 cur).toArray w.drew :=
      run_firstCells_some w.drew i0.size cap ⟨g, 0, none⟩ cap cap (cs8 cur) (by simp [cs8, hz1, h2]) (fun j v hj => by rw [Go.WideShapes.add_plain, Nat.zero_add, show w.drew.cell? ⟨g, j, none⟩ = w.cell? ⟨g, j, none⟩ from rfl, hr.cell]; exact hj)
    have hk : cap + (l + n - cap) = l + n := by omega
    have hrz : ∀ ty, (Builtin.append_ #[22, 3] ty #[.slice (some ⟨g, 0, none⟩) cap cap, .int .i64 ((n : Int) - ((cap : Int) - (l : Int)))]).run Tryz.prog w =
        .ok (.slice (some ⟨w.heap.size, 0, none⟩) (l + n) (grownCap w (l + n) cap 5)) (w.drew.alloc (.cells ((cs8 cur).toArray ++ Builtin.zeroCells (Value.int .u8 0).cells (l + n - cap) ++ Builtin.zeroCells (Value.int .u8 0).cells (grownCap w (l + n) cap 5 - (l + n))) 5)) := fun ty => by
      have h := Lib.run_append_grow_zeros w 22 3 ty 5 i0 (.int .u8 0) .i64 .i64 Tryz.underlying22 Tryz.underlying3 hi hz0 (some ⟨g, 0, none⟩) cap cap (cs8 cur).toArray.toList (by simpa using hold) (l + n - cap) (by omega) (by omega) (by omega) (by omega) (by rw [hz2]; omega)
        (by rw [hk, hz2]; exact growslice_fits (by omega) (by omega))
      rw [hk] at h
      rw [show (n : Int) - ((cap : Int) - (l : Int)) = ((l + n - cap : Nat) : Int) by omega]
      simpa using h
    have hge := grownCap_ge w (l + n) cap 5
    have hle := grownCap_le_maxLen w (l + n) cap 5 (by unfold maxLen; omega)
    have HZ : Hid (∀ G, (cs8 cur).toArray ++ Builtin.zeroCells (Value.int .u8 0).cells (l + n - cap) ++ Builtin.zeroCells (Value.int .u8 0).cells (G - (l + n)) = (cs8 (cur ++ List.replicate (l + n - cap) 0 ++ List.replicate (G - (l + n)) 0)).toArray) := Lib.hid (fun G => by
      rw [zc8, zc8]; simp [cs8])
    rw [HZ.out] at hrz
    generalize grownCap w (l + n) cap 5 = G at hrz hge hle
    have HOW : Hid (OwnB (w.drew.alloc (.cells (cs8 (cur ++ List.replicate (l + n - cap) 0 ++ List.replicate (G - (l + n)) 0)).toArray 5)) B 5 w.heap.size G ys) := Lib.hid
      ⟨_, hB, Row.alloc w.drew _ _, by simp [h2]; omega, by omega, hle, by rw [hlen, List.append_assoc, List.take_append_of_le_length (by omega)]; exact h5⟩
    have HB := Lib.hid ((below_drewd (Below.refl B w)).alloc (o := .cells (cs8 (cur ++ List.replicate (l + n - cap) 0 ++ List.replicate (G - (l + n)) 0)).toArray 5) hB)
    generalize cs8 (cur ++ List.replicate (l + n - cap) 0 ++ List.replicate (G - (l + n)) 0) = Z at hrz HOW HB
    have HR := Lib.hid hrz
    have hcG : l ≤ G := by omega
    have hge := Lib.hid hge
    have hle := Lib.hid hle
    clear hrz hi hz0 hz1 hz2 hold hk HZ ho hr h1 h2 h4 h5 hlen
    go_enter Tryz.func54, Tryz.ntmps54
    go_wp2_with (at_builtin; refine Lib.wpList_append_run _ rfl _ _ _ _ rfl _ _ rfl rfl _ _ (HR.out _) ?_)
    go_ret
    exact ⟨⟨_, _, rfl, HOW.out, hge.out⟩, HB.out⟩
end Go.Proofs.YtaemdppihpefnaaGreatDoor

/- base64's AppendEncode: the letters of some bytes behind bytes of one's own. -/
namespace Go.Proofs.YtaemdppihpefnaaGreatDoor
open Go.RowKit
set_option linter.unusedVariables false

theorem Fil.take {od n : Nat} {cur Y : List Int} {xs : List Nat} (h : Fil od n cur xs Y) (hn : n = (B64.enc xs).length) (hl : od + n ≤ cur.length) : Y.take (od + n) = cur.take od ++ bi (B64.enc xs) := by
  obtain ⟨h1, h2⟩ := h
  apply List.ext_getElem
  · simp [bi]; omega
  · intro i hi hj
    have hi2 : i < od + n := by simp at hi; omega
    have hy : i < Y.length := by omega
    have e1 : (Y.take (od + n))[i] = Y.getD i 0 := by simp [List.getD, hy]
    rw [e1, h2 i]
    by_cases hc : od ≤ i
    · rw [if_pos ⟨hc, hi2⟩, List.getElem_append_right (by simp; omega)]
      have : i - od < (B64.enc xs).length := by omega
      simp [bi, List.getD, show min od cur.length = od by omega, this]
    · rw [if_neg (by omega), List.getElem_append_left (by simp; omega)]
      have : i < cur.length := by omega
      simp [List.getD, this]

set_option maxRecDepth 100000 in
set_option maxHeartbeats 1000000 in
theorem encode0 (p d : Value) (q : Option Addr) (c : Nat) (w : World) : Calls Tryz.prog 288 #[p, d, .slice q 0 c] w fun e w' => (∃ v, e = .returned v) ∧ w' = w := by
  go_enter Tryz.func288, Tryz.ntmps288
  go_wp2_with fail
  refine bodyPost_ret (results_none rfl _ _ _) rfl ?_
  exact ⟨⟨_, rfl⟩, rfl⟩

set_option maxRecDepth 100000 in
set_option maxHeartbeats 2000000 in
theorem appendEnc (g B gd cap : Nat) (ys : List Int) (vs : Value) (xs : List Nat) (w : World) (h : Row w g 299 (eC (xl 64) (-1))) (hg : g < B) (hB : B ≤ w.heap.size) (ho : OwnB w B 5 gd cap ys)
    (hx : ∀ x ∈ xs, x < 256) (hl : xs.length ≤ 65536) (hy : ys.length ≤ 500000) (hs : ∀ w', Below B w w' → Bs w' vs (bi xs)) :
    Calls Tryz.prog 285 #[.pointer (some ⟨g, 0, none⟩), .slice (some ⟨gd, 0, none⟩) ys.length cap, vs] w fun e w' =>
      (∃ g' cap', e = .returned (.slice (some ⟨g', 0, none⟩) (ys ++ bi (B64.enc xs)).length cap') ∧ OwnB w' B 5 g' cap' (ys ++ bi (B64.enc xs))) ∧ Below B w w' := by
  have hH := Lib.hid h
  have HO := Lib.hid ho
  have HS := Lib.hid hs
  have HX := Lib.hid hx
  obtain ⟨p0, c0, rfl, hc0, -, -⟩ := id (hs w (Below.refl _ _))
  have hlen : (bi xs).length = xs.length := by simp [bi]
  rw [hlen] at hc0 HS ⊢
  have HE := Lib.hid (encLen g xs.length (xl 64) w h (xl_len 64) (by omega))
  rw [← B64.enc_len] at HE
  have hnl : (B64.enc xs).length ≤ 100000 := by rw [B64.enc_len]; omega
  have HG := Lib.hid (growS (B64.enc xs).length (by omega) B gd cap ys w ho hB (by omega))
  have hll : (ys ++ bi (B64.enc xs)).length = ys.length + (B64.enc xs).length := by simp [bi]
  rw [hll]
  have HNL := Lib.hid (show (B64.enc xs).length = xs.length / 3 * 4 + (xs.length % 3 * 8 + 5) / 6 from B64.enc_len xs)
  generalize hN : (B64.enc xs).length = n at *
  have HN := Lib.hid hN
  clear h ho hs hx hlen hN hll
  go_enter Tryz.func285, Tryz.ntmps285
  go_wp2_with fail
  go_at_call 290
  refine HE.out.mono ?_
  rintro e w1 ⟨rfl, rfl⟩
  go_wp2_with fail
  go_at_call 54
  refine HG.out.mono ?_
  rintro e w2 ⟨⟨g', cap', rfl, ho2, hc2⟩, hb2⟩
  have HO2 := Lib.hid ho2
  have HB2 := Lib.hid hb2
  have hl4 : ((ys.length : Int) + (n : Int)) ≤ cap' := by omega
  have hl5 : (ys.length : Int) ≤ cap' := by omega
  have hw5 : IntKind.i64.wrap ((ys.length : Int) + (n : Int)) = (ys.length : Int) + (n : Int) := IntWalk.i64_in _ (by omega)
  have hl6 : (0 : Int) ≤ (ys.length : Int) + (n : Int) := by omega
  have hl7 : ((ys.length : Int) + (n : Int)).toNat = ys.length + n := by omega
  clear ho2 hb2
  rcases Nat.eq_zero_or_pos xs.length with hx0 | hxp
  · have hn0 : n = 0 := by have := HNL.out; rw [hx0] at this; omega
    subst hn0
    have hz : xs = [] := List.eq_nil_of_length_eq_zero hx0
    subst hz
    have HD : Hid (∀ d, Calls Tryz.prog 288 #[.pointer (some ⟨g, 0, none⟩), d, .slice p0 0 c0] w2 fun e w' => (∃ v, e = .returned v) ∧ w' = w2) := Lib.hid (fun d => encode0 _ d p0 c0 w2)
    have e0 : ([] : List Nat).length = 0 := rfl
    have hyy : Hid (ys ++ bi (B64.enc []) = ys) := Lib.hid (by simp [B64.enc, bi])
    rw [e0] at *
    rcases Decidable.em (cap' = ys.length) with hcn | hcn <;>
    · go_wp2_with fail
      go_at_call 288
      refine (HD.out _).mono ?_
      rintro e w3 ⟨⟨v, rfl⟩, rfl⟩
      go_wp2_with fail
      go_ret
      refine ⟨⟨_, _, rfl, ?_⟩, HB2.out⟩
      rw [hyy.out]
      first | exact HO2.out | (rw [hcn] at HO2; exact HO2.out) | (rw [← hcn]; exact HO2.out)
  · have hnp : 0 < n := by have := HNL.out; omega
    have hcn : ¬ cap' = ys.length := by omega
    obtain ⟨cur, k1, kr, k2, k3, k4, k5⟩ := HO2.out
    have HD : Hid (Calls Tryz.prog 288 #[.pointer (some ⟨g, 0, none⟩), .slice (some ⟨g', ys.length, none⟩) n (cap' - ys.length), .slice p0 xs.length c0] w2 fun e w' => (∃ v, e = .returned v) ∧ (∃ Y, Row w' g' 5 (cs8 Y) ∧ Fil ys.length n cur xs Y) ∧ But g' w2 w') := Lib.hid (by
      have hn := HN.out
      have := encode g g' ys.length (cap' - ys.length) cur (.slice p0 xs.length c0) xs w2 (hH.out.below HB2.out hg) kr (by omega) (by rw [hn]; omega) (by rw [hn]; omega) HX.out hl hxp
        (fun w' hb => HS.out w' (HB2.out.trans (hb.below k1 (Nat.le_of_lt kr.lt))))
      rw [hn] at this
      exact this)
    have HK : Hid (∀ w' Y, Row w' g' 5 (cs8 Y) → Fil ys.length n cur xs Y → OwnB w' B 5 g' cap' (ys ++ bi (B64.enc xs))) := Lib.hid (fun w' Y hr hf => by
      have hn := HN.out
      refine ⟨Y, k1, hr, by rw [hf.1]; exact k2, by simp [bi]; omega, k4, ?_⟩
      rw [show (ys ++ bi (B64.enc xs)).length = ys.length + n by simp [bi]; omega, hf.take hn.symm (by omega), k5])
    have HL := Lib.hid (And.intro k1 kr.lt)
    clear k1 kr k2 k3 k4 k5
    go_wp2_with fail
    go_at_call 288
    refine HD.out.mono ?_
    rintro e w3 ⟨⟨v, rfl⟩, ⟨Y, hr, hf⟩, hbut⟩
    have HO3 := Lib.hid (HK.out w3 Y hr hf)
    have HB3 := Lib.hid (HB2.out.trans (hbut.below HL.out.1 (Nat.le_of_lt HL.out.2)))
    clear hr hf hbut
    go_wp2_with fail
    go_ret
    exact ⟨⟨_, _, rfl, HO3.out⟩, HB3.out⟩
end Go.Proofs.YtaemdppihpefnaaGreatDoor

/- jwsbb.SignBuffer and JoinCompact, with base64's encoder behind its interface. -/
namespace Go.Proofs.YtaemdppihpefnaaGreatDoor
open Go.RowKit
set_option linter.unusedVariables false

theorem enter_of2 {P : Program} {f : FuncId} {fn : Func} {c : Code} (hf : P.funcs[f]? = some fn) (hname : (fn.name == "runtime.NumGoroutine") = false) (hb : fn.body = some c) (args : Array Value) (w : World) : (callFunc f args).run P w = .ok (.enter f args) w := by
  have h1 : fn.name ≠ "runtime.NumGoroutine" := by simpa using hname
  simp [callFunc, hf, h1, hb]
theorem mApe (a : Addr) (w : World) : (method 508 213 (.pointer (some a)) "AppendEncode").run Tryz.prog w = .ok (285, .pointer (some a)) w := by kernel_rfl
theorem eApe (args : Array Value) (w : World) : (callFunc 285 args).run Tryz.prog w = .ok (.enter 285 args) w :=
  enter_of2 Tryz.func285 (by kernel_rfl) rfl args w
theorem naApe (a : Addr) (w : World) : (nilAhead 508 213 (.pointer (some a)) "AppendEncode").run Tryz.prog w = .ok (some false) w := by kernel_rfl
theorem mEnl (a : Addr) (w : World) : (method 508 213 (.pointer (some a)) "EncodedLen").run Tryz.prog w = .ok (290, .pointer (some a)) w := by kernel_rfl
theorem eEnl (args : Array Value) (w : World) : (callFunc 290 args).run Tryz.prog w = .ok (.enter 290 args) w :=
  enter_of2 Tryz.func290 (by kernel_rfl) rfl args w
theorem naEnl (a : Addr) (w : World) : (nilAhead 508 213 (.pointer (some a)) "EncodedLen").run Tryz.prog w = .ok (some false) w := by kernel_rfl

/-- 'make([]byte, 0, L)'. -/
theorem run_make0 (L : Nat) (hL : L ≤ 10000000) (V : Int) (hV : V = (L : Int)) : ∀ wx : World, (Instr.makeSlice 22 (.int .i64 0) (.int .i64 V)).run Tryz.prog wx = .ok (.slice (some ⟨wx.heap.size, 0, none⟩) 0 L) (wx.alloc (.cells (List.replicate L (Value.int .u8 0)).toArray 5)) := by
  intro wx
  subst hV
  obtain ⟨i, hi, hz, hs, hb⟩ := info_parts (P := Tryz.prog) (e := 5) (z := .int .u8 0) (size := 1) (bytes := 1) (by kernel_rfl)
  have hr := run_make (P := Tryz.prog) wx 22 5 i (.int .u8 0) Tryz.underlying22 hi hz .i64 .i64 0 L (Int.le_refl _) (by omega) (by rw [hb]; omega) (by omega)
  rw [hs, Nat.mul_one, Int.toNat_natCast, made_one _ rfl L] at hr
  exact hr

/-- What is signed. -/
def sigB (xs ys : List Nat) : List Int := bi (B64.enc xs) ++ [46] ++ bi (B64.enc ys)
theorem bi_len (xs : List Nat) : (bi xs).length = xs.length := by simp [bi]
theorem dot_bs (w : World) : Bs (w.alloc (.cells #[.int .u8 46] 5)) (.slice (some ⟨w.heap.size, 0, none⟩) 1 1) [46] :=
  Bs.row (g := w.heap.size) (t := 5) (cur := cs8 [46]) (Row.alloc w _ _) 0 1 [46] (Nat.le_refl _) (fun i hi => by rw [Nat.zero_add, get_cs8 _ _ hi])

/-- 'append(s, '.')'. -/
theorem run_dot (w : World) (B : Nat) (g cap : Nat) (ys : List Int) (ho : OwnB w B 5 g cap ys) (hB : B ≤ w.heap.size) (hn : ys.length ≤ 1000000) :
    ∃ g' cap' w', (∀ ty, (Builtin.append_ #[22, 22] ty #[.slice (some ⟨g, 0, none⟩) ys.length cap, .slice (some ⟨w.heap.size, 0, none⟩) 1 1]).run Tryz.prog (w.alloc (.cells #[.int .u8 46] 5)) = .ok (.slice (some ⟨g', 0, none⟩) (ys ++ [46]).length cap') w') ∧ OwnB w' B 5 g' cap' (ys ++ [46]) ∧ Below B w w' := by
  have hb : Below B w (w.alloc (.cells #[.int .u8 46] 5)) := (Below.refl B w).alloc hB _
  have hb1 : Below w.heap.size w (w.alloc (.cells #[.int .u8 46] 5)) := (Below.refl _ w).alloc (Nat.le_refl _) _
  obtain ⟨g', cap', w', h1, h2, h3⟩ := run_appB (P := Tryz.prog) (w.alloc (.cells #[.int .u8 46] 5)) B 22 0 5 Tryz.underlying22 (by kernel_rfl) g cap ys (ho.below hb1 ho.lt) (Nat.le_trans hB hb.size) ⟨w.heap.size, 0, none⟩ 1 1 [46] (dot_bs w) (by simp; omega)
  exact ⟨g', cap', w', fun ty => h1, h2, hb.trans h3⟩

set_option maxRecDepth 100000 in
set_option maxHeartbeats 2000000 in
theorem signBuf (g : Nat) (vh vp : Value) (xs ys : List Nat) (w : World) (h : Row w g 299 (eC (xl 64) (-1))) (hh : Bs w vh (bi xs)) (hp : Bs w vp (bi ys))
    (hx : ∀ x ∈ xs, x < 256) (hy : ∀ x ∈ ys, x < 256) (hxl : xs.length ≤ 30000) (hyl : ys.length ≤ 30000) :
    Calls Tryz.prog 46 #[.slice none 0 0, vh, vp, .iface 213 (.pointer (some ⟨g, 0, none⟩)), .bool true] w fun e w' => (∃ v, e = .returned v ∧ Bs w' v (sigB xs ys)) ∧ Below w.heap.size w w' := by
  have H := Lib.hid h
  have HH := Lib.hid hh
  have HP := Lib.hid hp
  have HX := Lib.hid hx
  have HY := Lib.hid hy
  obtain ⟨ph, ch, rfl, _, _, _⟩ := id hh
  obtain ⟨pp, cp, rfl, _, _, _⟩ := id hp
  have lx := bi_len xs
  have ly := bi_len ys
  rw [lx] at HH ⊢
  rw [ly] at HP ⊢
  have hw1 : IntKind.i64.wrap ((xs.length : Int) + (ys.length : Int)) = ((xs.length + ys.length : Nat) : Int) := by rw [IntWalk.i64_in _ (by omega)]; omega
  have HE := Lib.hid (encLen g (xs.length + ys.length) (xl 64) w h (xl_len 64) (by omega))
  generalize hN : (xs.length + ys.length) / 3 * 4 + ((xs.length + ys.length) % 3 * 8 + 5) / 6 = N at HE
  have hN1 : N ≤ 1000000 := by omega
  have hw2 : IntKind.i64.wrap ((N : Int) + 1) = (N : Int) + 1 := IntWalk.i64_in _ (by omega)
  have hmk := run_make0 (N + 1) (by omega) ((N : Int) + 1) (by omega)
  have hlt : (0 : Int) < (N : Int) + 1 := by omega
  have HO1 := Lib.hid (OwnB.made w w.heap.size 5 (N + 1) (Nat.le_refl _) (by unfold maxLen; omega))
  have HB1 := Lib.hid ((Below.refl w.heap.size w).alloc (Nat.le_refl _) (.cells (List.replicate (N + 1) (Value.int .u8 0)).toArray 5))
  generalize (List.replicate (N + 1) (Value.int .u8 0)).toArray = Z at hmk HO1 HB1
  clear h hh hp hx hy hN
  have m1 := mApe
  have e1 := eApe
  have n1 := naApe
  have m2 := mEnl
  have e2 := eEnl
  have n2 := naEnl
  have hneg : ¬ ((N : Int) + 1 < 0) := by omega
  go_enter Tryz.func46, Tryz.ntmps46
  go_wp2_with fail
  refine HE.out.mono ?_
  rintro e w ⟨rfl, rfl⟩
  have HA1 : Hid (Calls Tryz.prog 285 #[.pointer (some ⟨g, 0, none⟩), .slice (some ⟨w.heap.size, 0, none⟩) 0 (N + 1), .slice ph xs.length ch] (w.alloc (.cells Z 5)) fun e w' =>
      (∃ g' cap', e = .returned (.slice (some ⟨g', 0, none⟩) (bi (B64.enc xs)).length cap') ∧ OwnB w' w.heap.size 5 g' cap' (bi (B64.enc xs))) ∧ Below w.heap.size (w.alloc (.cells Z 5)) w') := Lib.hid (by
    have := appendEnc g w.heap.size w.heap.size (N + 1) [] (.slice ph xs.length ch) xs (w.alloc (.cells Z 5)) (H.out.below HB1.out H.out.lt) H.out.lt HB1.out.size HO1.out HX.out (by omega) (by simp) (fun w' hb => HH.out.below (HB1.out.trans hb))
    rw [List.nil_append] at this
    exact this)
  clear HE
  go_wp2_with fail
  refine HA1.out.mono ?_
  rintro e w2 ⟨⟨g2, cap2, rfl, ho2⟩, hb2⟩
  have HB2 := Lib.hid (HB1.out.trans hb2)
  obtain ⟨g3, cap3, w3, hr3, ho3, hb3⟩ := run_dot w2 w.heap.size g2 cap2 (bi (B64.enc xs)) ho2 HB2.out.size (by rw [bi_len, B64.enc_len]; omega)
  have HR3 := Lib.hid hr3
  have HB3 := Lib.hid (HB2.out.trans hb3)
  have HA3 : Hid (Calls Tryz.prog 285 #[.pointer (some ⟨g, 0, none⟩), .slice (some ⟨g3, 0, none⟩) (bi (B64.enc xs) ++ [46]).length cap3, .slice pp ys.length cp] w3 fun e w' =>
      (∃ g' cap', e = .returned (.slice (some ⟨g', 0, none⟩) (sigB xs ys).length cap') ∧ OwnB w' w.heap.size 5 g' cap' (sigB xs ys)) ∧ Below w.heap.size w3 w') := Lib.hid
    (appendEnc g w.heap.size g3 cap3 (bi (B64.enc xs) ++ [46]) (.slice pp ys.length cp) ys w3 (H.out.below HB3.out H.out.lt) H.out.lt HB3.out.size ho3 HY.out (by omega) (by rw [List.length_append, bi_len, B64.enc_len]; simp; omega) (fun w' hb => HP.out.below (HB3.out.trans hb)))
  clear ho2 hb2 hr3 ho3 hb3 HA1 HO1 HB1
  generalize bi (B64.enc xs) ++ [46] = S3 at *
  generalize (bi (B64.enc xs)).length = l2 at *
  go_wp2_with (at_builtin; refine Lib.wpList_append_run _ rfl _ _ _ _ rfl _ _ rfl rfl _ _ (HR3.out _) ?_)
  refine HA3.out.mono ?_
  rintro e w4 ⟨⟨g4, cap4, rfl, ho4⟩, hb4⟩
  have HS4 := Lib.hid ho4.bs
  have HB4 := Lib.hid (HB3.out.trans hb4)
  clear ho4 hb4
  go_wp2_with fail
  go_ret
  exact ⟨⟨_, rfl, HS4.out⟩, HB4.out⟩
end Go.Proofs.YtaemdppihpefnaaGreatDoor

/- jwsbb.JoinCompact; the default encoder; impl.Signing, impl.Joined. -/
namespace Go.Proofs.YtaemdppihpefnaaGreatDoor
open Go.RowKit
set_option linter.unusedVariables false

def joinB (xs ys zs : List Nat) : List Int := sigB xs ys ++ [46] ++ bi (B64.enc zs)
theorem sigB_len (xs ys : List Nat) (hx : xs.length ≤ 30000) (hy : ys.length ≤ 30000) : (sigB xs ys).length ≤ 200000 := by
  simp only [sigB, List.length_append, bi_len, B64.enc_len, List.length_cons, List.length_nil]; omega

/-- A slice in memory that was not there in w. -/
def Fresh (w : World) (v : Value) : Prop := ∀ k, v.ownBlock = some k → w.heap.size ≤ k

set_option maxRecDepth 100000 in
set_option maxHeartbeats 2000000 in
theorem joinC (g : Nat) (vh vp vs : Value) (xs ys zs : List Nat) (w : World) (h : Row w g 299 (eC (xl 64) (-1))) (hh : Bs w vh (bi xs)) (hp : Bs w vp (bi ys)) (hs : Bs w vs (bi zs))
    (hx : ∀ x ∈ xs, x < 256) (hy : ∀ x ∈ ys, x < 256) (hz : ∀ x ∈ zs, x < 256) (hxl : xs.length ≤ 30000) (hyl : ys.length ≤ 30000) (hzl : zs.length ≤ 30000) :
    Calls Tryz.prog 48 #[.slice none 0 0, vh, vp, vs, .iface 213 (.pointer (some ⟨g, 0, none⟩)), .bool true] w fun e w' => (∃ v, e = .returned (.tuple #[v, .nilIface]) ∧ Bs w' v (joinB xs ys zs) ∧ Fresh w v) ∧ Below w.heap.size w w' := by
  have H := Lib.hid h
  have HH := Lib.hid hh
  have HP := Lib.hid hp
  have HS := Lib.hid hs
  have HX := Lib.hid hx
  have HY := Lib.hid hy
  have HZ := Lib.hid hz
  obtain ⟨ph, ch, rfl, _, _, _⟩ := id hh
  obtain ⟨pp, cp, rfl, _, _, _⟩ := id hp
  obtain ⟨ps, cs, rfl, _, _, _⟩ := id hs
  have lx := bi_len xs
  have ly := bi_len ys
  have lz := bi_len zs
  rw [lx] at HH ⊢
  rw [ly] at HP ⊢
  rw [lz] at HS ⊢
  have hw1 : IntKind.i64.wrap ((xs.length : Int) + (ys.length : Int)) = (xs.length : Int) + (ys.length : Int) := IntWalk.i64_in _ (by omega)
  have hw2 : IntKind.i64.wrap ((xs.length : Int) + (ys.length : Int) + (zs.length : Int)) = (xs.length : Int) + (ys.length : Int) + (zs.length : Int) := IntWalk.i64_in _ (by omega)
  have hw3 : IntKind.i64.wrap ((xs.length : Int) + (ys.length : Int) + (zs.length : Int) + 2) = (xs.length : Int) + (ys.length : Int) + (zs.length : Int) + 2 := IntWalk.i64_in _ (by omega)
  obtain ⟨N, hN⟩ : ∃ N : Nat, N = xs.length + ys.length + zs.length + 2 := ⟨_, rfl⟩
  have hmk := run_make0 N (by omega) ((xs.length : Int) + (ys.length : Int) + (zs.length : Int) + 2) (by omega)
  have hlt : (0 : Int) < (xs.length : Int) + (ys.length : Int) + (zs.length : Int) + 2 := by omega
  have hng : ¬ ((1073741824 : Int) < (xs.length : Int) + (ys.length : Int) + (zs.length : Int) + 2) := by omega
  have HO1 := Lib.hid (OwnB.made w w.heap.size 5 N (Nat.le_refl _) (by unfold maxLen; omega))
  have HB1 := Lib.hid ((Below.refl w.heap.size w).alloc (Nat.le_refl _) (.cells (List.replicate N (Value.int .u8 0)).toArray 5))
  generalize (List.replicate N (Value.int .u8 0)).toArray = Z at hmk HO1 HB1
  have hN2 : N ≤ 100000 := by omega
  clear h hh hp hs hx hy hz hN
  have m1 := mApe
  have e1 := eApe
  have n1 := naApe
  have HA1 : Hid (Calls Tryz.prog 285 #[.pointer (some ⟨g, 0, none⟩), .slice (some ⟨w.heap.size, 0, none⟩) 0 N, .slice ph xs.length ch] (w.alloc (.cells Z 5)) fun e w' =>
      (∃ g' cap', e = .returned (.slice (some ⟨g', 0, none⟩) (bi (B64.enc xs)).length cap') ∧ OwnB w' w.heap.size 5 g' cap' (bi (B64.enc xs))) ∧ Below w.heap.size (w.alloc (.cells Z 5)) w') := Lib.hid (by
    have := appendEnc g w.heap.size w.heap.size N [] (.slice ph xs.length ch) xs (w.alloc (.cells Z 5)) (H.out.below HB1.out H.out.lt) H.out.lt HB1.out.size HO1.out HX.out (by omega) (by simp) (fun w' hb => HH.out.below (HB1.out.trans hb))
    rw [List.nil_append] at this
    exact this)
  go_enter Tryz.func48, Tryz.ntmps48
  go_wp2_with fail
  refine HA1.out.mono ?_
  rintro e w2 ⟨⟨g2, cap2, rfl, ho2⟩, hb2⟩
  have HB2 := Lib.hid (HB1.out.trans hb2)
  obtain ⟨g3, cap3, w3, hr3, ho3, hb3⟩ := run_dot w2 w.heap.size g2 cap2 (bi (B64.enc xs)) ho2 HB2.out.size (by rw [bi_len, B64.enc_len]; omega)
  have HR3 := Lib.hid hr3
  have HB3 := Lib.hid (HB2.out.trans hb3)
  have HA3 : Hid (Calls Tryz.prog 285 #[.pointer (some ⟨g, 0, none⟩), .slice (some ⟨g3, 0, none⟩) (bi (B64.enc xs) ++ [46]).length cap3, .slice pp ys.length cp] w3 fun e w' =>
      (∃ g' cap', e = .returned (.slice (some ⟨g', 0, none⟩) (sigB xs ys).length cap') ∧ OwnB w' w.heap.size 5 g' cap' (sigB xs ys)) ∧ Below w.heap.size w3 w') := Lib.hid
    (appendEnc g w.heap.size g3 cap3 (bi (B64.enc xs) ++ [46]) (.slice pp ys.length cp) ys w3 (H.out.below HB3.out H.out.lt) H.out.lt HB3.out.size ho3 HY.out (by omega) (by rw [List.length_append, bi_len, B64.enc_len]; simp; omega) (fun w' hb => HP.out.below (HB3.out.trans hb)))
  clear ho2 hb2 hr3 ho3 hb3 HA1 HO1 HB1
  generalize bi (B64.enc xs) ++ [46] = S3 at *
  generalize (bi (B64.enc xs)).length = l2 at *
  go_wp2_with (at_builtin; refine Lib.wpList_append_run _ rfl _ _ _ _ rfl _ _ rfl rfl _ _ (HR3.out _) ?_)
  refine HA3.out.mono ?_
  rintro e w4 ⟨⟨g4, cap4, rfl, ho4⟩, hb4⟩
  have HB4 := Lib.hid (HB3.out.trans hb4)
  have hsl := sigB_len xs ys hxl hyl
  obtain ⟨g5, cap5, w5, hr5, ho5, hb5⟩ := run_dot w4 w.heap.size g4 cap4 (sigB xs ys) ho4 HB4.out.size (by omega)
  have HR5 := Lib.hid hr5
  have HB5 := Lib.hid (HB4.out.trans hb5)
  have HA5 : Hid (Calls Tryz.prog 285 #[.pointer (some ⟨g, 0, none⟩), .slice (some ⟨g5, 0, none⟩) (sigB xs ys ++ [46]).length cap5, .slice ps zs.length cs] w5 fun e w' =>
      (∃ g' cap', e = .returned (.slice (some ⟨g', 0, none⟩) (joinB xs ys zs).length cap') ∧ OwnB w' w.heap.size 5 g' cap' (joinB xs ys zs)) ∧ Below w.heap.size w5 w') := Lib.hid
    (appendEnc g w.heap.size g5 cap5 (sigB xs ys ++ [46]) (.slice ps zs.length cs) zs w5 (H.out.below HB5.out H.out.lt) H.out.lt HB5.out.size ho5 HZ.out (by omega) (by rw [List.length_append]; simp; omega) (fun w' hb => HS.out.below (HB5.out.trans hb)))
  clear ho4 hb4 hr5 ho5 hb5 HA3 HR3 hsl
  generalize sigB xs ys ++ [46] = S5 at *
  generalize (sigB xs ys).length = l4 at *
  go_wp2_with (at_builtin; refine Lib.wpList_append_run _ rfl _ _ _ _ rfl _ _ rfl rfl _ _ (HR5.out _) ?_)
  refine HA5.out.mono ?_
  rintro e w6 ⟨⟨g6, cap6, rfl, ho6⟩, hb6⟩
  have HS6 := Lib.hid ho6.bs
  have HF6 : Hid (w.heap.size ≤ g6) := Lib.hid (by obtain ⟨_, h, _⟩ := ho6; exact h)
  have HB6 := Lib.hid (HB5.out.trans hb6)
  clear ho6 hb6
  go_wp2_with fail
  go_ret2
  exact ⟨⟨_, rfl, HS6.out, fun k hk => by cases hk; exact HF6.out⟩, HB6.out⟩

set_option maxRecDepth 100000 in
set_option maxHeartbeats 1000000 in
/-- The default encoder. -/
theorem defEnc (w : World) : Calls Tryz.prog 47 #[] w fun e w' => (∃ g, e = .returned (.iface 213 (.pointer (some ⟨g, 0, none⟩))) ∧ w.heap.size ≤ g ∧ Row w' g 299 (eC (xl 64) (-1))) ∧ Below w.heap.size w w' := by
  have G : Hid (Calls Tryz.prog 69 #[] w fun e w' => (∃ g, e = .returned (.iface 213 (.pointer (some ⟨g, 0, none⟩))) ∧ w.heap.size ≤ g ∧ Row w' g 299 (eC (xl 64) (-1))) ∧ Below w.heap.size w w') := Lib.hid (by
    have R := Lib.hid (rawURL w)
    go_enter Tryz.func69, Tryz.ntmps69
    go_wp2_with fail
    go_at_call 95
    refine R.out.mono ?_
    rintro e w1 ⟨⟨g, rfl, hg, hr⟩, hb⟩
    have hr := Lib.hid hr
    have hb := Lib.hid hb
    go_wp2_with fail
    go_ret
    exact ⟨⟨g, rfl, hg, hr.out⟩, hb.out⟩)
  go_enter Tryz.func47, Tryz.ntmps47
  go_wp2_with fail
  go_at_call 69
  refine G.out.mono ?_
  rintro e w1 ⟨⟨g, rfl, hg, hr⟩, hb⟩
  have hr := Lib.hid hr
  have hb := Lib.hid hb
  go_wp2_with fail
  go_ret
  exact ⟨⟨g, rfl, hg, hr.out⟩, hb.out⟩

theorem own_row_bs {w w' : World} {B : Nat} {v : Value} {n : Nat} {xs : List Int} (h : w.ownsRow B 5 1 v n (cs8 xs)) (hb : Below w.heap.size w w') : Bs w' v xs := (Bs.own h).below hb
theorem nil_clone (w : World) : Calls Tryz.prog 7 #[.slice none 0 0] w fun e w' => e = .returned (.slice none 0 0) ∧ w' = w := by
  have q22 := fun (w : World) (a : Option Addr) (n c n' c' : Nat) => Lib.run_eql_slice_nil (P := Tryz.prog) w 22 5 a n c n' c' Tryz.underlying22
  go_enter Tryz.func7, Tryz.ntmps7
  go_wp2
  go_ret
  exact ⟨rfl, rfl⟩

set_option maxRecDepth 100000 in
set_option maxHeartbeats 2000000 in
theorem signing (vh vp : Value) (xs ys : List Nat) (w : World) (hh : Bs w vh (bi xs)) (hp : Bs w vp (bi ys)) (hx : ∀ x ∈ xs, x < 256) (hy : ∀ x ∈ ys, x < 256) (hxl : xs.length ≤ 30000) (hyl : ys.length ≤ 30000) :
    Calls Tryz.prog 26 #[.slice none 0 0, vh, vp, .bool true] w fun e w' => (∃ v, e = .returned v ∧ Bs w' v (sigB xs ys)) ∧ Below w.heap.size w w' := by
  have HH := Lib.hid hh
  have HP := Lib.hid hp
  have HX := Lib.hid hx
  have HY := Lib.hid hy
  have lx := bi_len xs
  have ly := bi_len ys
  have N := Lib.hid (nil_clone w)
  have C1 := Lib.hid (clone vh (bi xs) w hh (by rw [lx]; omega))
  clear hh hp hx hy lx ly
  go_enter Tryz.func26, Tryz.ntmps26
  go_wp2_with fail
  go_at_call 7
  refine N.out.mono ?_
  rintro e w ⟨rfl, rfl⟩
  clear N
  go_wp2_with fail
  go_at_call 7
  refine C1.out.mono ?_
  rintro e w1 ⟨v1, rfl, own1, hb1⟩
  have B1 := Lib.hid hb1
  have S1 := Lib.hid (Bs.own own1)
  have C2 := Lib.hid (clone vp (bi ys) w1 (HP.out.below hb1) (by rw [bi_len]; omega))
  clear hb1 own1 C1
  go_wp2_with fail
  go_at_call 7
  refine C2.out.mono ?_
  rintro e w2 ⟨v2, rfl, own2, hb2⟩
  have B2 := Lib.hid (B1.out.trans (hb2.mono B1.out.size))
  have S2 := Lib.hid (Bs.own own2)
  have S1 := Lib.hid (S1.out.below hb2)
  have D := Lib.hid (defEnc w2)
  clear hb2 own2 C2
  go_wp2_with fail
  go_at_call 47
  refine D.out.mono ?_
  rintro e w3 ⟨⟨g, rfl, hg, hr⟩, hb3⟩
  have B3 := Lib.hid (B2.out.trans (hb3.mono B2.out.size))
  have J := Lib.hid (signBuf g v1 v2 xs ys w3 hr (S1.out.below hb3) (S2.out.below hb3) HX.out HY.out hxl hyl)
  clear hb3 hr D hg
  go_wp2_with fail
  go_at_call 46
  refine J.out.mono ?_
  rintro e w4 ⟨⟨v, rfl, hv⟩, hb4⟩
  have S4 := Lib.hid hv
  have B4 := Lib.hid (B3.out.trans (hb4.mono B3.out.size))
  clear hv hb4
  go_wp2_with fail
  go_ret
  exact ⟨⟨v, rfl, S4.out⟩, B4.out⟩

set_option maxRecDepth 100000 in
set_option maxHeartbeats 2000000 in
theorem joined (vh vp vs : Value) (xs ys zs : List Nat) (w : World) (hh : Bs w vh (bi xs)) (hp : Bs w vp (bi ys)) (hs : Bs w vs (bi zs)) (hx : ∀ x ∈ xs, x < 256) (hy : ∀ x ∈ ys, x < 256) (hz : ∀ x ∈ zs, x < 256) (hxl : xs.length ≤ 30000) (hyl : ys.length ≤ 30000) (hzl : zs.length ≤ 30000) :
    Calls Tryz.prog 27 #[.slice none 0 0, vh, vp, vs, .bool true] w fun e w' => (∃ v, e = .returned (.tuple #[v, .bool true]) ∧ Bs w' v (joinB xs ys zs) ∧ Fresh w v) ∧ Below w.heap.size w w' := by
  have HH := Lib.hid hh
  have HP := Lib.hid hp
  have HS := Lib.hid hs
  have HX := Lib.hid hx
  have HY := Lib.hid hy
  have HZ := Lib.hid hz
  have N := Lib.hid (nil_clone w)
  have C1 := Lib.hid (clone vh (bi xs) w hh (by rw [bi_len]; omega))
  clear hh hp hs hx hy hz
  go_enter Tryz.func27, Tryz.ntmps27
  go_wp2_with fail
  go_at_call 7
  refine N.out.mono ?_
  rintro e w ⟨rfl, rfl⟩
  clear N
  go_wp2_with fail
  go_at_call 7
  refine C1.out.mono ?_
  rintro e w1 ⟨v1, rfl, own1, hb1⟩
  have B1 := Lib.hid hb1
  have S1 := Lib.hid (Bs.own own1)
  have C2 := Lib.hid (clone vp (bi ys) w1 (HP.out.below hb1) (by rw [bi_len]; omega))
  clear hb1 own1 C1
  go_wp2_with fail
  go_at_call 7
  refine C2.out.mono ?_
  rintro e w2 ⟨v2, rfl, own2, hb2⟩
  have B2 := Lib.hid (B1.out.trans (hb2.mono B1.out.size))
  have S2 := Lib.hid (Bs.own own2)
  have S1 := Lib.hid (S1.out.below hb2)
  have C3 := Lib.hid (clone vs (bi zs) w2 (HS.out.below B2.out) (by rw [bi_len]; omega))
  clear hb2 own2 C2
  go_wp2_with fail
  go_at_call 7
  refine C3.out.mono ?_
  rintro e w3 ⟨v3, rfl, own3, hb3⟩
  have B3 := Lib.hid (B2.out.trans (hb3.mono B2.out.size))
  have S3 := Lib.hid (Bs.own own3)
  have S1 := Lib.hid (S1.out.below hb3)
  have S2 := Lib.hid (S2.out.below hb3)
  have D := Lib.hid (defEnc w3)
  clear hb3 own3 C3
  go_wp2_with fail
  go_at_call 47
  refine D.out.mono ?_
  rintro e w4 ⟨⟨g, rfl, hg, hr⟩, hb4⟩
  have B4 := Lib.hid (B3.out.trans (hb4.mono B3.out.size))
  have J := Lib.hid (joinC g v1 v2 v3 xs ys zs w4 hr (S1.out.below hb4) (S2.out.below hb4) (S3.out.below hb4) HX.out HY.out HZ.out hxl hyl hzl)
  clear hb4 hr D hg
  go_wp2_with fail
  go_at_call 48
  refine J.out.mono ?_
  rintro e w5 ⟨⟨v, rfl, hv, hf⟩, hb5⟩
  have HFR : Hid (Fresh w v) := Lib.hid (fun k hk => Nat.le_trans B4.out.size (hf k hk))
  have S5 := Lib.hid hv
  have B5 := Lib.hid (B4.out.trans (hb5.mono B4.out.size))
  clear hv hb5 hf
  go_wp2_with fail
  go_ret2
  exact ⟨⟨v, rfl, S5.out, HFR.out⟩, B5.out⟩
end Go.Proofs.YtaemdppihpefnaaGreatDoor

/- encoding/base64's assemble64 and assemble32; byteorder's BEPutUint64 and BEPutUint32. -/
namespace Go.Proofs.YtaemdppihpefnaaGreatDoor
open Go.RowKit
set_option linter.unusedVariables false

theorem tw64 : (2 : Int) ^ 64 = 18446744073709551616 := by decide
theorem or_join64 (i : Nat) (p x y : Int) (hp : (2 : Int) ^ i = p) (hx0 : 0 ≤ x) (hx : x % p = 0) (hx1 : x < 18446744073709551616) (hy0 : 0 ≤ y) (hy : y < p) (hy1 : y < 18446744073709551616) : bits .or .u64 x y = x + y :=
  bits_join .u64 64 (by decide) (fun n h0 h1 => by rw [tw64] at h1; exact IntWalk.u64_in n ⟨h0, by omega⟩) i x y hx0 (by rw [hp]; exact hx) (by rw [tw64]; exact hx1) hy0 (by rw [hp]; exact hy) (by rw [tw64]; exact hy1)
theorem tw32 : (2 : Int) ^ 32 = 4294967296 := by decide
theorem or_join32 (i : Nat) (p x y : Int) (hp : (2 : Int) ^ i = p) (hx0 : 0 ≤ x) (hx : x % p = 0) (hx1 : x < 4294967296) (hy0 : 0 ≤ y) (hy : y < p) (hy1 : y < 4294967296) : bits .or .u32 x y = x + y :=
  bits_join .u32 32 (by decide) (fun n h0 h1 => by rw [tw32] at h1; exact IntWalk.u32_in n ⟨h0, by omega⟩) i x y hx0 (by rw [hp]; exact hx) (by rw [tw32]; exact hx1) hy0 (by rw [hp]; exact hy) (by rw [tw32]; exact hy1)
theorem tw8 : (2 : Int) ^ 8 = 256 := by decide
/-- Six bits or six bits are six bits. -/
theorem or6 (x y : Nat) (hx : x < 64) (hy : y < 64) : ∃ z : Nat, z < 64 ∧ bits .or .u8 (x : Int) (y : Int) = (z : Int) :=
  ⟨x ||| y, Nat.or_lt_two_pow (n := 6) hx hy, (bits_nat .u8 8 (by decide) (fun n h0 h1 => by rw [tw8] at h1; exact IntWalk.u8_in n (by omega)) x y (by omega) (by omega)).2⟩

set_option maxRecDepth 100000 in
set_option maxHeartbeats 2000000 in
theorem asm64 (a b c d e f g h : Nat) (ha : a < 64) (hb : b < 64) (hc : c < 64) (hd : d < 64) (he : e < 64) (hf : f < 64) (hg : g < 64) (hh : h < 64) (w : World) :
    Calls Tryz.prog 291 #[.int .u8 a, .int .u8 b, .int .u8 c, .int .u8 d, .int .u8 e, .int .u8 f, .int .u8 g, .int .u8 h] w fun r w' =>
      r = .returned (.tuple #[.int .u64 ((a * 288230376151711744 + b * 4503599627370496 + c * 70368744177664 + d * 1099511627776 + e * 17179869184 + f * 268435456 + g * 4194304 + h * 65536 : Nat) : Int), .bool true]) ∧ w' = w := by
  obtain ⟨z1, y1, x1⟩ := or6 a b ha hb
  obtain ⟨z2, y2, x2⟩ := or6 z1 c y1 hc
  obtain ⟨z3, y3, x3⟩ := or6 z2 d y2 hd
  obtain ⟨z4, y4, x4⟩ := or6 z3 e y3 he
  obtain ⟨z5, y5, x5⟩ := or6 z4 f y4 hf
  obtain ⟨z6, y6, x6⟩ := or6 z5 g y5 hg
  obtain ⟨z7, y7, x7⟩ := or6 z6 h y6 hh
  have n7 : ((z7 : Int) == 255) = false := by rw [beq_eq_false_iff_ne]; omega
  have n7b : ¬ (z7 : Int) = 255 := by omega
  obtain ⟨S2, e2⟩ : ∃ S : Nat, S = a * 288230376151711744 + b * 4503599627370496 := ⟨_, rfl⟩
  obtain ⟨S3, e3⟩ : ∃ S : Nat, S = S2 + c * 70368744177664 := ⟨_, rfl⟩
  obtain ⟨S4, e4⟩ : ∃ S : Nat, S = S3 + d * 1099511627776 := ⟨_, rfl⟩
  obtain ⟨S5, e5⟩ : ∃ S : Nat, S = S4 + e * 17179869184 := ⟨_, rfl⟩
  obtain ⟨S6, e6⟩ : ∃ S : Nat, S = S5 + f * 268435456 := ⟨_, rfl⟩
  obtain ⟨S7, e7⟩ : ∃ S : Nat, S = S6 + g * 4194304 := ⟨_, rfl⟩
  obtain ⟨S8, e8⟩ : ∃ S : Nat, S = S7 + h * 65536 := ⟨_, rfl⟩
  have v2 : bits .or .u64 ((a : Int) * 288230376151711744) ((b : Int) * 4503599627370496) = (S2 : Int) := by
    rw [or_join64 58 288230376151711744 _ _ (by decide) (by omega) (by omega) (by omega) (by omega) (by omega) (by omega)]; omega
  have v3 : bits .or .u64 (S2 : Int) ((c : Int) * 70368744177664) = (S3 : Int) := by
    rw [or_join64 52 4503599627370496 _ _ (by decide) (by omega) (by omega) (by omega) (by omega) (by omega) (by omega)]; omega
  have v4 : bits .or .u64 (S3 : Int) ((d : Int) * 1099511627776) = (S4 : Int) := by
    rw [or_join64 46 70368744177664 _ _ (by decide) (by omega) (by omega) (by omega) (by omega) (by omega) (by omega)]; omega
  have v5 : bits .or .u64 (S4 : Int) ((e : Int) * 17179869184) = (S5 : Int) := by
    rw [or_join64 40 1099511627776 _ _ (by decide) (by omega) (by omega) (by omega) (by omega) (by omega) (by omega)]; omega
  have v6 : bits .or .u64 (S5 : Int) ((f : Int) * 268435456) = (S6 : Int) := by
    rw [or_join64 34 17179869184 _ _ (by decide) (by omega) (by omega) (by omega) (by omega) (by omega) (by omega)]; omega
  have v7 : bits .or .u64 (S6 : Int) ((g : Int) * 4194304) = (S7 : Int) := by
    rw [or_join64 28 268435456 _ _ (by decide) (by omega) (by omega) (by omega) (by omega) (by omega) (by omega)]; omega
  have v8 : bits .or .u64 (S7 : Int) ((h : Int) * 65536) = (S8 : Int) := by
    rw [or_join64 22 4194304 _ _ (by decide) (by omega) (by omega) (by omega) (by omega) (by omega) (by omega)]; omega
  have E := Lib.hid (show a * 288230376151711744 + b * 4503599627370496 + c * 70368744177664 + d * 1099511627776 + e * 17179869184 + f * 268435456 + g * 4194304 + h * 65536 = S8 by omega)
  clear e2 e3 e4 e5 e6 e7 e8
  rw [E.out]
  go_enter Tryz.func291, Tryz.ntmps291
  go_wp2_with fail
  go_ret2
  exact ⟨rfl, rfl⟩

set_option maxRecDepth 100000 in
set_option maxHeartbeats 2000000 in
theorem asm32 (a b c d : Nat) (ha : a < 64) (hb : b < 64) (hc : c < 64) (hd : d < 64) (w : World) :
    Calls Tryz.prog 294 #[.int .u8 a, .int .u8 b, .int .u8 c, .int .u8 d] w fun r w' =>
      r = .returned (.tuple #[.int .u32 ((a * 67108864 + b * 1048576 + c * 16384 + d * 256 : Nat) : Int), .bool true]) ∧ w' = w := by
  obtain ⟨z1, y1, x1⟩ := or6 a b ha hb
  obtain ⟨z2, y2, x2⟩ := or6 z1 c y1 hc
  obtain ⟨z3, y3, x3⟩ := or6 z2 d y2 hd
  have n7 : ((z3 : Int) == 255) = false := by rw [beq_eq_false_iff_ne]; omega
  have n7b : ¬ (z3 : Int) = 255 := by omega
  obtain ⟨S2, e2⟩ : ∃ S : Nat, S = a * 67108864 + b * 1048576 := ⟨_, rfl⟩
  obtain ⟨S3, e3⟩ : ∃ S : Nat, S = S2 + c * 16384 := ⟨_, rfl⟩
  obtain ⟨S4, e4⟩ : ∃ S : Nat, S = S3 + d * 256 := ⟨_, rfl⟩
  have v2 : bits .or .u32 ((a : Int) * 67108864) ((b : Int) * 1048576) = (S2 : Int) := by
    rw [or_join32 26 67108864 _ _ (by decide) (by omega) (by omega) (by omega) (by omega) (by omega) (by omega)]; omega
  have v3 : bits .or .u32 (S2 : Int) ((c : Int) * 16384) = (S3 : Int) := by
    rw [or_join32 20 1048576 _ _ (by decide) (by omega) (by omega) (by omega) (by omega) (by omega) (by omega)]; omega
  have v4 : bits .or .u32 (S3 : Int) ((d : Int) * 256) = (S4 : Int) := by
    rw [or_join32 14 16384 _ _ (by decide) (by omega) (by omega) (by omega) (by omega) (by omega) (by omega)]; omega
  have E := Lib.hid (show a * 67108864 + b * 1048576 + c * 16384 + d * 256 = S4 by omega)
  clear e2 e3 e4
  rw [E.out]
  go_enter Tryz.func294, Tryz.ntmps294
  go_wp2_with fail
  go_ret2
  exact ⟨rfl, rfl⟩

/-- Numbers one behind the other are set. -/
def sets (cur : List Int) : Nat → List Int → List Int
  | _, [] => cur
  | o, v :: r => sets (cur.set o v) (o + 1) r
theorem sets_len : ∀ (vs : List Int) (o : Nat) (cur : List Int), (sets cur o vs).length = cur.length
  | [], _, _ => rfl
  | v :: r, o, cur => by rw [sets, sets_len r]; simp
theorem sets_get : ∀ (vs : List Int) (o : Nat) (cur : List Int) (j : Nat), o + vs.length ≤ cur.length → (sets cur o vs).getD j 0 = if o ≤ j ∧ j < o + vs.length then vs.getD (j - o) 0 else cur.getD j 0
  | [], o, cur, j, _ => by rw [if_neg (by simp only [List.length_nil]; omega)]; rfl
  | v :: r, o, cur, j, h => by
    rw [List.length_cons] at h
    rw [sets, sets_get r (o + 1) (cur.set o v) j (by simp; omega)]
    by_cases h1 : o + 1 ≤ j ∧ j < o + 1 + r.length
    · rw [if_pos h1, if_pos (by rw [List.length_cons]; omega), show j - o = (j - (o + 1)) + 1 by omega]; simp
    · rw [if_neg h1]
      by_cases h2 : j = o
      · subst h2
        rw [if_pos (by rw [List.length_cons]; omega)]
        have : j < cur.length := by omega
        simp [List.getD, this]
      · rw [if_neg (by rw [List.length_cons]; omega)]
        simp [List.getD, List.getElem?_set_ne (Ne.symm h2)]

set_option maxRecDepth 100000 in
set_option maxHeartbeats 2000000 in
theorem bput64 (gd o n c V : Nat) (cur : List Int) (w : World) (hr : Row w gd 5 (cs8 cur)) (hn : 8 ≤ n) (hl : o + 8 ≤ cur.length) :
    Calls Tryz.prog 292 #[.slice (some ⟨gd, o, none⟩) n c, .int .u64 (V : Nat)] w fun r w' =>
      (∃ v, r = .returned v) ∧ Row w' gd 5 (cs8 (sets cur o [((V / 72057594037927936 % 256 : Nat) : Int), ((V / 281474976710656 % 256 : Nat) : Int), ((V / 1099511627776 % 256 : Nat) : Int), ((V / 4294967296 % 256 : Nat) : Int), ((V / 16777216 % 256 : Nat) : Int), ((V / 65536 % 256 : Nat) : Int), ((V / 256 % 256 : Nat) : Int), ((V % 256 : Nat) : Int)])) ∧ Only gd w w' := by
  have ff := hr.unfrozen
  have d0 : w.cell? ⟨gd, o, none⟩ = some (.int .u8 (cur.getD (o) 0)) := by rw [hr.cell, get_cs8 _ _ (by omega)]
  have d1 : w.cell? ⟨gd, o + 1, none⟩ = some (.int .u8 (cur.getD (o + 1) 0)) := by rw [hr.cell, get_cs8 _ _ (by omega)]
  have d2 : w.cell? ⟨gd, o + 2, none⟩ = some (.int .u8 (cur.getD (o + 2) 0)) := by rw [hr.cell, get_cs8 _ _ (by omega)]
  have d3 : w.cell? ⟨gd, o + 3, none⟩ = some (.int .u8 (cur.getD (o + 3) 0)) := by rw [hr.cell, get_cs8 _ _ (by omega)]
  have d4 : w.cell? ⟨gd, o + 4, none⟩ = some (.int .u8 (cur.getD (o + 4) 0)) := by rw [hr.cell, get_cs8 _ _ (by omega)]
  have d5 : w.cell? ⟨gd, o + 5, none⟩ = some (.int .u8 (cur.getD (o + 5) 0)) := by rw [hr.cell, get_cs8 _ _ (by omega)]
  have d6 : w.cell? ⟨gd, o + 6, none⟩ = some (.int .u8 (cur.getD (o + 6) 0)) := by rw [hr.cell, get_cs8 _ _ (by omega)]
  have d7 : w.cell? ⟨gd, o + 7, none⟩ = some (.int .u8 (cur.getD (o + 7) 0)) := by rw [hr.cell, get_cs8 _ _ (by omega)]
  generalize he0 : cur.getD (o) 0 = e0 at d0
  clear he0
  generalize he1 : cur.getD (o + 1) 0 = e1 at d1
  clear he1
  generalize he2 : cur.getD (o + 2) 0 = e2 at d2
  clear he2
  generalize he3 : cur.getD (o + 3) 0 = e3 at d3
  clear he3
  generalize he4 : cur.getD (o + 4) 0 = e4 at d4
  clear he4
  generalize he5 : cur.getD (o + 5) 0 = e5 at d5
  clear he5
  generalize he6 : cur.getD (o + 6) 0 = e6 at d6
  clear he6
  generalize he7 : cur.getD (o + 7) 0 = e7 at d7
  clear he7
  have l0 : (0 : Int) < n := by omega
  have l1 : (1 : Int) < n := by omega
  have l2 : (2 : Int) < n := by omega
  have l3 : (3 : Int) < n := by omega
  have l4 : (4 : Int) < n := by omega
  have l5 : (5 : Int) < n := by omega
  have l6 : (6 : Int) < n := by omega
  have l7 : (7 : Int) < n := by omega
  have v0 : IntKind.u8.wrap ((V : Int) / 72057594037927936) = ((V / 72057594037927936 % 256 : Nat) : Int) := by rw [IntKind.wrap_u8']; omega
  have v1 : IntKind.u8.wrap ((V : Int) / 281474976710656) = ((V / 281474976710656 % 256 : Nat) : Int) := by rw [IntKind.wrap_u8']; omega
  have v2 : IntKind.u8.wrap ((V : Int) / 1099511627776) = ((V / 1099511627776 % 256 : Nat) : Int) := by rw [IntKind.wrap_u8']; omega
  have v3 : IntKind.u8.wrap ((V : Int) / 4294967296) = ((V / 4294967296 % 256 : Nat) : Int) := by rw [IntKind.wrap_u8']; omega
  have v4 : IntKind.u8.wrap ((V : Int) / 16777216) = ((V / 16777216 % 256 : Nat) : Int) := by rw [IntKind.wrap_u8']; omega
  have v5 : IntKind.u8.wrap ((V : Int) / 65536) = ((V / 65536 % 256 : Nat) : Int) := by rw [IntKind.wrap_u8']; omega
  have v6 : IntKind.u8.wrap ((V : Int) / 256) = ((V / 256 % 256 : Nat) : Int) := by rw [IntKind.wrap_u8']; omega
  have v7 : IntKind.u8.wrap ((V : Int)) = ((V % 256 : Nat) : Int) := by rw [IntKind.wrap_u8']; omega
  generalize V / 72057594037927936 % 256 = b0 at v0 ⊢
  generalize V / 281474976710656 % 256 = b1 at v1 ⊢
  generalize V / 1099511627776 % 256 = b2 at v2 ⊢
  generalize V / 4294967296 % 256 = b3 at v3 ⊢
  generalize V / 16777216 % 256 = b4 at v4 ⊢
  generalize V / 65536 % 256 = b5 at v5 ⊢
  generalize V / 256 % 256 = b6 at v6 ⊢
  generalize V % 256 = b7 at v7 ⊢
  have HR := Lib.hid hr
  clear hr hl hn
  have HS := Lib.hid (show Row _ gd 5 (cs8 (sets cur o [(b0 : Int), (b1 : Int), (b2 : Int), (b3 : Int), (b4 : Int), (b5 : Int), (b6 : Int), (b7 : Int)])) from (set8b (set8b (set8b (set8b (set8b (set8b (set8b (set8b HR.out o (b0 : Int)) (o + 1) (b1 : Int)) (o + 2) (b2 : Int)) (o + 3) (b3 : Int)) (o + 4) (b4 : Int)) (o + 5) (b5 : Int)) (o + 6) (b6 : Int)) (o + 7) (b7 : Int)))
  have HO := Lib.hid ((((((((Only.set w gd o (.int .u8 (b0 : Int))).thn (Only.set _ gd (o + 1) (.int .u8 (b1 : Int)))).thn (Only.set _ gd (o + 2) (.int .u8 (b2 : Int)))).thn (Only.set _ gd (o + 3) (.int .u8 (b3 : Int)))).thn (Only.set _ gd (o + 4) (.int .u8 (b4 : Int)))).thn (Only.set _ gd (o + 5) (.int .u8 (b5 : Int)))).thn (Only.set _ gd (o + 6) (.int .u8 (b6 : Int)))).thn (Only.set _ gd (o + 7) (.int .u8 (b7 : Int))))
  go_enter Tryz.func292, Tryz.ntmps292
  go_wp2_with fail
  first
    | go_end0
    | ((try simp only [Exit.inBlock, Exit.then]); refine bodyPost_ret (results_none rfl _ _ _) rfl ?_)
  exact ⟨⟨_, rfl⟩, HS.out, HO.out⟩

set_option maxRecDepth 100000 in
set_option maxHeartbeats 2000000 in
theorem bput32 (gd o n c V : Nat) (cur : List Int) (w : World) (hr : Row w gd 5 (cs8 cur)) (hn : 4 ≤ n) (hl : o + 4 ≤ cur.length) :
    Calls Tryz.prog 295 #[.slice (some ⟨gd, o, none⟩) n c, .int .u32 (V : Nat)] w fun r w' =>
      (∃ v, r = .returned v) ∧ Row w' gd 5 (cs8 (sets cur o [((V / 16777216 % 256 : Nat) : Int), ((V / 65536 % 256 : Nat) : Int), ((V / 256 % 256 : Nat) : Int), ((V % 256 : Nat) : Int)])) ∧ Only gd w w' := by
  have ff := hr.unfrozen
  have d0 : w.cell? ⟨gd, o, none⟩ = some (.int .u8 (cur.getD (o) 0)) := by rw [hr.cell, get_cs8 _ _ (by omega)]
  have d1 : w.cell? ⟨gd, o + 1, none⟩ = some (.int .u8 (cur.getD (o + 1) 0)) := by rw [hr.cell, get_cs8 _ _ (by omega)]
  have d2 : w.cell? ⟨gd, o + 2, none⟩ = some (.int .u8 (cur.getD (o + 2) 0)) := by rw [hr.cell, get_cs8 _ _ (by omega)]
  have d3 : w.cell? ⟨gd, o + 3, none⟩ = some (.int .u8 (cur.getD (o + 3) 0)) := by rw [hr.cell, get_cs8 _ _ (by omega)]
  generalize he0 : cur.getD (o) 0 = e0 at d0
  clear he0
  generalize he1 : cur.getD (o + 1) 0 = e1 at d1
  clear he1
  generalize he2 : cur.getD (o + 2) 0 = e2 at d2
  clear he2
  generalize he3 : cur.getD (o + 3) 0 = e3 at d3
  clear he3
  have l0 : (0 : Int) < n := by omega
  have l1 : (1 : Int) < n := by omega
  have l2 : (2 : Int) < n := by omega
  have l3 : (3 : Int) < n := by omega
  have v0 : IntKind.u8.wrap ((V : Int) / 16777216) = ((V / 16777216 % 256 : Nat) : Int) := by rw [IntKind.wrap_u8']; omega
  have v1 : IntKind.u8.wrap ((V : Int) / 65536) = ((V / 65536 % 256 : Nat) : Int) := by rw [IntKind.wrap_u8']; omega
  have v2 : IntKind.u8.wrap ((V : Int) / 256) = ((V / 256 % 256 : Nat) : Int) := by rw [IntKind.wrap_u8']; omega
  have v3 : IntKind.u8.wrap ((V : Int)) = ((V % 256 : Nat) : Int) := by rw [IntKind.wrap_u8']; omega
  generalize V / 16777216 % 256 = b0 at v0 ⊢
  generalize V / 65536 % 256 = b1 at v1 ⊢
  generalize V / 256 % 256 = b2 at v2 ⊢
  generalize V % 256 = b3 at v3 ⊢
  have HR := Lib.hid hr
  clear hr hl hn
  have HS := Lib.hid (show Row _ gd 5 (cs8 (sets cur o [(b0 : Int), (b1 : Int), (b2 : Int), (b3 : Int)])) from (set8b (set8b (set8b (set8b HR.out o (b0 : Int)) (o + 1) (b1 : Int)) (o + 2) (b2 : Int)) (o + 3) (b3 : Int)))
  have HO := Lib.hid ((((Only.set w gd o (.int .u8 (b0 : Int))).thn (Only.set _ gd (o + 1) (.int .u8 (b1 : Int)))).thn (Only.set _ gd (o + 2) (.int .u8 (b2 : Int)))).thn (Only.set _ gd (o + 3) (.int .u8 (b3 : Int))))
  go_enter Tryz.func295, Tryz.ntmps295
  go_wp2_with fail
  first
    | go_end0
    | ((try simp only [Exit.inBlock, Exit.then]); refine bodyPost_ret (results_none rfl _ _ _) rfl ?_)
  exact ⟨⟨_, rfl⟩, HS.out, HO.out⟩
end Go.Proofs.YtaemdppihpefnaaGreatDoor

/- encoding/base64's decodeQuantum, with no padding: up to four letters. -/
namespace Go.Proofs.YtaemdppihpefnaaGreatDoor
open Go.RowKit
set_option linter.unusedVariables false

theorem map_ok : ((List.range 64).all fun i => decide ((xl 64).getD (64 + B64.lt i) 0 = (i : Nat))) = true := by decide +kernel
/-- A letter's number stands in the map. -/
theorem map_at {w : World} {g : Nat} {T : TypeId} {p : Int} (h : Row w g T (eC (xl 64) p)) (i : Nat) (hi : i < 64) : w.cell? ⟨g, 64 + B64.lt i, none⟩ = some (.int .u8 (i : Nat)) := by
  have := List.all_eq_true.1 map_ok i (List.mem_range.2 hi)
  have hl := (xlfree hi).2.1
  rw [h.cell, eC, List.getElem?_append_left (by simp [cs8, xl_len]; omega), get_cs8 _ _ (by rw [xl_len]; omega)]
  simpa using this
theorem strict_cell {w : World} {g : Nat} {T : TypeId} {X : List Int} {p : Int} (h : Row w g T (eC X p)) (hX : X.length = 320) : w.cell? ⟨g, 321, none⟩ = some (.bool false) := by
  rw [h.cell, eC, List.getElem?_append_right (by simp [cs8, hX])]
  simp [cs8, hX, tlC]
theorem rangeM {w : World} {g : Nat} {T : TypeId} {p : Int} (h : Row w g T (eC (xl 64) p)) : w.rangeAt g 64 (cs8 ((xl 64).drop 64)) := by
  intro j v hv
  have hj : j < 256 := by
    have := (List.getElem?_eq_some_iff.1 hv).1
    simp [cs8, xl_len] at this
    omega
  rw [h.cell, eC, List.getElem?_append_left (by simp [cs8, xl_len]; omega)]
  simp only [cs8, List.getElem?_map, List.getElem?_drop] at hv ⊢
  exact hv

/-- The buffer behind k letters. -/
def dbuf (d : Nat → Nat) : Nat → List Int
  | 0 => [0, 0, 0, 0]
  | k + 1 => (dbuf d k).set k (d k)

/-- What the last bytes become. -/
def qset (r o : Nat) (cur : List Int) (b0 b1 b2 : Nat) : List Int :=
  if r = 4 then ((cur.set (o + 2) b2).set (o + 1) b1).set o b0 else if r = 3 then (cur.set (o + 1) b1).set o b0 else cur.set o b0
theorem dbuf_len (d : Nat → Nat) : ∀ m, (dbuf d m).length = 4
  | 0 => rfl
  | m + 1 => by simp [dbuf, dbuf_len d m]

set_option maxRecDepth 100000 in
set_option maxHeartbeats 4000000 in
theorem quantum (g gd o n c gs os len cs si r x0 x1 x2 x3 b0 b1 b2 : Nat) (cur : List Int) (w : World) (h : Row w g 299 (eC (xl 64) (-1))) (hd : Row w gd 5 (cs8 cur)) (hne : gd ≠ g)
    (hr : (r = 4 ∧ si + 4 ≤ len) ∨ (r = 3 ∧ len = si + 3 ∧ x3 = 0) ∨ (r = 2 ∧ len = si + 2 ∧ x2 = 0 ∧ x3 = 0)) (hn : r - 1 ≤ n) (hl : o + (r - 1) ≤ cur.length) (hlen : len ≤ 1000000) (hlc : len ≤ cs)
    (y0 : x0 < 64) (y1 : x1 < 64) (y2 : x2 < 64) (y3 : x3 < 64) (hb0 : b0 < 256) (hb1 : b1 < 256) (hb2 : b2 < 256) (hV : x0 * 262144 + x1 * 4096 + x2 * 64 + x3 = b0 * 65536 + b1 * 256 + b2)
    (hs : ∀ i, i < r → w.cell? ⟨gs, os + (si + i), none⟩ = some (.int .u8 (B64.lt ([x0, x1, x2, x3].getD i 0) : Nat))) :
    Calls Tryz.prog 293 #[.pointer (some ⟨g, 0, none⟩), .slice (some ⟨gd, o, none⟩) n c, .slice (some ⟨gs, os, none⟩) len cs, .int .i64 si] w fun e w' =>
      e = .returned (.tuple #[.int .i64 ((si + r : Nat) : Int), .int .i64 ((r - 1 : Nat) : Int), .nilIface]) ∧ Row w' gd 5 (cs8 (qset r o cur b0 b1 b2)) ∧ But gd w w' := by
  have hH := Lib.hid h
  have hD := Lib.hid hd
  obtain ⟨d, hdd⟩ : ∃ d : Nat → Nat, d = fun i => [x0, x1, x2, x3].getD i 0 := ⟨_, rfl⟩
  have HS : Hid (∀ i, i < r → w.cell? ⟨gs, os + (si + i), none⟩ = some (.int .u8 (B64.lt (d i) : Nat))) := Lib.hid (by rw [hdd]; exact hs)
  have H64 : Hid (∀ i, i < r → d i < 64) := Lib.hid (fun i hi => by
    have : i = 0 ∨ i = 1 ∨ i = 2 ∨ i = 3 := by omega
    rcases this with rfl | rfl | rfl | rfl <;> (rw [hdd]; assumption))
  have HDD : Hid (cs8 (dbuf d 4) = cs8 [(x0 : Int), x1, x2, x3] ∧ (x3 = 0 → cs8 (dbuf d 3) = cs8 [(x0 : Int), x1, x2, x3]) ∧ (x2 = 0 → x3 = 0 → cs8 (dbuf d 2) = cs8 [(x0 : Int), x1, x2, x3])) := Lib.hid (by
    subst hdd
    refine ⟨rfl, fun h => ?_, fun h h' => ?_⟩
    · subst h; rfl
    · subst h h'; rfl)
  have hi := Lib.hid (show (Tryz.prog.info? 297).map (·.size) = some (cs8 ((xl 64).drop 64)).length by rw [show (cs8 ((xl 64).drop 64)).length = 256 by simp [cs8, xl_len]]; kernel_rfl)
  have hu : Tryz.prog.underlying 297 = some (.array 256 5) := by kernel_rfl
  clear hs hdd
  have hne2 : ¬ g = gd := fun h => hne h.symm
  have hne3 : ¬ gd = g := hne
  have hnB1 : ¬ w.heap.size = gd := by have := hd.lt; omega
  have hnB2 : ¬ gd = w.heap.size := by have := hd.lt; omega
  have hnB3 : ¬ w.heap.size = g := by have := h.lt; omega
  have hnB4 : ¬ g = w.heap.size := by have := h.lt; omega
  clear h hd
  have HR0 := Lib.hid (Row.alloc w (cs8 [0, 0, 0, 0]) 394)
  have HB0 := Lib.hid ((Below.refl w.heap.size w).alloc (Nat.le_refl _) (.cells (cs8 [0, 0, 0, 0]).toArray 394))
  have hR1 := Lib.hid (rangeM (hH.out.below HB0.out hH.out.lt))
  go_enter Tryz.func293, Tryz.ntmps293
  go_wp2_with (refine wpList_load_mid rfl 297 (.tmp 19) rfl g 64 rfl (cs8 ((xl 64).drop 64)) _ hR1.out hu rfl hi.out ?_)
  go_loopw [3, 10, 12, 13] (fun sv ev dl j wr => ∃ k : Nat, k ≤ r ∧ k ≤ 4 ∧ sv = .int .i64 ((si + k : Nat) : Int) ∧ ev = .nilIface ∧ dl = .int .i64 4 ∧ j = .int .i64 k ∧ Hid (Row wr w.heap.size 394 (cs8 (dbuf d k))) ∧ Hid (Below w.heap.size w wr)) (fun _ _ _ j _ => 5 - (intOf j).toNat)
  case atStart => exact ⟨0, by omega, by omega, by simp, rfl, rfl, rfl, HR0, HB0⟩
  case round =>
    obtain ⟨k, hk, hk4, rfl, rfl, rfl, rfl, hR, hB⟩ := hrel
    clear HR0 HB0 hR1
    have hH1 := Lib.hid (hH.out.below hB.out hH.out.lt)
    have ff := hR.out.unfrozen
    by_cases hkr : k < r
    · have c0 : wr.cell? ⟨gs, os + (si + k), none⟩ = some (.int .u8 (B64.lt (d k) : Nat)) := by
        have h := HS.out k hkr
        rw [hB.out.cell (p := ⟨gs, os + (si + k), none⟩) (World.block_lt_of_cell? w _ h)]; exact h
      have t0 := map_at hH1.out (d k) (H64.out k hkr)
      have hd6 := H64.out k hkr
      have hl1 := (xlfree hd6).2.1
      have q0 : wr.cell? ⟨w.heap.size, k, none⟩ = some (.int .u8 ((dbuf d k).getD k 0)) := by
        rw [hR.out.cell, get_cs8]
        rw [dbuf_len]; omega
      have HRn := Lib.hid (set8b hR.out k (d k))
      obtain ⟨dk, hdk⟩ : ∃ x, d k = x := ⟨_, rfl⟩
      have HDK := Lib.hid hdk
      rw [hdk] at c0 t0 hd6 hl1 HRn
      generalize B64.lt dk = l at c0 t0 hl1
      generalize (dbuf d k).getD k 0 = e0 at q0
      obtain ⟨q, hq⟩ : ∃ q, si + k = q := ⟨_, rfl⟩
      have HQ := Lib.hid hq
      rw [hq] at c0
      have hql : q < len := by omega
      have hqI : (q : Int) < len := by omega
      have hqe : ((len : Int) == (q : Int)) = false := by rw [beq_eq_false_iff_ne]; omega
      have hqe2 : ¬ (len : Int) = (q : Int) := by omega
      have hd255 : ¬ (dk : Int) = 255 := by omega
      have hd255b : ((dk : Int) == 255) = false := by rw [beq_eq_false_iff_ne]; omega
      have hlI : (l : Int) < 256 := by omega
      have hkI : (k : Int) < 4 := by omega
      have hw1 : IntKind.i64.wrap ((q : Int) + 1) = (q : Int) + 1 := IntWalk.i64_in _ (by omega)
      have hw2 : IntKind.i64.wrap ((k : Int) + 1) = (k : Int) + 1 := IntWalk.i64_in _ (by omega)
      rw [hq]
      clear hq hdk hV hr
      go_wp2_with fail
      refine ⟨⟨k + 1, by omega, by omega, by have := HQ.out; rw [show ((si + (k + 1) : Nat) : Int) = (q : Int) + 1 by omega], rfl, rfl, by rw [show ((k + 1 : Nat) : Int) = (k : Int) + 1 by omega], Lib.hid ?_, Lib.hid (hB.out.setCell (Nat.le_refl _) _)⟩, by simp [intOf]; omega⟩
      have := HRn.out
      rw [dbuf, HDK.out]
      exact this
    · have hkr : k = r := by omega
      subst hkr
      have HRX : Hid (Row wr w.heap.size 394 (cs8 [(x0 : Int), x1, x2, x3])) := Lib.hid (by
        rcases hr with ⟨rfl, _⟩ | ⟨rfl, _, h3⟩ | ⟨rfl, _, h2, h3⟩
        · rw [← HDD.out.1]; exact hR.out
        · rw [← HDD.out.2.1 h3]; exact hR.out
        · rw [← HDD.out.2.2 h2 h3]; exact hR.out)
      have q0 : wr.cell? ⟨w.heap.size, 0, none⟩ = some (.int .u8 (x0 : Int)) := by rw [HRX.out.cell]; rfl
      have q1 : wr.cell? ⟨w.heap.size, 1, none⟩ = some (.int .u8 (x1 : Int)) := by rw [HRX.out.cell]; rfl
      have q2 : wr.cell? ⟨w.heap.size, 2, none⟩ = some (.int .u8 (x2 : Int)) := by rw [HRX.out.cell]; rfl
      have q3 : wr.cell? ⟨w.heap.size, 3, none⟩ = some (.int .u8 (x3 : Int)) := by rw [HRX.out.cell]; rfl
      have hsx : Hid ((k = 4 ∧ si + 4 ≤ len) ∨ (k = 3 ∧ len = si + 3) ∨ (k = 2 ∧ len = si + 2)) := Lib.hid (by omega)
      obtain ⟨S1, e1⟩ : ∃ S : Nat, S = x0 * 262144 + x1 * 4096 := ⟨_, rfl⟩
      obtain ⟨S2, e2⟩ : ∃ S : Nat, S = S1 + x2 * 64 := ⟨_, rfl⟩
      obtain ⟨S3, e3⟩ : ∃ S : Nat, S = S2 + x3 := ⟨_, rfl⟩
      have v1 : bits .or .u64 ((x0 : Int) * 262144) ((x1 : Int) * 4096) = (S1 : Int) := by
        rw [or_join64 18 262144 _ _ (by decide) (by omega) (by omega) (by omega) (by omega) (by omega) (by omega)]; omega
      have v2 : bits .or .u64 (S1 : Int) ((x2 : Int) * 64) = (S2 : Int) := by
        rw [or_join64 12 4096 _ _ (by decide) (by omega) (by omega) (by omega) (by omega) (by omega) (by omega)]; omega
      have v3 : bits .or .u64 (S2 : Int) (x3 : Int) = (S3 : Int) := by
        rw [or_join64 6 64 _ _ (by decide) (by omega) (by omega) (by omega) (by omega) (by omega) (by omega)]; omega
      have u0 : IntKind.u8.wrap ((S3 : Int) / 65536) = (b0 : Int) := by rw [IntKind.wrap_u8']; omega
      have u1 : IntKind.u8.wrap ((S3 : Int) / 256) = (b1 : Int) := by rw [IntKind.wrap_u8']; omega
      have u2 : IntKind.u8.wrap (S3 : Int) = (b2 : Int) := by rw [IntKind.wrap_u8']; omega
      have hS3 : S3 < 16777216 := by omega
      have hst := strict_cell hH1.out (xl_len 64)
      have hpd := pad_cell hH1.out (xl_len 64)
      have HDr := Lib.hid (hD.out.below hB.out hD.out.lt)
      have fd := HDr.out.unfrozen
      clear e1 e2 e3 hV hr hR HRX
      rcases hsx.out with ⟨rfl, hsl⟩ | ⟨rfl, rfl⟩ | ⟨rfl, rfl⟩
      · clear hsx
        have d0 : wr.cell? ⟨gd, o, none⟩ = some (.int .u8 (cur.getD (o) 0)) := by rw [HDr.out.cell, get_cs8 _ _ (by omega)]
        have d1 : wr.cell? ⟨gd, o + 1, none⟩ = some (.int .u8 (cur.getD (o + 1) 0)) := by rw [HDr.out.cell, get_cs8 _ _ (by omega)]
        have d2 : wr.cell? ⟨gd, o + 2, none⟩ = some (.int .u8 (cur.getD (o + 2) 0)) := by rw [HDr.out.cell, get_cs8 _ _ (by omega)]
        generalize cur.getD (o) 0 = e0 at d0
        generalize cur.getD (o + 1) 0 = e1 at d1
        generalize cur.getD (o + 2) 0 = e2 at d2
        have l0 : (0 : Int) < n := by omega
        have l1 : (1 : Int) < n := by omega
        have l2 : (2 : Int) < n := by omega
        go_wp2_with fail
        go_ret3
        refine ⟨rfl, ?_, ?_⟩
        · show Row _ gd 5 (cs8 (((cur.set (o + 2) (b2 : Int)).set (o + 1) (b1 : Int)).set o (b0 : Int)))
          refine set8b ?_ _ _
          refine Row.only ?_ (Only.set _ _ _ _) hnB2
          refine set8b ?_ _ _
          refine Row.only ?_ (Only.set _ _ _ _) hnB2
          refine set8b ?_ _ _
          refine Row.only ?_ (Only.set _ _ _ _) hnB2
          refine Row.only ?_ (Only.set _ _ _ _) hnB2
          refine Row.only ?_ (Only.set _ _ _ _) hnB2
          exact HDr.out
        · refine But.trans ?_ (But.of_only (Only.set _ _ _ _))
          refine But.only_new ?_ (Only.set _ _ _ _) (Nat.le_refl _)
          refine But.trans ?_ (But.of_only (Only.set _ _ _ _))
          refine But.only_new ?_ (Only.set _ _ _ _) (Nat.le_refl _)
          refine But.trans ?_ (But.of_only (Only.set _ _ _ _))
          refine But.only_new ?_ (Only.set _ _ _ _) (Nat.le_refl _)
          refine But.only_new ?_ (Only.set _ _ _ _) (Nat.le_refl _)
          refine But.only_new ?_ (Only.set _ _ _ _) (Nat.le_refl _)
          exact But.of_below hB.out
      · clear hsx
        have d0 : wr.cell? ⟨gd, o, none⟩ = some (.int .u8 (cur.getD (o) 0)) := by rw [HDr.out.cell, get_cs8 _ _ (by omega)]
        have d1 : wr.cell? ⟨gd, o + 1, none⟩ = some (.int .u8 (cur.getD (o + 1) 0)) := by rw [HDr.out.cell, get_cs8 _ _ (by omega)]
        generalize cur.getD (o) 0 = e0 at d0
        generalize cur.getD (o + 1) 0 = e1 at d1
        have l0 : (0 : Int) < n := by omega
        have l1 : (1 : Int) < n := by omega
        go_wp2_with fail
        go_ret3
        refine ⟨rfl, ?_, ?_⟩
        · show Row _ gd 5 (cs8 ((cur.set (o + 1) (b1 : Int)).set o (b0 : Int)))
          refine set8b ?_ _ _
          refine Row.only ?_ (Only.set _ _ _ _) hnB2
          refine set8b ?_ _ _
          refine Row.only ?_ (Only.set _ _ _ _) hnB2
          refine Row.only ?_ (Only.set _ _ _ _) hnB2
          refine Row.only ?_ (Only.set _ _ _ _) hnB2
          exact HDr.out
        · refine But.trans ?_ (But.of_only (Only.set _ _ _ _))
          refine But.only_new ?_ (Only.set _ _ _ _) (Nat.le_refl _)
          refine But.trans ?_ (But.of_only (Only.set _ _ _ _))
          refine But.only_new ?_ (Only.set _ _ _ _) (Nat.le_refl _)
          refine But.only_new ?_ (Only.set _ _ _ _) (Nat.le_refl _)
          refine But.only_new ?_ (Only.set _ _ _ _) (Nat.le_refl _)
          exact But.of_below hB.out
      · clear hsx
        have d0 : wr.cell? ⟨gd, o, none⟩ = some (.int .u8 (cur.getD (o) 0)) := by rw [HDr.out.cell, get_cs8 _ _ (by omega)]
        generalize cur.getD (o) 0 = e0 at d0
        have l0 : (0 : Int) < n := by omega
        go_wp2_with fail
        go_ret3
        refine ⟨rfl, ?_, ?_⟩
        · show Row _ gd 5 (cs8 (cur.set o (b0 : Int)))
          refine set8b ?_ _ _
          refine Row.only ?_ (Only.set _ _ _ _) hnB2
          refine Row.only ?_ (Only.set _ _ _ _) hnB2
          refine Row.only ?_ (Only.set _ _ _ _) hnB2
          exact HDr.out
        · refine But.trans ?_ (But.of_only (Only.set _ _ _ _))
          refine But.only_new ?_ (Only.set _ _ _ _) (Nat.le_refl _)
          refine But.only_new ?_ (Only.set _ _ _ _) (Nat.le_refl _)
          refine But.only_new ?_ (Only.set _ _ _ _) (Nat.le_refl _)
          exact But.of_below hB.out
end Go.Proofs.YtaemdppihpefnaaGreatDoor
