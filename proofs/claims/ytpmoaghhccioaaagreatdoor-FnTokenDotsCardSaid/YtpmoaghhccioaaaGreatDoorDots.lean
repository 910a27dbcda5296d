/- laws.FnTokenDots returns true. -/
import Derived.Test.YtpmoaghhccioaaaGreatDoorDotB
import Derived.Test.YtpmoaghhccioaaaGreatDoorDotC
import Derived.Test.YtpmoaghhccioaaaGreatDoorEqual
namespace Go.Proofs.YtpmoaghhccioaaaGreatDoor
open Go.RowKit
set_option linter.unusedVariables false

set_option maxRecDepth 100000 in
theorem index26 (r : Nat) (hr : r < 26) : ∀ wx, (Instr.index 9 (.string ⟨#[65, 66, 67, 68, 69, 70, 71, 72, 97, 98, 99, 100, 101, 102, 103, 104, 48, 49, 50, 51, 52, 53, 54, 55, 45, 95]⟩) (.int .u8 (r : Int))).run Tryz.prog wx = .ok (.int .u8 (abc.getD r 0)) wx := by
  have h : r = 0 ∨ r = 1 ∨ r = 2 ∨ r = 3 ∨ r = 4 ∨ r = 5 ∨ r = 6 ∨ r = 7 ∨ r = 8 ∨ r = 9 ∨ r = 10 ∨ r = 11 ∨ r = 12 ∨ r = 13 ∨ r = 14 ∨ r = 15 ∨ r = 16 ∨ r = 17 ∨ r = 18 ∨ r = 19 ∨ r = 20 ∨ r = 21 ∨ r = 22 ∨ r = 23 ∨ r = 24 ∨ r = 25 := by omega
  rcases h with rfl | rfl | rfl | rfl | rfl | rfl | rfl | rfl | rfl | rfl | rfl | rfl | rfl | rfl | rfl | rfl | rfl | rfl | rfl | rfl | rfl | rfl | rfl | rfl | rfl | rfl
  · exact fun wx => by kernel_rfl
  · exact fun wx => by kernel_rfl
  · exact fun wx => by kernel_rfl
  · exact fun wx => by kernel_rfl
  · exact fun wx => by kernel_rfl
  · exact fun wx => by kernel_rfl
  · exact fun wx => by kernel_rfl
  · exact fun wx => by kernel_rfl
  · exact fun wx => by kernel_rfl
  · exact fun wx => by kernel_rfl
  · exact fun wx => by kernel_rfl
  · exact fun wx => by kernel_rfl
  · exact fun wx => by kernel_rfl
  · exact fun wx => by kernel_rfl
  · exact fun wx => by kernel_rfl
  · exact fun wx => by kernel_rfl
  · exact fun wx => by kernel_rfl
  · exact fun wx => by kernel_rfl
  · exact fun wx => by kernel_rfl
  · exact fun wx => by kernel_rfl
  · exact fun wx => by kernel_rfl
  · exact fun wx => by kernel_rfl
  · exact fun wx => by kernel_rfl
  · exact fun wx => by kernel_rfl
  · exact fun wx => by kernel_rfl
  · exact fun wx => by kernel_rfl

def A5 (p1 p2 p3 : Option Addr) (N : Nat) : Nat → Option Addr
  | 0 => p1
  | 1 => some ⟨N, 0, none⟩
  | 2 => p2
  | 3 => some ⟨N + 1, 0, none⟩
  | _ => p3
def C5 (c1 c2 c3 : Nat) : Nat → Nat
  | 0 => c1
  | 1 => 1
  | 2 => c2
  | 3 => 1
  | _ => c3
def P5 (x y z : List Int) : Nat → List Int
  | 0 => x
  | 1 => [46]
  | 2 => y
  | 3 => [46]
  | _ => z
theorem cc5 (x y z : List Int) : cc (P5 x y z) 5 = x ++ ([46] ++ (y ++ ([46] ++ z))) := by simp [cc, P5]
theorem parts5 {w W : World} {T1 T2 T3 : TypeId} {p1 p2 p3 : Option Addr} {c1 c2 c3 : Nat} {x y z : List Int}
    (h : ((w.alloc (.cells #[.int .u8 46] T1)).alloc (.cells #[.int .u8 46] T2)).alloc (.cells #[.slice p1 x.length c1, .slice (some ⟨w.heap.size, 0, none⟩) 1 1, .slice p2 y.length c2, .slice (some ⟨w.heap.size + 1, 0, none⟩) 1 1, .slice p3 z.length c3] T3) = W)
    (h1 : Bs w (.slice p1 x.length c1) x) (h2 : Bs w (.slice p2 y.length c2) y) (h3 : Bs w (.slice p3 z.length c3) z) :
    Parts W (some ⟨w.heap.size + 1 + 1, 0, none⟩) 5 (A5 p1 p2 p3 w.heap.size) (C5 c1 c2 c3) (P5 x y z) ∧ Below w.heap.size w W := by
  obtain ⟨R1, R2, R3, hs, hB⟩ := three h
  refine ⟨⟨fun _ => ⟨_, 0, rfl, R3.lt, fun i hi => ?_⟩, fun i hi => ?_⟩, hB⟩
  · have hc : i = 0 ∨ i = 1 ∨ i = 2 ∨ i = 3 ∨ i = 4 := by omega
    rcases hc with rfl | rfl | rfl | rfl | rfl <;> (rw [R3.cell]; rfl)
  · have hc : i = 0 ∨ i = 1 ∨ i = 2 ∨ i = 3 ∨ i = 4 := by omega
    rcases hc with rfl | rfl | rfl | rfl | rfl
    · exact h1.below hB
    · exact Bs.row R1 0 1 [46] (by decide) (fun i hi => by have : i = 0 := by simp at hi; omega
                                                           subst this; rfl)
    · exact h2.below hB
    · exact Bs.row R2 0 1 [46] (by decide) (fun i hi => by have : i = 0 := by simp at hi; omega
                                                           subst this; rfl)
    · exact h3.below hB

/-- tokenLive returns true, from w on. -/
def Live (w : World) : Prop := ∀ w', Below w.heap.size w w' → Calls Tryz.prog 7 #[] w' fun e w'' => e = .returned (.bool true) ∧ Below w'.heap.size w' w''
theorem equalT (v1 v2 : Value) (xs : List Int) (w : World) (h1 : Bs w v1 xs) (h2 : Bs w v2 xs) (hx : Byt xs) :
    Calls Tryz.prog 10 #[v1, v2] w fun e w' => e = .returned (.bool true) ∧ w = w' := by
  have h := equal v1 v2 xs xs w h1 h2 hx hx
  simpa using h

set_option maxRecDepth 100000 in
set_option maxHeartbeats 4000000 in
theorem lawDots (p : Option Addr) (n c : Nat) (A : Nat → Option Addr) (C : Nat → Nat) (P : Nat → List Int) (w : World) (h : Parts w p n A C P) (hby : ∀ i, i < n → Byt (P i)) (he : Ev w) (hl : Live w) :
    Calls Tryz.prog 3 #[.slice p n c] w fun e w' => e = .returned (.bool true) ∧ Below w.heap.size w w' := by
  have HH := Lib.hid h
  have HBy := Lib.hid hby
  have HE := Lib.hid he
  have Hl := Lib.hid hl
  clear h hby he hl
  have dn : ∀ (b : Bool) (wx : World), (Op.unary .not (.bool b)).run Tryz.prog wx = .ok (.bool (!b)) wx := fun _ _ => rfl
  go_enter Tryz.func3, Tryz.ntmps3
  go_wp2_with fail
  go_at_call 4
  refine (fits9 p n c A C P _ HH.out).mono ?_
  rintro e w1 ⟨⟨b, rfl⟩, rfl⟩
  cases b
  · go_wp2_with fail
    go_ret
    exact ⟨rfl, Below.refl _ _⟩
  obtain ⟨w, rfl⟩ : ∃ w : World, w = w1 := ⟨_, rfl⟩
  have live : ∀ {a : Prop}, a → a := fun h => h
  by_cases hn0 : n = 0
  · subst hn0
    go_wp2_with fail
    go_at_call 7
    refine (Hl.out _ (Below.refl _ _)).mono ?_
    rintro e w2 ⟨rfl, b2⟩
    have B2 := Lib.hid b2
    clear b2
    go_wp2_with fail
    go_ret
    exact ⟨rfl, B2.out⟩
  have hnI0 : ¬ ((n : Int) = 0) := by omega
  have hnI1 : ((n : Int) == 0) = false := by rw [beq_eq_false_iff_ne]; exact hnI0
  by_cases hn6 : 6 < n
  · have hnI6 : (6 : Int) < n := by omega
    go_wp2_with fail
    go_at_call 7
    refine (Hl.out _ (Below.refl _ _)).mono ?_
    rintro e w2 ⟨rfl, b2⟩
    have B2 := Lib.hid b2
    clear b2
    go_wp2_with fail
    go_ret
    exact ⟨rfl, B2.out⟩
  have hnI6 : ¬ (6 : Int) < n := by omega
  go_wp2_with fail
  go_at_call 5
  refine (containsLong p n c A C P _ HH.out (by omega)).mono ?_
  rintro e w2 ⟨⟨b, rfl, hb60⟩, rfl⟩
  obtain ⟨w, rfl⟩ : ∃ w : World, w = w2 := ⟨_, rfl⟩
  cases b
  rotate_left
  · go_wp2_with fail
    go_at_call 7
    refine (Hl.out _ (Below.refl _ _)).mono ?_
    rintro e w2 ⟨rfl, b2⟩
    have B2 := Lib.hid b2
    clear b2
    go_wp2_with fail
    go_ret
    exact ⟨rfl, B2.out⟩
  have hP60 := Lib.hid (hb60 rfl)
  clear hb60
  obtain ⟨Q, hQ⟩ : ∃ Q : Nat → List Int, Q = fun i => if i < n then (P i).map ab else [] := ⟨_, rfl⟩
  have hQd := Lib.hid (show ∀ k, ∀ x ∈ Q k, x ≠ 46 ∧ (0 ≤ x ∧ x < 256) from fun k x hx => by
    rw [hQ] at hx
    simp only at hx
    split at hx
    · obtain ⟨y, _, rfl⟩ := List.mem_map.1 hx
      exact ⟨ab_ne y, ab_byt y⟩
    · cases hx)
  have hQl := Lib.hid (show ∀ k, (Q k).length ≤ 60 from fun k => by
    rw [hQ]
    simp only
    split
    · rename_i h; simpa using hP60.out k h
    · simp)
  have hQk := Lib.hid (show ∀ k, k < n → Q k = (P k).map ab from fun k hk => by rw [hQ]; simp [hk])
  have hnn := Lib.hid (show 0 < n ∧ n ≤ 6 from ⟨by omega, by omega⟩)
  clear hQ
  go_wp2_with fail
  go_loopw [30, 3] (fun i v wr => ∃ (k : Nat) (a : Option Addr) (c m : Nat), k ≤ n ∧ i = .int .i64 k ∧ v = .slice a m c ∧ Hid (wr.ownsRow w.heap.size 5 1 v m (cs8 (tx Q k))) ∧ Hid (Below w.heap.size w wr)) (fun i _ _ => n - (intOf i).toNat)
  case atStart => exact ⟨0, none, 0, 0, by omega, rfl, rfl, Lib.hid (World.ownsRow_nil _ _ _ _), Lib.hid (Below.refl _ _)⟩
  case round =>
    obtain ⟨k, a, c', m, hk, rfl, rfl, hO, hB⟩ := hrel
    by_cases hkn : k < n
    · obtain ⟨b, o, rfl, hbl, hc⟩ := HH.out.cell (by omega)
      obtain ⟨Ak, hAk⟩ : ∃ Ak, A k = Ak := ⟨_, rfl⟩
      have c0 : wr.cell? ⟨b, o + k, none⟩ = some (.slice Ak (P k).length (C k)) := by rw [hB.out.cell (p := ⟨b, o + k, none⟩) hbl, hc k hkn, hAk]
      have hbk := Lib.hid (show Bs w (.slice Ak (P k).length (C k)) (P k) by rw [← hAk]; exact HH.out.bs k hkn)
      clear hAk
      have hkI : (k : Int) < n := by omega
      have hPk := hP60.out k hkn
      have htl := tx_len Q 60 hQl.out k
      have hml := Lib.hid (show m = (tx Q k).length by have := hO.out.1; simp [cs8] at this; omega)
      clear hc
      by_cases hk0 : k = 0
      · have hkI0 : ¬ (0 : Int) < k := by omega
        have hD : (tx Q k).length ≤ 400 := by subst hk0; simp [tx]
        have hDx := Lib.hid (show tx Q (k + 1) = tx Q k ++ (P k).map ab by rw [tx, hQk.out k hkn, if_neg (by omega)]; simp)
        have HK0 := Lib.hid hk0
        clear hk0
        go_wp2_with fail
        obtain ⟨wo, rfl⟩ : ∃ wo : World, wo = wr := ⟨_, rfl⟩
        generalize tx Q k = D at hO hD hDx
        clear c0 htl hml
        go_loopw [42, 3] (fun i v wr => ∃ (j m : Nat) (a : Option Addr) (c : Nat), j ≤ (P k).length ∧ i = .int .i64 j ∧ v = .slice a m c ∧ Hid (wr.ownsRow w.heap.size 5 1 v m (cs8 (D ++ ((P k).take j).map ab))) ∧ Hid (Below w.heap.size w wr)) (fun i _ _ => (P k).length - (intOf i).toNat)
        case atStart => exact ⟨0, _, _, _, by omega, rfl, rfl, by simpa using hO, hB⟩
        case round =>
          clear hO hB
          obtain ⟨j, m, a, c2, hj, rfl, rfl, hO, hB⟩ := hrel
          have hm : m = D.length + j := by have := hO.out.1; simp [cs8] at this; omega
          have hmD := Lib.hid hm
          have hDl := Lib.hid hD
          clear hm
          by_cases hjl : j < (P k).length
          · obtain ⟨b2, o2, rfl, hcells⟩ := hbk.out.at (by omega)
            have hbyt := (HBy.out k hkn).at hjl
            obtain ⟨y, hy⟩ : ∃ y, y = (P k).getD j 0 := ⟨_, rfl⟩
            have cy : wr.cell? ⟨b2, o2 + j, none⟩ = some (.int .u8 y) := by
              rw [hB.out.cell (p := ⟨b2, o2 + j, none⟩) (World.block_lt_of_cell? w _ (hcells j hjl)), hcells j hjl, hy]
            rw [← hy] at hbyt
            obtain ⟨r, hr0, hr1, hr2⟩ : ∃ r : Nat, r < 26 ∧ y.tmod 26 = (r : Int) ∧ y.toNat % 26 = r := ⟨y.toNat % 26, Nat.mod_lt _ (by decide), by rw [Int.tmod_eq_emod_of_nonneg hbyt.1]; omega, rfl⟩
            have hr3 : y % 26 = (r : Int) := by omega
            have hix := index26 r hr0
            have ey := Lib.hid (show abc.getD r 0 = ab y by unfold ab; rw [hr2])
            have et := Lib.hid (show (P k).take (j + 1) = (P k).take j ++ [y] by rw [List.take_succ_eq_append_getElem hjl, hy]; simp [List.getD, hjl])
            generalize abc.getD r 0 = z at hix ey
            have hjI : (j : Int) < (P k).length := by omega
            have HX := Lib.hid (fun o => hO.out.alloc o)
            have hge := Lib.hid (own_ge hO.out)
            have hBs := Lib.hid hB.out.size
            clear hcells hy hr2 hbyt
            go_wp2_with (at_builtin; refine wpl_append1 rfl _ _ 25 rfl w.heap.size 5 (.int .u8 0) 1 Tryz.underlying25 (by kernel_rfl) rfl (by decide) (.slice a m c2) m _ rfl (HX.out _) wr.heap.size _ (.int .u8 z) rfl (by rw [cell_of_row _ _ _ _ _ _ (heap_alloc_new _ _)]; rfl) rfl (by have := hmD.out; have := hDl.out; have := hP60.out k hkn; omega) (by have := hBs.out; simp; omega) ?_; intro g4 c4 w4 o4 gr4 hg4 hl4; rw [cs8_snoc] at o4; have o4 := Lib.hid o4; have hB4 := Lib.hid ((hB.out.alloc hBs.out _).grown gr4 (by have := hBs.out; simp; omega) (fun k hk => hge.out k hk)); clear gr4)
            refine ⟨⟨j + 1, m + 1, _, c4, by omega, by go_num, rfl, Lib.hid ?_, hB4⟩, by simp [intOf]; omega⟩
            rw [et.out, List.map_append, ← List.append_assoc]
            have := o4.out
            rw [ey.out] at this
            exact this
          · obtain rfl : j = (P k).length := by omega
            have eT := Lib.hid (show tx Q (k + 1) = D ++ ((P k).take (P k).length).map ab by rw [List.take_length]; exact hDx.out)
            go_wp2_with fail
            refine ⟨⟨k + 1, _, _, _, by omega, by go_num, rfl, Lib.hid ?_, hB⟩, by simp [intOf]; omega⟩
            rw [eT.out]
            exact hO.out
      · have hkI0 : (0 : Int) < k := by omega
        have hD : (tx Q k ++ [46]).length ≤ 400 := by
          have : k * 61 ≤ 5 * 61 := Nat.mul_le_mul_right _ (by have := hnn.out; omega)
          simp; omega
        have hDx := Lib.hid (show tx Q (k + 1) = (tx Q k ++ [46]) ++ (P k).map ab by simp [tx, hQk.out k hkn, (by omega : 0 < k)])
        have HX := Lib.hid (fun o => hO.out.alloc o)
        have hge := Lib.hid (own_ge hO.out)
        have hBs := Lib.hid hB.out.size
        have hm4 := Lib.hid (show m ≤ 1000000 by have := hml.out; simp at hD; omega)
        have cfar := Lib.hid (fun (w' : World) (hb : Below w.heap.size w w') => (show w'.cell? ⟨b, o + k, none⟩ = some (.slice Ak (P k).length (C k)) by rw [hb.cell (p := ⟨b, o + k, none⟩) hbl, ← hB.out.cell (p := ⟨b, o + k, none⟩) hbl]; exact c0))
        go_wp2_with (at_builtin; refine wpl_append1 rfl _ _ 25 rfl w.heap.size 5 (.int .u8 0) 1 Tryz.underlying25 (by kernel_rfl) rfl (by decide) (.slice a m c') m _ rfl (HX.out _) wr.heap.size _ (.int .u8 46) rfl (by rw [cell_of_row _ _ _ _ _ _ (heap_alloc_new _ _)]; rfl) rfl hm4.out (by have := hBs.out; simp; omega) ?_; intro g5 c5 w5 o5 gr5 hg5 hl5; rw [cs8_snoc] at o5; have hB := Lib.hid ((hB.out.alloc hBs.out _).grown gr5 (by have := hBs.out; simp; omega) (fun k hk => hge.out k hk)); have hO := Lib.hid o5; clear gr5)
        obtain ⟨wo, rfl⟩ : ∃ wo : World, wo = w5 := ⟨_, rfl⟩
        generalize tx Q k ++ [46] = D at hO hD hDx
        clear c0 htl hml hge hBs HX cfar
        go_loopw [42, 3] (fun i v wr => ∃ (j m : Nat) (a : Option Addr) (c : Nat), j ≤ (P k).length ∧ i = .int .i64 j ∧ v = .slice a m c ∧ Hid (wr.ownsRow w.heap.size 5 1 v m (cs8 (D ++ ((P k).take j).map ab))) ∧ Hid (Below w.heap.size w wr)) (fun i _ _ => (P k).length - (intOf i).toNat)
        case atStart => exact ⟨0, _, _, _, by omega, rfl, rfl, by simpa using hO, hB⟩
        case round =>
          clear hO hB
          obtain ⟨j, m, a, c2, hj, rfl, rfl, hO, hB⟩ := hrel
          have hm : m = D.length + j := by have := hO.out.1; simp [cs8] at this; omega
          have hmD := Lib.hid hm
          have hDl := Lib.hid hD
          clear hm
          by_cases hjl : j < (P k).length
          · obtain ⟨b2, o2, rfl, hcells⟩ := hbk.out.at (by omega)
            have hbyt := (HBy.out k hkn).at hjl
            obtain ⟨y, hy⟩ : ∃ y, y = (P k).getD j 0 := ⟨_, rfl⟩
            have cy : wr.cell? ⟨b2, o2 + j, none⟩ = some (.int .u8 y) := by
              rw [hB.out.cell (p := ⟨b2, o2 + j, none⟩) (World.block_lt_of_cell? w _ (hcells j hjl)), hcells j hjl, hy]
            rw [← hy] at hbyt
            obtain ⟨r, hr0, hr1, hr2⟩ : ∃ r : Nat, r < 26 ∧ y.tmod 26 = (r : Int) ∧ y.toNat % 26 = r := ⟨y.toNat % 26, Nat.mod_lt _ (by decide), by rw [Int.tmod_eq_emod_of_nonneg hbyt.1]; omega, rfl⟩
            have hr3 : y % 26 = (r : Int) := by omega
            have hix := index26 r hr0
            have ey := Lib.hid (show abc.getD r 0 = ab y by unfold ab; rw [hr2])
            have et := Lib.hid (show (P k).take (j + 1) = (P k).take j ++ [y] by rw [List.take_succ_eq_append_getElem hjl, hy]; simp [List.getD, hjl])
            generalize abc.getD r 0 = z at hix ey
            have hjI : (j : Int) < (P k).length := by omega
            have HX := Lib.hid (fun o => hO.out.alloc o)
            have hge := Lib.hid (own_ge hO.out)
            have hBs := Lib.hid hB.out.size
            clear hcells hy hr2 hbyt
            go_wp2_with (at_builtin; refine wpl_append1 rfl _ _ 25 rfl w.heap.size 5 (.int .u8 0) 1 Tryz.underlying25 (by kernel_rfl) rfl (by decide) (.slice a m c2) m _ rfl (HX.out _) wr.heap.size _ (.int .u8 z) rfl (by rw [cell_of_row _ _ _ _ _ _ (heap_alloc_new _ _)]; rfl) rfl (by have := hmD.out; have := hDl.out; have := hP60.out k hkn; omega) (by have := hBs.out; simp; omega) ?_; intro g4 c4 w4 o4 gr4 hg4 hl4; rw [cs8_snoc] at o4; have o4 := Lib.hid o4; have hB4 := Lib.hid ((hB.out.alloc hBs.out _).grown gr4 (by have := hBs.out; simp; omega) (fun k hk => hge.out k hk)); clear gr4)
            refine ⟨⟨j + 1, m + 1, _, c4, by omega, by go_num, rfl, Lib.hid ?_, hB4⟩, by simp [intOf]; omega⟩
            rw [et.out, List.map_append, ← List.append_assoc]
            have := o4.out
            rw [ey.out] at this
            exact this
          · obtain rfl : j = (P k).length := by omega
            have eT := Lib.hid (show tx Q (k + 1) = D ++ ((P k).take (P k).length).map ab by rw [List.take_length]; exact hDx.out)
            go_wp2_with fail
            refine ⟨⟨k + 1, _, _, _, by omega, by go_num, rfl, Lib.hid ?_, hB⟩, by simp [intOf]; omega⟩
            rw [eT.out]
            exact hO.out
    · obtain rfl : k = n := by omega
      have htl := tx_len Q 60 hQl.out k
      have hlen := Lib.hid (show (tx Q k).length ≤ 400 by
        have : k * 61 ≤ 6 * 61 := Nat.mul_le_mul_right _ (by have := hnn.out; omega)
        omega)
      clear htl
      have hX := Lib.hid (Bs.own hO.out)
      go_wp2_with fail
      go_at_call 9
      refine (clone _ (tx Q k) _ hX.out (by have := hlen.out; omega)).mono ?_
      rintro e w4 ⟨x, rfl, o4, b4⟩
      have X4 := Lib.hid (Bs.own o4)
      have T4 := Lib.hid (hX.out.below b4)
      have B4 := Lib.hid (hB.out.trans (b4.mono hB.out.size))
      clear o4 b4
      go_wp2_with fail
      go_at_call 8
      refine (split x (tx Q k) _ X4.out (by have := hlen.out; omega) (HE.out.below B4.out)).mono ?_
      rintro e w5 ⟨hs, b5⟩
      have T5 := Lib.hid (T4.out.below b5)
      have B5 := Lib.hid (B4.out.trans (b5.mono B4.out.size))
      clear b5 hO hB hX X4 T4
      obtain ⟨hok, hcat⟩ := split_text Q k hnn.out.1 (fun k x hx => (hQd.out k x hx).1)
      unfold Split4 at hs
      by_cases h3 : k = 3
      · rw [hok, decide_eq_true h3, if_pos rfl] at hs
        have HC := Lib.hid (hcat h3)
        obtain ⟨v1, v2, v3, rfl, g1, g2, g3⟩ := hs
        obtain ⟨p1, c1, rfl, -⟩ := id g1
        obtain ⟨p2, c2, rfl, -⟩ := id g2
        obtain ⟨p3, c3, rfl, -⟩ := id g3
        have hkI3 : ((k : Int) == 3) = true := by rw [h3]; rfl
        have hkE3 : (k : Int) = 3 := by omega
        have hbt := Lib.hid (tx_byt Q (fun k x hx => (hQd.out k x hx).2) k)
        have G1 := Lib.hid g1
        have G2 := Lib.hid g2
        have G3 := Lib.hid g3
        have hll := congrArg List.length HC.out
        simp only [List.length_append, List.length_cons, List.length_nil] at hll
        have L1 := Lib.hid (show (sp1 (tx Q k)).length ≤ 400 ∧ (sp2 (tx Q k)).length ≤ 400 ∧ (sp3 (tx Q k)).length ≤ 400 by have := hlen.out; omega)
        clear g1 g2 g3 hok hcat hll
        generalize sp1 (tx Q k) = s1 at *
        generalize sp2 (tx Q k) = s2 at *
        generalize sp3 (tx Q k) = s3 at *
        go_wp2_with fail
        go_at_call 11
        generalize hW : World.alloc _ _ = W
        obtain ⟨PW, bW⟩ := parts5 hW G1.out G2.out G3.out
        clear hW
        have BW := Lib.hid (B5.out.trans (bW.mono B5.out.size))
        have TW := Lib.hid (T5.out.below bW)
        refine (concat _ 5 5 _ _ _ W PW (by decide) (fun i hi => ?_) ?_).mono ?_
        · have hc : i = 0 ∨ i = 1 ∨ i = 2 ∨ i = 3 ∨ i = 4 := by omega
          have := L1.out
          rcases hc with rfl | rfl | rfl | rfl | rfl <;> simp only [P5, List.length_cons, List.length_nil] <;> omega
        · rw [cc5]; simp only [List.length_append, List.length_cons, List.length_nil]; omega
        rintro e w6 ⟨⟨v, rfl, hv⟩, b6⟩
        rw [cc5, HC.out] at hv
        have V6 := Lib.hid hv
        have T6 := Lib.hid (TW.out.below b6)
        have B6 := Lib.hid (BW.out.trans (b6.mono BW.out.size))
        clear hv b6 PW bW BW TW T5 B5
        go_wp2_with fail
        go_at_call 10
        refine (equalT _ _ _ _ V6.out T6.out hbt.out).mono ?_
        rintro e w' ⟨rfl, rfl⟩
        go_wp2_with fail
        go_at_call 7
        refine (Hl.out _ B6.out).mono ?_
        rintro e w7 ⟨rfl, b7⟩
        have B7 := Lib.hid (B6.out.trans (b7.mono B6.out.size))
        clear b7
        go_wp2_with fail
        go_ret
        exact ⟨rfl, B7.out⟩
      · rw [hok, decide_eq_false h3] at hs
        simp only [Bool.false_eq_true, if_false] at hs
        subst hs
        have hkI3 : ((k : Int) == 3) = false := by rw [beq_eq_false_iff_ne]; omega
        have hkE3 : ¬ (k : Int) = 3 := by omega
        clear hok hcat
        go_wp2_with fail
        go_at_call 7
        refine (Hl.out _ B5.out).mono ?_
        rintro e w7 ⟨rfl, b7⟩
        have B7 := Lib.hid (B5.out.trans (b7.mono B5.out.size))
        clear b7
        go_wp2_with fail
        go_ret
        exact ⟨rfl, B7.out⟩
end Go.Proofs.YtpmoaghhccioaaaGreatDoor
