/- slices at numbers of one byte: Index, Contains, Clone, IndexFunc and DeleteFunc with 'x == k'; Clone of steps; laws.tokenOctets. -/
import Derived.Test.YtaemdppihpefnaaGreatDoorKeyKitA
import Derived.Test.YtaemdppihpefnaaGreatDoorHashKit
import Derived.Lib.SliceRun
import Derived.RangeFuncNested
import Derived.RangeFuncBound
import Derived.RangeFuncCalls
import Derived.RangeFuncLeaves
import Derived.Shelf.Abstract
import Derived.OwnWalkIn
import Derived.TacticsInMore
import Derived.LoopNIn
import Derived.LoopIn
import Derived.LoopTactic
import Derived.Deep.LoopGhost
import Derived.Outline
import Derived.IntWalk
namespace Go.Proofs.YtaemdppihpefnaaGreatDoor
open Go.RowKit
set_option linter.unusedVariables false

def idxI (x : Int) (xs : List Int) : Int := if x ∈ xs then (xs.idxOf x : Nat) else -1
theorem getD_mem {xs : List Int} {k : Nat} (hk : k < xs.length) : xs.getD k 0 ∈ xs := by
  simp [List.getD, hk]
theorem idxI_found {x : Int} {xs : List Int} {k : Nat} (hk : k < xs.length) (he : xs.getD k 0 = x) (hn : ∀ j, j < k → xs.getD j 0 ≠ x) : idxI x xs = k := by
  have hin : x ∈ xs := by rw [← he]; exact getD_mem hk
  have hix : xs.idxOf x = k := by
    have hlt := List.idxOf_lt_length_of_mem hin
    have h2 : xs.getD (xs.idxOf x) 0 = x := by simp [List.getD, hlt]
    rcases Nat.lt_trichotomy (xs.idxOf x) k with hlt2 | heq | hgt
    · exact absurd h2 (hn _ hlt2)
    · exact heq
    · exfalso
      have := List.not_of_lt_findIdx (p := (· == x)) hgt
      simp [List.getD, hk] at he
      simp [he] at this
  simp [idxI, hin, hix]
theorem idxI_none {x : Int} {xs : List Int} (hn : ∀ j, j < xs.length → xs.getD j 0 ≠ x) : idxI x xs = -1 := by
  have : x ∉ xs := fun hm => by
    obtain ⟨j, hj, he⟩ := List.getElem_of_mem hm
    exact hn j hj (by simp [List.getD, hj, he])
  simp [idxI, this]

set_option maxRecDepth 100000 in
set_option maxHeartbeats 1000000 in
theorem sIndex (v : Value) (xs : List Int) (x : Int) (w : World) (h : Bs w v xs) (hl : xs.length ≤ 100000) :
    Calls Tryz.prog 32 #[v, .int .u8 x] w fun e w' => e = .returned (.int .i64 (idxI x xs)) ∧ w' = w := by
  obtain ⟨p, c, rfl, hc, _, _⟩ := id h
  have H := Lib.hid h
  clear h
  go_enter Tryz.func32, Tryz.ntmps32
  go_wp2_with fail
  go_loopw [8] (fun i wr => ∃ k : Nat, k ≤ xs.length ∧ i = .int .i64 k ∧ wr = w ∧ Hid (∀ j, j < k → xs.getD j 0 ≠ x)) (fun i _ => xs.length - (intOf i).toNat)
  case atStart => exact ⟨0, by omega, rfl, rfl, Lib.hid (fun j h => absurd h (Nat.not_lt_zero _))⟩
  case round =>
    obtain ⟨k, hk, rfl, rfl, hn⟩ := hrel
    by_cases hkn : k < xs.length
    · obtain ⟨g, o, rfl, hcell⟩ := H.out.at (by omega)
      have c0 := hcell k hkn
      have hki : (k : Int) < xs.length := by omega
      have hw : IntKind.i64.wrap ((k : Int) + 1) = ((k + 1 : Nat) : Int) := by rw [IntWalk.i64_in _ (by omega)]; omega
      have HF := Lib.hid (fun he => idxI_found hkn he hn.out)
      obtain ⟨y, hy⟩ : ∃ y, xs.getD k 0 = y := ⟨_, rfl⟩
      rw [hy] at c0 HF
      have HY := Lib.hid hy
      clear hcell hy
      by_cases heq : y = x
      · subst heq
        have HG := Lib.hid (HF.out rfl)
        clear HF
        go_wp2_with fail
        go_ret
        refine ⟨?_, rfl⟩
        rw [HG.out]; rfl
      · have hb : (x == y) = false := by rw [beq_eq_false_iff_ne]; exact fun h => heq h.symm
        have hp : ¬ x = y := fun h => heq h.symm
        have HE := Lib.hid heq
        clear heq HF
        go_wp2_with fail
        refine ⟨⟨k + 1, by omega, by go_num, trivial, Lib.hid fun j h2 => ?_⟩, by simp [intOf]; omega⟩
        by_cases hjk : j = k
        · subst hjk; rw [HY.out]; exact HE.out
        · exact hn.out j (by omega)
    · obtain rfl : k = xs.length := by omega
      have HI := Lib.hid (idxI_none hn.out)
      go_wp2_with fail
      go_ret
      refine ⟨?_, rfl⟩
      rw [HI.out]; rfl

set_option maxRecDepth 100000 in
set_option maxHeartbeats 1000000 in
theorem sContains (v : Value) (xs : List Int) (x : Int) (w : World) (h : Bs w v xs) (hl : xs.length ≤ 100000) :
    Calls Tryz.prog 14 #[v, .int .u8 x] w fun e w' => e = .returned (.bool (decide (x ∈ xs))) ∧ w' = w := by
  have HI := Lib.hid (sIndex v xs x w h hl)
  clear h
  by_cases hx : x ∈ xs
  · rw [decide_eq_true hx]
    have hix : idxI x xs = (xs.idxOf x : Nat) := by simp [idxI, hx]
    rw [hix] at HI
    have h0 : (0 : Int) ≤ (xs.idxOf x : Nat) := by omega
    generalize xs.idxOf x = k at HI h0
    clear hx hix
    go_enter Tryz.func14, Tryz.ntmps14
    go_wp2_with (go_at_call 32; refine HI.out.mono ?_; rintro e w ⟨rfl, rfl⟩)
    go_ret
    exact ⟨rfl, rfl⟩
  · rw [decide_eq_false hx]
    have hix : idxI x xs = -1 := by simp [idxI, hx]
    rw [hix] at HI
    clear hx hix
    go_enter Tryz.func14, Tryz.ntmps14
    go_wp2_with (go_at_call 32; refine HI.out.mono ?_; rintro e w ⟨rfl, rfl⟩)
    go_ret
    exact ⟨rfl, rfl⟩

theorem cloneU (v : Value) (xs : List Int) (w : World) (h : Bs w v xs) (hbig : xs.length ≤ 140737488355328) :
   Calls Tryz.prog 15 #[v] w fun e w' => ∃ v', e = .returned v' ∧ w'.ownsRow w.heap.size 5 1 v' xs.length (cs8 xs) ∧ Below w.heap.size w w' := by
  obtain ⟨p, c, rfl, hc, hn, hx⟩ := id h
  have q22 := fun (w : World) (a : Option Addr) (n c n' c' : Nat) => Lib.run_eql_slice_nil (P := Tryz.prog) w 22 5 a n c n' c' Tryz.underlying22
  cases p with
  | none =>
    have hz : xs = [] := List.eq_nil_of_length_eq_zero (by have := hn rfl; omega)
    subst hz
    clear hx hc hn h
    go_enter Tryz.func15, Tryz.ntmps15
    go_wp2
    go_ret
    exact ⟨_, rfl, World.ownsRow_nil _ _ _ _, Below.refl _ _⟩
  | some a =>
    have Hn := (h.below ((Below.refl w.heap.size w).alloc (Nat.le_refl _) (.cells #[] 5))).cells.2
    clear hx hn h
    go_enter Tryz.func15, Tryz.ntmps15
    obtain ⟨i0, hi, hz0, hz1, hz2⟩ := info_parts (P := Tryz.prog) (e := 5) (z := .int .u8 0) (size := 1) (bytes := 1) (by kernel_rfl)
    go_wp2_with (at_builtin; refine wpList_append_own _ rfl _ _ 22 rfl w.heap.size 5 i0 (.int .u8 0) 1 1 Tryz.underlying22 hi hz0 hz1 hz2 rfl (by decide) _ _ _ rfl (World.ownsRow_made w #[] 0 (Nat.le_refl _) (by decide) rfl) a xs.length c (cs8 xs) rfl (by simp [cs8]) ?c1 ?c2 ?c3 ?c4 ?c5 ?_)
    case c1 => exact Hn
    case c2 => exact one_cs8 xs
    case c3 => unfold maxLen; omega
    case c4 => omega
    case c5 => simp
    intro v' w1 hown hgrow _
    go_wp2
    go_ret
    refine ⟨_, rfl, ?_, ((Below.refl _ _).alloc (Nat.le_refl _) _).grown hgrow (by simp) (by intro k hk; simp [Value.ownBlock] at hk; omega)⟩
    first | exact hown | (rw [Nat.zero_add, List.nil_append] at hown; exact hown)

theorem zStep : (Tryz.prog.info? 45).map (fun i => (i.zero, i.size, i.bytes)) = some (some (.agg #[.int .i64 0, .int .i64 0, .int .i64 0, .string (⟨#[]⟩ : ByteArray), .string (⟨#[]⟩ : ByteArray)]), 5, 56) := by kernel_rfl
theorem cloneSt (B n : Nat) (v : Value) (xs : List Value) (w : World) (h : w.ownsRow B 45 5 v n xs) (h1 : ∀ u ∈ xs, u.oneCell' = true) (hn : n ≤ 1000) :
   Calls Tryz.prog 21 #[v] w fun e w' => ∃ v', e = .returned v' ∧ w'.ownsRow w.heap.size 45 5 v' n xs ∧ Below w.heap.size w w' := by
  have q22 := fun (w : World) (a : Option Addr) (n c n' c' : Nat) => Lib.run_eql_slice_nil (P := Tryz.prog) w 40 45 a n c n' c' Tryz.underlying40
  have hlen := h.1
  rcases id h.2 with ⟨rfl, rfl⟩ | ⟨g, cap, cur, rfl, hbg, hg, hnc, hcm, hcs, htake⟩
  · have hz : xs = [] := List.eq_nil_of_length_eq_zero (by simpa using hlen)
    subst hz
    clear h h1
    go_enter Tryz.func21, Tryz.ntmps21
    go_wp2
    go_ret
    exact ⟨_, rfl, World.ownsRow_nil _ _ _ _, Below.refl _ _⟩
  · have hgl : g < w.heap.size := (Array.getElem?_eq_some_iff.1 hg).1
    have Hn : Hid (∀ (j : Nat) u, xs[j]? = some u → (w.alloc (.cells #[] 45)).cell? ((⟨g, 0, none⟩ : Addr).add j) = some u) := Lib.hid (fun j u hj => by
      rw [Go.WideShapes.add_plain, ((Below.refl w.heap.size w).alloc (Nat.le_refl _) (.cells #[] 45)).cell (p := ⟨g, 0 + j, none⟩) hgl, ← Go.WideShapes.add_plain]
      exact h.cells (g := g) rfl j u hj)
    have H1 := Lib.hid h1
    have HL := Lib.hid hlen
    clear h htake hg h1 hlen
    go_enter Tryz.func21, Tryz.ntmps21
    obtain ⟨i0, hi, hz0, hz1, hz2⟩ := info_parts (P := Tryz.prog) zStep
    go_wp2_with (at_builtin; refine wpList_append_own _ rfl _ _ 40 rfl w.heap.size 45 i0 _ 5 56 Tryz.underlying40 hi hz0 hz1 hz2 rfl (by decide) _ _ _ rfl (World.ownsRow_made w #[] 0 (Nat.le_refl _) (by decide) rfl) ⟨g, 0, none⟩ n cap xs rfl HL.out Hn.out H1.out ?c3 ?c4 ?c5 ?_)
    case c3 => unfold maxLen; omega
    case c4 => omega
    case c5 => simp
    intro v' w1 hown hgrow _
    go_wp2
    go_ret
    refine ⟨_, rfl, ?_, ((Below.refl _ _).alloc (Nat.le_refl _) _).grown hgrow (by simp) (by intro k hk; simp [Value.ownBlock] at hk; omega)⟩
    first | exact hown | (rw [Nat.zero_add, List.nil_append] at hown; exact hown)

theorem eqK (x q : Int) (kb : Nat) (w : World) (hk : w.cell? ⟨kb, 0, none⟩ = some (.int .u8 q)) :
    Calls Tryz.prog 17 #[.int .u8 x, .pointer (some ⟨kb, 0, none⟩)] w fun e w' => e = .returned (.bool (decide (x = q))) ∧ w' = w := by
  by_cases h : x = q
  · subst h
    rw [decide_eq_true rfl]
    go_enter Tryz.func17, Tryz.ntmps17
    go_wp2_with fail
    go_ret
    exact ⟨rfl, rfl⟩
  · have hb : (x == q) = false := by rw [beq_eq_false_iff_ne]; exact h
    rw [decide_eq_false h]
    go_enter Tryz.func17, Tryz.ntmps17
    go_wp2_with fail
    go_ret
    exact ⟨rfl, rfl⟩

set_option maxRecDepth 100000 in
set_option maxHeartbeats 1000000 in
theorem sIndexF (v : Value) (xs : List Int) (q : Int) (kb : Nat) (w : World) (h : Bs w v xs) (hl : xs.length ≤ 100000) (hk : w.cell? ⟨kb, 0, none⟩ = some (.int .u8 q)) :
    Calls Tryz.prog 33 #[v, .func (.func 17) #[] #[.pointer (some ⟨kb, 0, none⟩)]] w fun e w' => e = .returned (.int .i64 (idxI q xs)) ∧ w' = w := by
  obtain ⟨p, c, rfl, hc, _, _⟩ := id h
  have H := Lib.hid h
  have HK := Lib.hid hk
  clear h hk
  go_enter Tryz.func33, Tryz.ntmps33
  go_wp2_with fail
  go_loopw [8] (fun i wr => ∃ k : Nat, k ≤ xs.length ∧ i = .int .i64 k ∧ wr = w ∧ Hid (∀ j, j < k → xs.getD j 0 ≠ q)) (fun i _ => xs.length - (intOf i).toNat)
  case atStart => exact ⟨0, by omega, rfl, rfl, Lib.hid (fun j h => absurd h (Nat.not_lt_zero _))⟩
  case round =>
    obtain ⟨k, hk, rfl, rfl, hn⟩ := hrel
    by_cases hkn : k < xs.length
    · obtain ⟨g, o, rfl, hcell⟩ := H.out.at (by omega)
      have c0 := hcell k hkn
      have hki : (k : Int) < xs.length := by omega
      have hw : IntKind.i64.wrap ((k : Int) + 1) = ((k + 1 : Nat) : Int) := by rw [IntWalk.i64_in _ (by omega)]; omega
      have HF := Lib.hid (fun he => idxI_found hkn he hn.out)
      obtain ⟨y, hy⟩ : ∃ y, xs.getD k 0 = y := ⟨_, rfl⟩
      rw [hy] at c0 HF
      have HY := Lib.hid hy
      have HC := Lib.hid (eqK y q kb wr HK.out)
      clear hcell hy
      by_cases heq : y = q
      · rw [decide_eq_true heq] at HC
        have HG := Lib.hid (HF.out heq)
        clear heq HF
        go_wp2_with (go_at_call 17; refine HC.out.mono ?_; rintro e w ⟨rfl, rfl⟩)
        go_ret
        refine ⟨?_, rfl⟩
        rw [HG.out]; rfl
      · rw [decide_eq_false heq] at HC
        have HE := Lib.hid heq
        clear heq HF
        go_wp2_with (go_at_call 17; refine HC.out.mono ?_; rintro e w ⟨rfl, rfl⟩)
        refine ⟨⟨k + 1, by omega, by go_num, trivial, Lib.hid fun j h2 => ?_⟩, by simp [intOf]; omega⟩
        by_cases hjk : j = k
        · subst hjk; rw [HY.out]; exact HE.out
        · exact hn.out j (by omega)
    · obtain rfl : k = xs.length := by omega
      have HI := Lib.hid (idxI_none hn.out)
      go_wp2_with fail
      go_ret
      refine ⟨?_, rfl⟩
      rw [HI.out]; rfl

set_option maxRecDepth 100000 in
set_option maxHeartbeats 1000000 in
theorem octets (x : Int) (w : World) (h0 : 0 ≤ x) (h1 : x < 6) :
    Calls Tryz.prog 13 #[.int .u8 x] w fun e w' => e = .returned (.slice (some ⟨w.heap.size, 0, none⟩) 5 5) ∧ w' = w.alloc (.cells #[.int .u8 x, .int .u8 77, .int .u8 x, .int .u8 5, .int .u8 9] 5) := by
  have hm : x.tmod 6 = x := by rw [Int.tmod_eq_emod_of_nonneg h0]; omega
  have hm2 : x % 6 = x := by omega
  have hw : IntKind.u8.wrap x = x := IntWalk.u8_in _ (by omega)
  go_enter Tryz.func13, Tryz.ntmps13
  go_wp2_with fail
  go_ret
  exact ⟨rfl, rfl⟩
end Go.Proofs.YtaemdppihpefnaaGreatDoor

/- slices.DeleteFunc with 'x == k', at numbers of one byte of one's own. -/
namespace Go.Proofs.YtaemdppihpefnaaGreatDoor
open Go.RowKit
set_option linter.unusedVariables false

def ne8 (q : Int) (l : List Int) : List Int := l.filter (fun x => decide (x ≠ q))
theorem ne8_take {q : Int} {xs : List Int} {b : Nat} (hb : b < xs.length) : ne8 q (xs.take (b + 1)) = ne8 q (xs.take b) ++ (if xs.getD b 0 = q then [] else [xs.getD b 0]) := by
  rw [List.take_add_one, List.getElem?_eq_getElem hb, Option.toList_some, ne8, List.filter_append]
  have : xs.getD b 0 = xs[b] := by simp [List.getD, hb]
  rw [this, ne8]
  congr 1
  by_cases h : xs[b] = q <;> simp [h]
theorem ne8_le (q : Int) (l : List Int) : (ne8 q l).length ≤ l.length := List.length_filter_le _ _
theorem ne8_none {q : Int} {l : List Int} (h : q ∉ l) : ne8 q l = l := by
  rw [ne8, List.filter_eq_self]
  intro x hx
  simp
  exact fun e => h (e ▸ hx)

/-- The loop's row: what stays of the first b, then the rest as it was. -/
def DelR (w wr : World) (g cap : Nat) (xs : List Int) (q : Int) (a b : Nat) : Prop :=
  ∃ cur, Row wr g 5 cur ∧ cur.length = cap ∧ (ne8 q (xs.take b)).length = a ∧ (∀ t, t < a → cur[t]? = some (.int .u8 ((ne8 q (xs.take b)).getD t 0))) ∧ (∀ t, b ≤ t → t < xs.length → cur[t]? = some (.int .u8 (xs.getD t 0))) ∧ Only g w wr

set_option maxRecDepth 100000 in
set_option maxHeartbeats 2000000 in
theorem deleteF (B kb : Nat) (v : Value) (xs : List Int) (q : Int) (w : World) (ho : w.ownsRow B 5 1 v xs.length (cs8 xs)) (hk : w.cell? ⟨kb, 0, none⟩ = some (.int .u8 q)) (hkB : kb < B) (hB : B ≤ w.heap.size) (hl : xs.length ≤ 1000) :
    Calls Tryz.prog 16 #[v, .func (.func 17) #[] #[.pointer (some ⟨kb, 0, none⟩)]] w fun e w' => (∃ v', e = .returned v' ∧ Bs w' v' (ne8 q xs) ∧ ∀ r, v'.ownBlock = some r → B ≤ r ∧ r < w'.heap.size) ∧ Below B w w' := by
  have hbs := Bs.own ho
  have HI := Lib.hid (sIndexF v xs q kb w hbs (by omega) hk)
  by_cases hin : q ∈ xs
  · have hix : idxI q xs = (xs.idxOf q : Nat) := by simp [idxI, hin]
    rw [hix] at HI
    have hil := List.idxOf_lt_length_of_mem hin
    have hat : xs.getD (xs.idxOf q) 0 = q := by simp [List.getD, hil]
    have hbef : ∀ j, j < xs.idxOf q → xs.getD j 0 ≠ q := fun j hj => by
      have := List.not_of_lt_findIdx (p := (· == q)) hj
      have hjl : j < xs.length := by omega
      simpa [List.getD, hjl] using this
    have hstart : ne8 q (xs.take (xs.idxOf q + 1)) = xs.take (xs.idxOf q) := by
      rw [ne8_take hil, if_pos hat, List.append_nil, ne8_none]
      intro hm
      obtain ⟨j, hj, he⟩ := List.getElem_of_mem hm
      have hj2 : j < xs.idxOf q := by simp at hj; omega
      refine hbef j hj2 ?_
      have hjl : j < xs.length := by omega
      simp [List.getElem_take] at he
      simp [List.getD, hjl, he]
    obtain ⟨g, cap, cur, rfl, hg, hrow, hnc, hcm, hcs, htk⟩ : ∃ g cap cur, v = .slice (some ⟨g, 0, none⟩) xs.length cap ∧ B ≤ g ∧ Row w g 5 cur ∧ xs.length ≤ cap ∧ cap ≤ maxLen ∧ cur.length = cap ∧ cur.take xs.length = cs8 xs := by
      rcases ho.2 with ⟨_, h⟩ | ⟨g, cap, cur, h1, h2, h3, h4, h5, h6, h7⟩
      · omega
      · exact ⟨g, cap, cur.toList, h1, h2, (by unfold Row; rw [h3]), h4, h5, by simpa using h6, by simpa using h7⟩
    have hcur : ∀ t, t < xs.length → cur[t]? = some (.int .u8 (xs.getD t 0)) := fun t ht => by
      have h : (cur.take xs.length)[t]? = (cs8 xs)[t]? := by rw [htk]
      rw [List.getElem?_take, if_pos ht] at h
      rw [h]; simp [cs8, List.getD, ht]
    obtain ⟨i0, hi0⟩ : ∃ i, xs.idxOf q = i := ⟨_, rfl⟩
    rw [hi0] at HI hil hat hstart
    have HD : Hid (DelR w w g cap xs q i0 (i0 + 1)) := Lib.hid ⟨cur, hrow, hcs, by rw [hstart]; simp; omega, fun t ht => by rw [hstart, hcur t (by omega)]; simp [List.getD, ht], fun t h1 h2 => hcur t h2, ⟨rfl, rfl, rfl, rfl, fun _ _ => rfl⟩⟩
    have HK := Lib.hid hk
    have hbne : ((i0 : Int) == -1) = false := by rw [beq_eq_false_iff_ne]; omega
    have hw0 : IntKind.i64.wrap ((i0 : Int) + 1) = (i0 : Int) + 1 := IntWalk.i64_in _ (by omega)
    have hi1 : ¬ (i0 : Int) = -1 := by omega
    clear hk ho hbs hix hat hbef hstart hrow htk hcs hcur hi0 hin
    go_enter Tryz.func16, Tryz.ntmps16
    go_wp2_with (go_at_call 33; refine HI.out.mono ?_; rintro e w ⟨rfl, rfl⟩)
    go_loopw [5, 6] (fun i j wr => ∃ a b : Nat, b ≤ xs.length ∧ a < b ∧ i = .int .i64 a ∧ j = .int .i64 b ∧ Hid (DelR w wr g cap xs q a b)) (fun _ j _ => xs.length - (intOf j).toNat)
    case atStart => exact ⟨i0, i0 + 1, by omega, by omega, rfl, by rw [show ((i0 + 1 : Nat) : Int) = (i0 : Int) + 1 by omega], HD⟩
    case round =>
      clear HD
      obtain ⟨a, b, hb, hab, rfl, rfl, hD⟩ := hrel
      obtain ⟨cur, hrow, hcl, hfl, hpre, hpost, hon⟩ := hD.out
      have HROW := Lib.hid hrow
      have HCL := Lib.hid hcl
      have HFL := Lib.hid hfl
      have HPRE := Lib.hid hpre
      have HPOST := Lib.hid hpost
      have HON := Lib.hid hon
      by_cases hbn : b < xs.length
      · have hbI : (b : Int) < xs.length := by omega
        obtain ⟨y, hy⟩ : ∃ y, xs.getD b 0 = y := ⟨_, rfl⟩
        have c0 : wr.cell? ⟨g, b, none⟩ = some (.int .u8 y) := by rw [hrow.cell, hpost b (Nat.le_refl _) hbn, hy]
        have hkr : wr.cell? ⟨kb, 0, none⟩ = some (.int .u8 q) := by
          have : wr.heap[kb]? = w.heap[kb]? := hon.block kb (by omega)
          have h := HK.out
          simp only [World.cell?] at h ⊢
          rw [this]; exact h
        have HC := Lib.hid (eqK y q kb wr hkr)
        have hbw : IntKind.i64.wrap ((b : Int) + 1) = (b : Int) + 1 := IntWalk.i64_in _ (by omega)
        have haw : IntKind.i64.wrap ((a : Int) + 1) = (a : Int) + 1 := IntWalk.i64_in _ (by omega)
        have HT := Lib.hid (ne8_take (q := q) hbn)
        rw [hy] at HT
        have haI : (a : Int) < xs.length := by omega
        obtain ⟨z, hz⟩ : ∃ z, cur[a]? = some z := ⟨_, List.getElem?_eq_getElem (by omega)⟩
        have ca : wr.cell? ⟨g, a, none⟩ = some z := by rw [hrow.cell]; exact hz
        have caf : wr.frozen? ⟨g, a, none⟩ = false := hrow.unfrozen a
        have HY := Lib.hid hy
        clear hrow hcl hfl hpre hpost hon hD hkr hy hz
        by_cases heq : y = q
        · rw [decide_eq_true heq] at HC
          have HE := Lib.hid heq
          clear heq ca caf
          go_wp2_with (go_at_call 17; refine HC.out.mono ?_; rintro e wx ⟨rfl, rfl⟩)
          refine ⟨⟨a, b + 1, by omega, by omega, rfl, by rw [show ((b + 1 : Nat) : Int) = (b : Int) + 1 by omega], Lib.hid ?_⟩, by simp [intOf]; omega⟩
          have ht := HT.out
          rw [if_pos HE.out, List.append_nil] at ht
          exact ⟨cur, HROW.out, HCL.out, by rw [ht]; exact HFL.out, fun t h => by rw [ht]; exact HPRE.out t h, fun t h1 h2 => HPOST.out t (by omega) h2, HON.out⟩
        · rw [decide_eq_false heq] at HC
          have HE := Lib.hid heq
          clear heq
          go_wp2_with (go_at_call 17; refine HC.out.mono ?_; rintro e wx ⟨rfl, rfl⟩)
          refine ⟨⟨a + 1, b + 1, by omega, by omega, by rw [show ((a + 1 : Nat) : Int) = (a : Int) + 1 by omega], by rw [show ((b + 1 : Nat) : Int) = (b : Int) + 1 by omega], Lib.hid ?_⟩, by simp [intOf]; omega⟩
          have ht := HT.out
          rw [if_neg HE.out] at ht
          have hfl := HFL.out
          have hcl := HCL.out
          refine ⟨cur.set a (.int .u8 y), HROW.out.set a _, by simpa using HCL.out, by rw [ht]; simp [hfl], fun t h => ?_, fun t h1 h2 => ?_, HON.out.thn (Only.set _ _ _ _)⟩
          · rw [ht]
            by_cases hta : t < a
            · rw [List.getElem?_set_ne (by omega), HPRE.out t hta]
              simp [List.getD, List.getElem?_append_left (show t < (ne8 q (xs.take b)).length by omega)]
            · obtain rfl : t = a := by omega
              rw [List.getElem?_set_self (by omega)]
              simp [List.getD, hfl]
          · rw [List.getElem?_set_ne (by omega)]
            exact HPOST.out t (by omega) h2
      · obtain rfl : b = xs.length := by omega
        have hbI : ¬ (xs.length : Int) < xs.length := by omega
        have hsl := fun w => run_sl_from (P := Tryz.prog) 22 5 Tryz.underlying22 (by kernel_rfl) g 0 xs.length cap a (0 + a) (xs.length - a) (cap - a) .i64 (a : Int) rfl (by omega) (by omega) rfl rfl rfl w
        rw [Nat.zero_add] at hsl
        have hcl2 := fun ty => Lib.run_clear_slice (P := Tryz.prog) wr 22 5 ty (.int .u8 0) Tryz.underlying22 (fun w => by kernel_rfl) rfl rfl g a (xs.length - a) (cap - a) (by omega) (fun j hj => by rw [hrow.cell, List.getElem?_eq_getElem (by omega)]; rfl) (fun j hj => hrow.unfrozen _)
        obtain ⟨w2, hw2⟩ : ∃ w2 : World, wr.setCells g a (List.replicate (xs.length - a) (.int .u8 0)) = w2 := ⟨_, rfl⟩
        rw [hw2] at hcl2
        have hr2 : Row w2 g 5 (putL cur a (List.replicate (xs.length - a) (.int .u8 0))) := by rw [← hw2]; exact Row.cells' _ _ _ _ hrow
        have ho2 : Only g wr w2 := by rw [← hw2]; exact Only.cells' g _ _ _
        have HR2 := Lib.hid hr2
        have HO2 := Lib.hid (hon.thn ho2)
        have ha0 : (0 : Int) ≤ a := by omega
        have hac : (a : Int) ≤ cap := by omega
        have hta : xs.take xs.length = xs := List.take_length
        have HTA := Lib.hid hta
        have HG := Lib.hid hg
        clear hrow hcl hfl hpre hpost hon hD hw2 hr2 ho2 hta
        go_wp2_with fail
        go_ret
        have hfl := HFL.out
        rw [HTA.out] at hfl
        have hcl := HCL.out
        have hb := Bs.row HR2.out 0 cap (ne8 q xs) (by omega) (fun i hi => by
          rw [Nat.zero_add, putL_get _ _ _ _ (by simp; omega), if_neg (by omega)]
          have := HPRE.out i (by omega)
          rw [HTA.out] at this; exact this)
        rw [hfl] at hb
        exact ⟨⟨_, rfl, hb, fun r hr => by cases hr; exact ⟨HG.out, HR2.out.lt⟩⟩, ⟨HO2.out.os, HO2.out.tape, HO2.out.output, Nat.le_of_eq HO2.out.size.symm, fun k hk => HO2.out.block k (by have := HG.out; omega)⟩⟩
  · have hix : idxI q xs = -1 := by simp [idxI, hin]
    rw [hix] at HI
    have HN := Lib.hid (ne8_none hin)
    have HB := Lib.hid hbs
    have HOB := Lib.hid (fun r hr => ho.lt r hr)
    obtain ⟨p, c, rfl, _, _, _⟩ := id hbs
    clear hk ho hbs hix hin
    go_enter Tryz.func16, Tryz.ntmps16
    go_wp2_with (go_at_call 33; refine HI.out.mono ?_; rintro e w ⟨rfl, rfl⟩)
    go_ret
    rw [HN.out]
    exact ⟨⟨_, rfl, HB.out, HOB.out⟩, Below.refl _ _⟩
end Go.Proofs.YtaemdppihpefnaaGreatDoor

/- slices.Sorted(slices.Values(s)) at no string. -/
namespace Go.Proofs.YtaemdppihpefnaaGreatDoor
open Go.RowKit Go.Shelf
set_option linter.unusedVariables false
attribute [local go_sem] Oper.semAt_some

set_option maxRecDepth 100000 in
set_option maxHeartbeats 1000000 in
theorem vals_in (F : Fence) (n : Nat) (hf : F.fn 65) (hro : F.round = none) (l Bm g : Nat) (J : List Empty → World → Prop) (W : World) (hm : W.cell? ⟨Bm, 0, none⟩ = some (.slice (some ⟨g, 0, none⟩) 0 0)) (h0 : J [] W) :
    CallsIn F n Tryz.prog 65 #[.func (.yield l) #[] #[], .pointer (some ⟨Bm, 0, none⟩)] W fun e W' => (∃ v, e = .returned v) ∧ J [] W' := by
  refine callsIn_of_wp Tryz.func65 rfl hf ?_ hro
  simp only [Tryz.ntmps65, List.size_toArray, List.length_cons, List.length_nil, Nat.reduceAdd, Nat.reduceSub, Array.replicate_succ, Array.replicate_zero, List.push_toArray, List.append_toArray, List.nil_append, List.cons_append]
  gi_wp2
  refine wpIn_loop_rounds 1 ?_
  rw [roundsIn_succ]
  gi_wp2
  go_end0
  exact ⟨⟨_, rfl⟩, h0⟩

theorem vals_stops (F : Fence) (n : Nat) (hf : F.fn 65) (hro : F.round = none) (Bm g : Nat) (w : World) (hBm : Bm < w.heap.size) (hm : w.cell? ⟨Bm, 0, none⟩ = some (.slice (some ⟨g, 0, none⟩) 0 0)) :
    SeqStopsK F n Tryz.prog 65 #[.pointer (some ⟨Bm, 0, none⟩)] (fun x : Empty => nomatch x) KeepsWalks (fun xs => xs = []) (fun _ => False) 0 w := fun l J _ W hW hJ _ _ h0 =>
  (vals_in F n hf hro l Bm g J W ((hW.cell (p := ⟨Bm, 0, none⟩) hBm).trans hm) h0).mono fun _ _ ⟨he, hj⟩ => ⟨he, .inl ⟨[], rfl, hj⟩⟩

set_option maxRecDepth 100000 in
set_option maxHeartbeats 2000000 in
theorem appendSeq_in (F : Fence) (n : Nat) (h1f : F.fn 81) (hf : F.fn 65) (hro : F.round = none) (hn : 3 ≤ n) (Bm g : Nat) (w : World) (hm : w.cell? ⟨Bm, 0, none⟩ = some (.slice (some ⟨g, 0, none⟩) 0 0)) :
    CallsIn F n Tryz.prog 81 #[.slice none 0 0, .func (.func 65) #[] #[.pointer (some ⟨Bm, 0, none⟩)]] w fun e w' => e = .returned (.slice none 0 0) ∧ Below w.heap.size w w' := by
  have h1 : 1 ≤ n := by omega
  have hBm : Bm < w.heap.size := World.block_lt_of_cell? w _ hm
  refine callsIn_of_wp_marks Tryz.func81 rfl h1f ?_ hro
  simp only [Tryz.ntmps81, List.size_toArray, List.length_cons, List.length_nil, Nat.reduceAdd, Nat.reduceSub, Array.replicate_succ, Array.replicate_zero, List.push_toArray, List.append_toArray, List.nil_append, List.cons_append]
  gi_wp2
  obtain ⟨W0, hW0⟩ : ∃ W0, w.alloc (.cells #[.slice none 0 0] 57) = W0 := ⟨_, rfl⟩
  have hR0 : Row W0 w.heap.size 57 [.slice none 0 0] := by rw [← hW0]; exact Row.alloc w _ _
  have hB0 : Below w.heap.size w W0 := by rw [← hW0]; exact (Below.refl _ w).alloc (Nat.le_refl _) _
  have hm0 : W0.cell? ⟨Bm, 0, none⟩ = some (.slice (some ⟨g, 0, none⟩) 0 0) := by rw [hB0.cell (p := ⟨Bm, 0, none⟩) hBm]; exact hm
  have hc0 : W0.cell? ⟨w.heap.size, 0, none⟩ = some (.slice none 0 0) := by rw [hR0.cell]; rfl
  rw [hW0]
  refine wpIn_rangeFunc_ownF hro h1 (gf := 65) (lb := #[.pointer (some ⟨Bm, 0, none⟩)]) rfl hf (enters_of Tryz.func65 (by kernel_rfl) rfl)
    (vals_stops F (n - 1) hf hro Bm g W0 (Nat.lt_of_lt_of_le hBm hB0.size) hm0) walksK_t walksK_b (Below.refl _ _) (fun x => nomatch x)
    (fun pre W => (W.cell? ⟨w.heap.size, 0, none⟩ = some (.slice none 0 0)) ∧ Below w.heap.size w W)
    (fun c pre W => False)
    (OwnFrom.and (Own.from (fun s A B row hs hg hr => cell_kept hs hg hr) _) (ownFrom_below (Nat.le_refl _) hB0.size))
    (fun c => fun s W W' row hs hg hr => hs)
    ⟨hc0, hB0⟩
    (fun x => nomatch x) ?assign ?body ?done ?stop
  case assign =>
    intro l x
    exact nomatch x
  case body =>
    intro l pre x
    exact nomatch x
  case done =>
    rintro D xs W hD _ ⟨hc, hB⟩ hK
    gi_wp2
    refine ⟨by simp, .inl ⟨_, _, rfl, run_takeDeferred hK, ?_⟩⟩
    have := hB0.size
    exact ⟨_, results_tmp rfl _ _ _, rfl, hB.trans (belowK_b (w := w) (Nat.le_refl _) _ D _ _ (by omega) hK rfl rfl)⟩
  case stop =>
    rintro D c pre W _ hF _ _
    exact hF.elim

set_option maxRecDepth 100000 in
set_option maxHeartbeats 2000000 in
theorem len64z (w : World) : Calls Tryz.prog 114 #[.int .u64 0] w fun e w' => (∃ k : Int, e = .returned (.int .i64 k)) ∧ w' = w := by
  go_enter Tryz.func114, Tryz.ntmps114
  go_wp2_with fail
  go_ret
  exact ⟨⟨_, rfl⟩, rfl⟩

theorem lenz (w : World) : Calls Tryz.prog 83 #[.int .u64 0] w fun e w' => (∃ k : Int, e = .returned (.int .i64 k)) ∧ w' = w := by
  have H := Lib.hid (len64z w)
  go_enter Tryz.func83, Tryz.ntmps83
  go_wp2_with fail
  go_at_call 114
  refine H.out.mono ?_
  rintro e w' ⟨⟨k, rfl⟩, rfl⟩
  go_wp2_with fail
  go_ret
  exact ⟨⟨_, rfl⟩, rfl⟩

set_option maxRecDepth 100000 in
set_option maxHeartbeats 2000000 in
theorem insz (w : World) : Calls Tryz.prog 104 #[.slice none 0 0, .int .i64 0, .int .i64 0] w fun e w' => (∃ v, e = .returned v) ∧ w' = w := by
  go_enter Tryz.func104, Tryz.ntmps104
  go_wp2_with fail
  go_loopw [6] (fun i wr => i = .int .i64 1 ∧ wr = w) (fun _ _ => 0)
  case atStart => exact ⟨rfl, rfl⟩
  case round =>
    obtain ⟨rfl, rfl⟩ := hrel
    go_wp2_with fail
    go_end0
    exact ⟨⟨_, rfl⟩, rfl⟩

set_option maxRecDepth 100000 in
set_option maxHeartbeats 2000000 in
theorem pdqz (k : Int) (w : World) : Calls Tryz.prog 82 #[.slice none 0 0, .int .i64 0, .int .i64 0, .int .i64 k] w fun e w' => (∃ v, e = .returned v) ∧ w' = w := by
  have H := Lib.hid (insz w)
  go_enter Tryz.func82, Tryz.ntmps82
  go_wp2_with fail
  go_loopw [1, 2, 3] (fun b c d wr => b = .int .i64 0 ∧ c = .int .i64 0 ∧ d = .int .i64 k ∧ wr = w) (fun _ _ _ _ => 0)
  case atStart => exact ⟨rfl, rfl, rfl, rfl⟩
  case round =>
    obtain ⟨rfl, rfl, rfl, rfl⟩ := hrel
    go_wp2_with fail
    go_at_call 104
    refine H.out.mono ?_
    rintro e w' ⟨⟨k, rfl⟩, rfl⟩
    go_wp2_with fail
    (try simp only [Exit.inBlock, Exit.then])
    refine bodyPost_ret (results_none rfl _ _ _) rfl ?_
    exact ⟨⟨_, rfl⟩, rfl⟩

set_option maxRecDepth 100000 in
set_option maxHeartbeats 2000000 in
theorem sortz (w : World) : Calls Tryz.prog 64 #[.slice none 0 0] w fun e w' => (∃ v, e = .returned v) ∧ w' = w := by
  have H := Lib.hid (pdqz)
  have L := Lib.hid (lenz w)
  go_enter Tryz.func64, Tryz.ntmps64
  go_wp2_with fail
  go_at_call 83
  refine L.out.mono ?_
  rintro e w' ⟨⟨k, rfl⟩, rfl⟩
  go_wp2_with fail
  go_at_call 82
  refine (H.out k _).mono ?_
  rintro e w' ⟨⟨k, rfl⟩, rfl⟩
  go_wp2_with fail
  go_end0
  exact ⟨⟨_, rfl⟩, rfl⟩

set_option maxRecDepth 100000 in
set_option maxHeartbeats 2000000 in
/-- slices.Sorted of no string. -/
theorem sortedz (Bm g : Nat) (w : World) (hm : w.cell? ⟨Bm, 0, none⟩ = some (.slice (some ⟨g, 0, none⟩) 0 0)) :
    Calls Tryz.prog 40 #[.func (.func 65) #[] #[.pointer (some ⟨Bm, 0, none⟩)]] w fun e w' => e = .returned (.slice none 0 0) ∧ Below w.heap.size w w' := by
  have A := Lib.hid ((callsIn_wide (n := 3)).1 (appendSeq_in Fence.wide 3 trivial trivial rfl (by omega) Bm g w hm))
  have S := Lib.hid sortz
  have C : Hid (Calls Tryz.prog 63 #[.func (.func 65) #[] #[.pointer (some ⟨Bm, 0, none⟩)]] w fun e w' => e = .returned (.slice none 0 0) ∧ Below w.heap.size w w') := Lib.hid (by
    clear hm S
    go_enter Tryz.func63, Tryz.ntmps63
    go_wp2_with fail
    go_at_call 81
    refine A.out.mono ?_
    rintro e w1 ⟨rfl, hb⟩
    have HB := Lib.hid hb
    clear hb A
    go_wp2_with fail
    go_ret
    exact ⟨rfl, HB.out⟩)
  clear hm A
  go_enter Tryz.func40, Tryz.ntmps40
  go_wp2_with fail
  go_at_call 63
  refine C.out.mono ?_
  rintro e w1 ⟨rfl, hb⟩
  have HB := Lib.hid hb
  clear hb C
  go_wp2_with fail
  go_at_call 64
  refine (S.out w1).mono ?_
  rintro e w' ⟨⟨k, rfl⟩, rfl⟩
  clear S
  go_wp2_with fail
  go_ret
  exact ⟨rfl, HB.out⟩

set_option maxRecDepth 100000 in
set_option maxHeartbeats 2000000 in
/-- slices.Values: its slice lies in a box. -/
theorem valuesz (a : Option Addr) (n c : Nat) (w : World) : Calls Tryz.prog 41 #[.slice a n c] w fun e w' => e = .returned (.func (.func 65) #[] #[.pointer (some ⟨w.heap.size, 0, none⟩)]) ∧ w' = w.alloc (.cells #[.slice a n c] 57) := by
  go_enter Tryz.func41, Tryz.ntmps41
  go_wp2_with fail
  go_ret
  exact ⟨rfl, rfl⟩
end Go.Proofs.YtaemdppihpefnaaGreatDoor
