/- jwk's set: RemoveKey. -/
import Derived.Test.YtaemdppihpefnaaGreatDoorKeyKitA
import Derived.Deep.RegionWith
import Derived.Test.YtaemdppihpefnaaGreatDoorHashKit
import Derived.Laws.IdiomRangeMap
import Derived.Lib.SliceRun
import Derived.Deep.QuietTactic
import Derived.BigQuiet
import Derived.LoopTactic
import Derived.Deep.LoopGhost
import Derived.Deep.Cut
namespace Go.Proofs.YtaemdppihpefnaaGreatDoor
open Go.RowKit
set_option linter.unusedVariables false

theorem ownK_to {w : World} {B g o c l : Nat} {cur : List Value} {ps : List Nat} (hB : B ≤ g) (hrow : Row w g 91 cur) (h1 : ps.length ≤ c) (h2 : o + c ≤ cur.length) (h3 : c ≤ maxLen) (hc : ∀ i (h : i < ps.length), cur[o + i]? = some (kv ps[i])) (hl : l ≤ ps.length) :
    OwnK w B (.slice (some ⟨g, o, none⟩) l c) (ps.take l) := by
  have he : (ps.take l).length = l := by simp; omega
  refine .inr ⟨g, o, c, cur, by rw [he], hB, hrow, by omega, h2, h3, fun i hi => ?_⟩
  rw [he] at hi
  rw [hc i (by omega), List.getElem_take]
theorem ownK_from {w : World} {B g o c l : Nat} {cur : List Value} {ps : List Nat} (hB : B ≤ g) (hrow : Row w g 91 cur) (h1 : ps.length ≤ c) (h2 : o + c ≤ cur.length) (h3 : c ≤ maxLen) (hc : ∀ i (h : i < ps.length), cur[o + i]? = some (kv ps[i])) (hl : l ≤ ps.length) (o' : Nat) (ho : o' = o + l ∨ (c = l ∧ o' = o)) :
    OwnK w B (.slice (some ⟨g, o', none⟩) (ps.length - l) (c - l)) (ps.drop l) := by
  have he : (ps.drop l).length = ps.length - l := by simp
  refine .inr ⟨g, o', c - l, cur, by rw [he], hB, hrow, by omega, by omega, by omega, fun i hi => ?_⟩
  rw [he] at hi
  have ho2 : o' = o + l := by rcases ho with h | ⟨h, _⟩ <;> omega
  rw [List.getElem_drop, ho2, Nat.add_assoc, hc (l + i) (by omega)]
theorem run_from1 (g o n c : Nat) (hn : 1 ≤ n) (hc : n ≤ c) : ∃ o', (o' = o + 1 ∨ (c = 1 ∧ o' = o)) ∧ ∀ w, (Instr.sliceAt 84 (.slice (some ⟨g, o, none⟩) n c) (some (.int .i64 1)) none none).run Tryz.prog w = .ok (.slice (some ⟨g, o', none⟩) (n - 1) (c - 1)) w := by
  obtain ⟨i, hi, hsz⟩ := Option.map_eq_some_iff.1 (show (Tryz.prog.info? 91).map (·.size) = some 1 by kernel_rfl)
  have hu := Tryz.underlying84
  by_cases h : c = 1
  · refine ⟨o, .inr ⟨h, rfl⟩, fun w => ?_⟩
    subst h
    have : n = 1 := by omega
    subst this
    simp [Instr.sliceAt, Instr.slice, Instr.sliceBounds, Instr.sliceBound, asIntOf, run_underlying hu, sizeOf, typeInfo, hi]
  · refine ⟨o + 1, .inl rfl, fun w => run_sl_from (P := Tryz.prog) 84 91 hu (by kernel_rfl) g o n c 1 (o + 1) (n - 1) (c - 1) .i64 1 rfl hn (by omega) rfl rfl rfl w⟩

theorem erase_at {ps : List Nat} {q k : Nat} (hk : k < ps.length) (he : ps[k] = q) (hn : ∀ j (h : j < ps.length), j < k → ps[j] ≠ q) : ps.erase q = ps.take k ++ ps.drop (k + 1) := by
  have hin : q ∈ ps := by rw [← he]; exact List.getElem_mem hk
  have hix : ps.idxOf q = k := by
    have hlt := List.idxOf_lt_length_of_mem hin
    have h2 := List.getElem_idxOf hlt
    rcases Nat.lt_trichotomy (ps.idxOf q) k with hlt2 | heq | hgt
    · exact absurd h2 (hn _ hlt hlt2)
    · exact heq
    · exfalso
      have := List.not_of_lt_findIdx (p := (· == q)) hgt
      simp [he] at this
  rw [List.erase_eq_eraseIdx_of_idxOf hix, List.eraseIdx_eq_take_drop_succ]

/-- Keys that lie behind one are moved over it: the two halves of append. -/
theorem run_close2 {w : World} {B g o c k : Nat} {cur : List Value} {ps : List Nat} (hB : B ≤ g) (hrow : Row w g 91 cur) (h1 : ps.length ≤ c) (h2 : o + c ≤ cur.length) (h3 : c ≤ maxLen) (hc : ∀ i (h : i < ps.length), cur[o + i]? = some (kv ps[i])) (hk : k + 1 < ps.length) :
    ∃ L w', (loadCellsFrom ⟨g, o + (k + 1), none⟩ 0 (ps.length - (k + 1)) #[]).run Tryz.prog w = .ok (List.toArray L) w ∧ (storeCells ⟨g, o + k, none⟩ L).run Tryz.prog w = .ok () w' ∧ OwnK w' B (.slice (some ⟨g, o, none⟩) (ps.length - 1) c) (ps.take k ++ ps.drop (k + 1)) ∧ Only g w w' := by
  have hm : ((ps.drop (k + 1)).map kv).length = ps.length - (k + 1) := by simp
  have hn : ∀ (j : Nat) u, ((ps.drop (k + 1)).map kv)[j]? = some u → w.cell? ((⟨g, o + (k + 1), none⟩ : Addr).add j) = some u := by
    intro j u hj
    have hlt := (List.getElem?_eq_some_iff.1 hj).1
    rw [hm] at hlt
    rw [Go.WideShapes.add_plain, hrow.cell, Nat.add_assoc, hc (k + 1 + j) (by omega), ← hj]
    simp [List.getElem?_drop]
    rw [List.getElem?_eq_getElem (by omega)]; simp
  have hld := run_loadCells_list (P := Tryz.prog) (w := w) ⟨g, o + (k + 1), none⟩ ((ps.drop (k + 1)).map kv) hn
  rw [hm] at hld
  have hst := run_storeCells_cells (P := Tryz.prog) g (o + k) ((ps.drop (k + 1)).map kv) 0 w
    (by intro j hj; rw [hm] at hj; rw [hrow.cell]; simp; omega) (by intro j hj; exact hrow.unfrozen _)
    (by intro u hu; obtain ⟨z, _, rfl⟩ := List.mem_map.1 hu; rfl)
  rw [Nat.add_zero] at hst
  refine ⟨_, _, by simpa [loadCells] using hld, hst, ?_, Only.cells' g _ _ w⟩
  have hR := Row.cells' ((ps.drop (k + 1)).map kv) (o + k) w cur hrow
  have hl : (ps.take k ++ ps.drop (k + 1)).length = ps.length - 1 := by simp; omega
  refine .inr ⟨g, o, c, _, by rw [hl], hB, hR, by rw [hl]; omega, by rw [putL_length]; exact h2, h3, ?_⟩
  intro i hi
  rw [hl] at hi
  rw [putL_get _ _ _ _ (by rw [hm]; omega), hm]
  by_cases hik : i < k
  · rw [if_neg (by omega), hc i (by omega), List.getElem_append_left (by simp; omega), List.getElem_take]
  · rw [if_pos (by omega), show o + i - (o + k) = i - k by omega, List.getElem?_map, List.getElem?_eq_getElem (by simp; omega), List.getElem_append_right (by simp; omega)]
    simp [List.getElem_drop, Nat.min_eq_left (show k ≤ ps.length by omega)]

set_option maxRecDepth 100000 in
set_option maxHeartbeats 1000000 in
theorem removeKey (s B : Nat) (v m : Value) (ps : List Nat) (q : Nat) (hL : ps.length ≤ 900) (w : World) (hs : Row w s 196 [v, m]) (ho : OwnK w B v ps) (hsB : s < B) (hB : B ≤ w.heap.size) (hr : ∀ p ∈ ps, ∃ cs, Row w p 194 cs) (hq : ∃ cs, Row w q 194 cs) :
    Calls Tryz.prog 243 #[.pointer (some ⟨s, 0, none⟩), kv q] w (Turned s B m v w (ps.erase q)) := by
  have c0 : w.cell? ⟨s, 0, none⟩ = some v := by rw [hs.cell]; rfl
  have f0 : w.frozen? ⟨s, 0, none⟩ = false := hs.unfrozen 0
  have HS := Lib.hid hs
  have HO := Lib.hid ho
  have HR := Lib.hid hr
  have HQ := Lib.hid hq
  have hlt := hs.lt
  have hv : ∃ a c, v = .slice a ps.length c := by
    rcases ho with ⟨rfl, rfl⟩ | ⟨g, o, c, cur, rfl, _⟩
    · exact ⟨_, _, rfl⟩
    · exact ⟨_, _, rfl⟩
  obtain ⟨a0, cp0, rfl⟩ := hv
  clear hs hr hq ho
  unfold kv at *
  go_enter Tryz.func243, Tryz.ntmps243
  go_wp2_with fail
  go_loopw [12] (fun i wr => ∃ k : Nat, k ≤ ps.length ∧ i = .int .i64 k ∧ wr = w ∧ Hid (∀ j (h : j < ps.length), j < k → ps[j] ≠ q)) (fun i _ => ps.length - (intOf i).toNat)
  case atStart => exact ⟨0, by omega, rfl, rfl, Lib.hid (fun j _ h => absurd h (Nat.not_lt_zero _))⟩
  case round =>
    obtain ⟨k, hk, rfl, rfl, hn⟩ := hrel
    by_cases hkn : k < ps.length
    · obtain ⟨g, o, c, cur, hve, hBg, hrow, h1, h2, h3, hcc⟩ : ∃ g o c cur, Value.slice a0 ps.length cp0 = .slice (some ⟨g, o, none⟩) ps.length c ∧ B ≤ g ∧ Row wr g 91 cur ∧ ps.length ≤ c ∧ o + c ≤ cur.length ∧ c ≤ maxLen ∧ ∀ i (h : i < ps.length), cur[o + i]? = some (kv ps[i]) := by
        rcases HO.out with ⟨_, h⟩ | h
        · subst h; simp at hkn
        · exact h
      injection hve with e1 _ e3
      subst e1 e3
      have ck : wr.cell? ⟨g, o + k, none⟩ = some (kv ps[k]) := by rw [hrow.cell]; exact hcc k hkn
      have hki : (k : Int) < ps.length := by omega
      have he := kv_eql 91 ⟨_, Tryz.underlying91⟩ ps[k] q wr (HR.out _ (List.getElem_mem hkn)) HQ.out
      have HROW := Lib.hid hrow
      have HCC := Lib.hid hcc
      have H3 := Lib.hid h3
      have H2 := Lib.hid h2
      clear hrow hcc h3 h2
      by_cases heq : ps[k] = q
      · rw [show decide (ps[k] = q) = true by simpa using heq] at he
        have HE := Lib.hid (erase_at hkn heq hn.out)
        unfold kv at *
        generalize ps[k] = pk at he ck
        clear heq hn
        have hdn : ∀ (x y : Int), x - y = x + -y := fun x y => by omega
        by_cases hk0 : k = 0
        · subst hk0
          obtain ⟨o', ho', hsl⟩ := run_from1 g o ps.length cp0 (by omega) h1
          have HO' := Lib.hid ho'
          rw [Nat.add_zero] at ck
          clear ho' hdn
          go_wp2_with fail
          go_ret
          have on := Only.set wr s 0 (.slice (some ⟨g, o', none⟩) (ps.length - 1) (cp0 - 1))
          refine ⟨_, _, rfl, .inl rfl, HS.out.set 0 (.slice (some ⟨g, o', none⟩) (ps.length - 1) (cp0 - 1)), ?_, ⟨on.os, on.tape, on.output, Nat.le_of_eq on.size.symm, fun k h1 h2 _ => on.block k h2⟩, .inl rfl⟩
          rw [HE.out, List.take_zero, List.nil_append]
          exact (ownK_from hBg HROW.out h1 H2.out H3.out HCC.out (by omega) o' HO'.out).only on hsB
        · have hk0b : ((k : Int) == 0) = false := by rw [beq_eq_false_iff_ne]; omega
          have hw2 : IntKind.i64.wrap ((ps.length : Int) - 1) = (ps.length : Int) - 1 := IntWalk.i64_in _ (by omega)
          clear hdn
          by_cases hkl : k = ps.length - 1
          · have hb2 : ((k : Int) == (ps.length : Int) - 1) = true := by rw [beq_iff_eq]; omega
            have hkc : (k : Int) ≤ cp0 := by omega
            have hk0' : (0 : Int) ≤ k := by omega
            have HKL := Lib.hid hkl
            clear hkl
            go_wp2_with fail
            go_ret
            have on := Only.set wr s 0 (.slice (some ⟨g, o, none⟩) k cp0)
            refine ⟨_, _, rfl, .inl rfl, HS.out.set 0 (.slice (some ⟨g, o, none⟩) k cp0), ?_, ⟨on.os, on.tape, on.output, Nat.le_of_eq on.size.symm, fun k h1 h2 _ => on.block k h2⟩, .inl rfl⟩
            rw [HE.out, List.drop_eq_nil_of_le (by have := HKL.out; omega), List.append_nil]
            exact (ownK_to hBg HROW.out h1 H2.out H3.out HCC.out (by omega)).only on hsB
          · have hb2 : ((k : Int) == (ps.length : Int) - 1) = false := by rw [beq_eq_false_iff_ne]; omega
            have hkc : (k : Int) ≤ cp0 := by omega
            have hk0' : (0 : Int) ≤ k := by omega
            have hw3 : IntKind.i64.wrap ((k : Int) + 1) = (k : Int) + 1 := IntWalk.i64_in _ (by omega)
            have hkk : k + 1 < ps.length := by omega
            have hsl := fun w => run_sl_from (P := Tryz.prog) 84 91 Tryz.underlying84 (by kernel_rfl) g o ps.length cp0 (k + 1) (o + (k + 1)) (ps.length - (k + 1)) (cp0 - (k + 1)) .i64 ((k : Int) + 1) (by omega) (by omega) (by omega) rfl rfl rfl w
            have HKK := Lib.hid hkk
            clear hkl hkk
            have hsg : s ≠ g := by omega
            go_upto_region 6 with (fail)
            obtain ⟨L, w2, hld, hst, how, hon⟩ := run_close2 (w := wr.drew) hBg (show Row wr.drew g _ cur from HROW.out) h1 H2.out H3.out HCC.out HKK.out
            have hs2 : Row w2 s 196 [.slice (some ⟨g, o, none⟩) ps.length cp0, m] := Row.only (show Row wr.drew s _ _ from HS.out) hon hsg
            have k0 : w2.cell? ⟨s, 0, none⟩ = some (.slice (some ⟨g, o, none⟩) ps.length cp0) := hs2.cell 0
            have kf : w2.frozen? ⟨s, 0, none⟩ = false := hs2.unfrozen 0
            have hkl2 : k + (ps.length - (k + 1)) = ps.length - 1 := by have := HKK.out; omega
            have HS2 := Lib.hid hs2
            have HOW := Lib.hid how
            have HON := Lib.hid hon
            clear hs2 how hon
            go_region_with (fail)
            all_goals
              (go_wp2_with fail
               go_ret
               have on := Only.set w2 s 0 (.slice (some ⟨g, o, none⟩) (ps.length - 1) cp0)
               refine ⟨_, _, rfl, .inl rfl, HS2.out.set 0 (.slice (some ⟨g, o, none⟩) (ps.length - 1) cp0), ?_, ⟨on.os.trans HON.out.os, on.tape.trans HON.out.tape, on.output.trans HON.out.output, Nat.le_of_eq (on.size.trans HON.out.size).symm, fun k h1 h2 h3 => (on.block k h2).trans (HON.out.block k (fun e => h3 (by rw [e]; rfl)))⟩, .inl rfl⟩
               rw [HE.out]
               exact HOW.out.only on hsB)
      · rw [show decide (ps[k] = q) = false by simpa using heq] at he
        have HE := Lib.hid heq
        unfold kv at *
        generalize ps[k] = pk at he ck
        clear heq
        go_wp2_with fail
        have hw : IntKind.i64.wrap ((k : Int) + 1) = ((k + 1 : Nat) : Int) := by rw [IntWalk.i64_in _ (by omega)]; omega
        refine ⟨⟨k + 1, by omega, by go_num, trivial, Lib.hid fun j h1 h2 => ?_⟩, by simp [intOf]; omega⟩
        by_cases hjk : j = k
        · subst hjk; exact HE.out
        · exact hn.out j h1 (by omega)
    · obtain rfl : k = ps.length := by omega
      have hni : q ∉ ps := fun hm => by
        obtain ⟨j, hj, he⟩ := List.getElem_of_mem hm
        exact hn.out j hj hj he
      have HNI := Lib.hid (List.erase_of_not_mem hni)
      clear hni
      go_wp2_with (go_at_call 70; refine (keyErr _ _).mono ?_; rintro e w3 ⟨rfl, hb3⟩; have hb3 := Lib.hid hb3)
      go_ret
      rw [HNI.out]
      exact ⟨_, _, rfl, .inr ⟨_, rfl⟩, HS.out.below hb3.out hlt, HO.out.below hb3.out, KF.below hb3.out, .inl rfl⟩
end Go.Proofs.YtaemdppihpefnaaGreatDoor

/- jwk's keys made: newSymmetricKey, NewSymmetric, Set of octets and of an ID; newSet, NewSet; Keys of a set with no field. -/
namespace Go.Proofs.YtaemdppihpefnaaGreatDoor
open Go.RowKit
set_option linter.unusedVariables false

theorem run_mk8 (n : Nat) (hn : n ≤ 1000000) : ∀ wx : World, (Instr.makeSlice 22 (.int .i64 n) (.int .i64 n)).run Tryz.prog wx = .ok (.slice (some ⟨wx.heap.size, 0, none⟩) n n) (wx.alloc (.cells (cs8 (List.replicate n 0)).toArray 5)) := fun wx => by
  have h := run_makeN Tryz.prog 22 5 (.int .u8 0) 1 Tryz.underlying22 (by kernel_rfl) rfl n (by omega) (by unfold maxLen; omega) wx
  rw [h]
  simp [cs8]

def keyC (k o : Value) (m : Nat) : List Value := [.pointer none, k, .pointer none, .pointer none, o, .pointer none, .pointer none, .pointer none, .map (some m)]

set_option maxRecDepth 100000 in
set_option maxHeartbeats 1000000 in
theorem newKey (w : World) : Calls Tryz.prog 60 #[] w fun e w' => ∃ p m, e = .returned (.pointer (some ⟨p, 0, none⟩)) ∧ w.heap.size ≤ p ∧ Row w' p 194 (keyC (.pointer none) (.slice none 0 0) m) ∧ Below w.heap.size w w' := by
  have hmm := @run_makeMap Tryz.prog
  go_enter Tryz.func60, Tryz.ntmps60
  go_wp2_with fail
  go_ret
  refine ⟨(w.alloc (.map #[] 0)).heap.size, w.heap.size, by simp, by simp, ?_, ((Below.refl _ _).alloc (Nat.le_refl _) _).alloc (by simp) _⟩
  exact Row.alloc (w.alloc (.map #[] 0)) (keyC (.pointer none) (.slice none 0 0) w.heap.size) _

set_option maxRecDepth 100000 in
set_option maxHeartbeats 1000000 in
theorem newSet (w : World) : Calls Tryz.prog 39 #[] w fun e w' => ∃ s m, e = .returned (.iface 148 (.pointer (some ⟨s, 0, none⟩))) ∧ w.heap.size ≤ m ∧ w.heap.size ≤ s ∧ s < w'.heap.size ∧ MapAt w' m [] ∧ Row w' s 196 [.slice none 0 0, .map (some m)] ∧ Below w.heap.size w w' := by
  have hmm := @run_makeMap Tryz.prog
  have hin : Calls Tryz.prog 62 #[] w fun e w' => ∃ s m, e = .returned (.pointer (some ⟨s, 0, none⟩)) ∧ w.heap.size ≤ m ∧ w.heap.size ≤ s ∧ s < w'.heap.size ∧ MapAt w' m [] ∧ Row w' s 196 [.slice none 0 0, .map (some m)] ∧ Below w.heap.size w w' := by
    go_enter Tryz.func62, Tryz.ntmps62
    go_wp2_with fail
    go_ret
    refine ⟨(w.alloc (.map #[] 0)).heap.size, w.heap.size, by simp, by simp, by simp, by simp, ?_, Row.alloc (w.alloc (.map #[] 0)) [.slice none 0 0, .map (some w.heap.size)] _, ((Below.refl _ _).alloc (Nat.le_refl _) _).alloc (by simp) _⟩
    unfold MapAt
    rw [heap_alloc_old _ _ (by simp), heap_alloc_new]
    rfl
  clear hmm
  have hin := Lib.hid hin
  go_enter Tryz.func39, Tryz.ntmps39
  go_wp2_with fail
  go_at_call 62
  refine hin.out.mono ?_
  rintro e w1 ⟨s, m, rfl, h1, h2, h3, h4, h5, h6⟩
  have HH := Lib.hid (show _ ∧ _ ∧ _ from ⟨h4, h5, h6⟩)
  clear h4 h5 h6 hin
  go_wp2_with fail
  go_ret
  exact ⟨s, m, rfl, h1, h2, h3, HH.out⟩

set_option maxRecDepth 100000 in
set_option maxHeartbeats 2000000 in
theorem setOct (p m gs os n c : Nat) (xs : List Int) (w : World) (hr : Row w p 194 (keyC (.pointer none) (.slice none 0 0) m)) (hn : xs.length = n) (h0 : 0 < n) (hl : n ≤ 1000) (hc : n ≤ c) (hv : ∀ i, i < n → w.cell? ⟨gs, os + i, none⟩ = some (.int .u8 (xs.getD i 0))) (hg : gs ≠ p) :
    Calls Tryz.prog 80 #[.pointer (some ⟨p, 0, none⟩), .string (⟨#[107]⟩ : ByteArray), .iface 22 (.slice (some ⟨gs, os, none⟩) n c)] w fun e w' => e = .returned .nilIface ∧ (∃ ov, Row w' p 194 (keyC (.pointer none) ov m)) ∧ But p w w' := by
  have hta : ∀ wx, (Instr.typeAssert (.iface 22 (.slice (some ⟨gs, os, none⟩) n c)) 20 22 true).run Tryz.prog wx = .ok (.tuple #[.slice (some ⟨gs, os, none⟩) n c, .bool true]) wx := fun _ => by kernel_rfl
  have hgl : gs < w.heap.size := World.block_lt_of_cell? w _ (hv 0 h0)
  have hlt := hr.lt
  obtain ⟨w1, hw1⟩ : ∃ w1 : World, w1 = w.setCell ⟨p, 4, none⟩ (.slice (some ⟨w.heap.size, 0, none⟩) n n) := ⟨_, rfl⟩
  obtain ⟨w2, hw2⟩ : ∃ w2 : World, w2 = w1.alloc (.cells (cs8 (List.replicate n 0)).toArray 5) := ⟨_, rfl⟩
  have o1 : Only p w w1 := by rw [hw1]; exact Only.set w p 4 _
  have hr1 : Row w1 p 194 (keyC (.pointer none) (.slice (some ⟨w.heap.size, 0, none⟩) n n) m) := by rw [hw1]; exact hr.set 4 _
  have HP2 : Hid (Row w2 p 194 (keyC (.pointer none) (.slice (some ⟨w.heap.size, 0, none⟩) n n) m)) := Lib.hid (by rw [hw2]; exact hr1.allocd _)
  have HG2 : Hid (Row w2 w.heap.size 5 (cs8 (List.replicate n 0))) := Lib.hid (by have h := Row.alloc w1 (cs8 (List.replicate n 0)) 5; rw [o1.size] at h; rw [hw2]; exact h)
  have HB2 : Hid (But p w w2) := Lib.hid (by rw [hw2]; exact (But.of_only o1).alloc _)
  have d1 : Hid ((cs8 xs).length = Nat.min n n) := Lib.hid (by simp [cs8, hn])
  have d2 : Hid (0 < (cs8 xs).length → some (⟨w.heap.size, 0, none⟩ : Addr) = some ⟨w.heap.size, 0, none⟩ ∧ ∃ ad, some (⟨gs, os, none⟩ : Addr) = some ad ∧ ∀ j v, (cs8 xs)[j]? = some v → w2.cell? (ad.add j) = some v) := Lib.hid (fun _ => ⟨rfl, _, rfl, fun j v hj => by
    have hjn : j < n := by have := (List.getElem?_eq_some_iff.1 hj).1; simpa [cs8, hn] using this
    rw [Go.WideShapes.add_plain]
    have h1 : w2.cell? ⟨gs, os + j, none⟩ = w.cell? ⟨gs, os + j, none⟩ := HB2.out.cellAt hgl hg
    rw [h1, hv j hjn, ← hj]
    simp [cs8, List.getD, show j < xs.length by omega]⟩)
  have d3 : Hid (0 + (cs8 xs).length ≤ (cs8 (List.replicate n (0 : Int))).length) := Lib.hid (by simp [cs8, hn])
  have hmk := run_mk8 n (by omega)
  have q22 := fun (w : World) (a : Option Addr) (n c n' c' : Nat) => Lib.run_eql_slice_nil (P := Tryz.prog) w 22 5 a n c n' c' Tryz.underlying22
  have c4 : w.cell? ⟨p, 4, none⟩ = some (.slice none 0 0) := by rw [hr.cell]; rfl
  have f4 : w.frozen? ⟨p, 4, none⟩ = false := hr.unfrozen 4
  have HW1 := Lib.hid hw1
  have HW2 := Lib.hid hw2
  have HLT := Lib.hid hlt
  clear hr hv hw1 hw2 hr1 o1 hn
  go_enter Tryz.func80, Tryz.ntmps80
  go_wp2_with (rw [← HW1.out, ← HW2.out]; refine wpl_copy rfl _ _ 22 22 rfl 5 Tryz.underlying22 (by kernel_rfl) _ _ _ _ _ _ rfl rfl w.heap.size 0 _ 5 HG2.out (cs8 xs) d1.out d2.out d3.out (one_cs8 xs) ?_; intro w5 r5 o5; have O5 := Lib.hid o5; clear r5 o5)
  go_wp2_with fail
  go_ret
  refine ⟨rfl, ⟨_, HP2.out.only O5.out (by have := HLT.out; omega)⟩, HB2.out.only_new O5.out (Nat.le_refl _)⟩

set_option maxRecDepth 100000 in
set_option maxHeartbeats 2000000 in
theorem setKid (p m : Nat) (ov : Value) (id : List Int) (w : World) (hr : Row w p 194 (keyC (.pointer none) ov m)) :
    Calls Tryz.prog 61 #[.pointer (some ⟨p, 0, none⟩), .string (⟨#[107, 105, 100]⟩ : ByteArray), .iface 9 (.string (strOfNums id))] w fun e w' => e = .returned .nilIface ∧ KeyAt w' p id ∧ But p w w' := by
  have hta : ∀ wx, (Instr.typeAssert (.iface 9 (.string (strOfNums id))) 20 9 true).run Tryz.prog wx = .ok (.tuple #[.string (strOfNums id), .bool true]) wx := fun _ => by kernel_rfl
  have c4 : w.cell? ⟨p, 1, none⟩ = some (.pointer none) := by rw [hr.cell]; rfl
  have f4 : w.frozen? ⟨p, 1, none⟩ = false := hr.unfrozen 1
  have HR := Lib.hid hr
  have hlt := hr.lt
  clear hr
  have hin : Calls Tryz.prog 80 #[.pointer (some ⟨p, 0, none⟩), .string (⟨#[107, 105, 100]⟩ : ByteArray), .iface 9 (.string (strOfNums id))] w fun e w' => e = .returned .nilIface ∧ KeyAt w' p id ∧ But p w w' := by
    go_enter Tryz.func80, Tryz.ntmps80
    go_wp2_with fail
    go_ret
    have on := Only.set w p 1 (.pointer (some ⟨w.heap.size, 0, none⟩))
    have hz : (w.setCell ⟨p, 1, none⟩ (.pointer (some ⟨w.heap.size, 0, none⟩))).heap.size = w.heap.size := on.size
    have hk := Row.alloc (w.setCell ⟨p, 1, none⟩ (.pointer (some ⟨w.heap.size, 0, none⟩))) [.string (strOfNums id)] 9
    rw [hz] at hk
    exact ⟨rfl, ⟨w.heap.size, ov, m, (HR.out.set 1 _).allocd _, hk⟩, (But.of_only on).alloc _⟩
  have hin := Lib.hid hin
  clear hta c4 f4
  go_enter Tryz.func61, Tryz.ntmps61
  go_wp2_with fail
  go_at_call 80
  refine hin.out.mono ?_
  rintro e w1 ⟨rfl, h1, h2⟩
  have H1 := Lib.hid h1
  have H2 := Lib.hid h2
  clear h1 h2 hin
  go_wp2_with fail
  go_ret
  exact ⟨rfl, H1.out, H2.out⟩

set_option maxRecDepth 100000 in
set_option maxHeartbeats 2000000 in
theorem newSymmetric (v : Value) (xs : List Int) (w : World) (hv : Bs w v xs) (h0 : 0 < xs.length) (hl : xs.length ≤ 1000) :
    Calls Tryz.prog 37 #[v] w fun e w' => ∃ p m ov, e = .returned (.tuple #[.iface 146 (.pointer (some ⟨p, 0, none⟩)), .nilIface]) ∧ w.heap.size ≤ p ∧ Row w' p 194 (keyC (.pointer none) ov m) ∧ Below w.heap.size w w' := by
  obtain ⟨p0, c, rfl, hc, _, _⟩ := id hv
  obtain ⟨gs, os, rfl, hcell⟩ := hv.at h0
  have HK := Lib.hid (newKey w)
  have HC := Lib.hid hcell
  have hgl : gs < w.heap.size := World.block_lt_of_cell? w _ (hcell 0 h0)
  obtain ⟨n, hn⟩ : ∃ n, xs.length = n := ⟨_, rfl⟩
  have HN := Lib.hid hn
  rw [hn]
  clear hcell hv
  go_enter Tryz.func37, Tryz.ntmps37
  go_wp2_with fail
  go_at_call 60
  refine HK.out.mono ?_
  rintro e w1 ⟨p, m, rfl, hp, hr, hb⟩
  have HB1 := Lib.hid hb
  have HO := Lib.hid (setOct p m gs os n c xs w1 hr HN.out (by omega) (by omega) (by omega) (fun i hi => by rw [hb.cell (p := ⟨gs, os + i, none⟩) hgl]; exact HC.out i (by rw [HN.out]; exact hi)) (by omega))
  have hp1 := hr.lt
  clear hr hb HK hn
  have HS : Hid (Calls Tryz.prog 61 #[.pointer (some ⟨p, 0, none⟩), .string (⟨#[107]⟩ : ByteArray), .iface 22 (.slice (some ⟨gs, os, none⟩) n c)] w1 fun e w' => e = .returned .nilIface ∧ (∃ ov, Row w' p 194 (keyC (.pointer none) ov m)) ∧ But p w1 w') := Lib.hid (by
    go_enter Tryz.func61, Tryz.ntmps61
    go_wp2_with fail
    go_at_call 80
    refine HO.out.mono ?_
    rintro e w2 ⟨rfl, ⟨ov, h1⟩, h2⟩
    have H1 := Lib.hid h1
    have H2 := Lib.hid h2
    clear h1 h2 HO
    go_wp2_with fail
    go_ret
    exact ⟨rfl, ⟨ov, H1.out⟩, H2.out⟩)
  clear HO
  go_wp2_with fail
  go_at_call 61
  refine HS.out.mono ?_
  rintro e w2 ⟨rfl, ⟨ov, h1⟩, h2⟩
  have H1 := Lib.hid h1
  have H2 := Lib.hid (HB1.out.trans (h2.below hp (by omega)))
  clear h1 h2 HS
  go_wp2_with fail
  go_ret2
  exact ⟨p, m, ov, rfl, hp, H1.out, H2.out⟩

theorem run_lenM {P : Program} {t k e ty : TypeId} (ht : P.underlying t = some (.map k e)) {b : Nat} {es : Array MapEntry} {clock : Nat} {w : World} (hb : w.heap[b]? = some (.map es clock)) :
    (Builtin.len_ #[t] ty #[.map (some b)]).run P w = .ok (.int .i64 es.size) w := by
  simp [Builtin.len_, run_underlying ht, MapKept.run_getObj_map hb, goInt]

set_option maxRecDepth 100000 in
set_option maxHeartbeats 2000000 in
/-- Keys of a set that has no field. -/
theorem setKeys (s m : Nat) (v : Value) (w : World) (hs : w.cell? ⟨s, 1, none⟩ = some (.map (some m))) (hm : MapAt w m []) :
    Calls Tryz.prog 239 #[.pointer (some ⟨s, 0, none⟩)] w fun e w' => (∃ g, e = .returned (.slice (some ⟨g, 0, none⟩) 0 0)) ∧ Below w.heap.size w w' := by
  have hm0 : w.heap[m]? = some (.map #[] 0) := hm
  have hmL : m < w.heap.size := (Array.getElem?_eq_some_iff.1 hm0).1
  obtain ⟨W1, hW1⟩ : ∃ W1 : World, W1 = w.alloc (.cells #[] 9) := ⟨_, rfl⟩
  have hs1 : W1.heap.size = w.heap.size + 1 := by rw [hW1]; simp
  have hb1 : Below w.heap.size w W1 := by rw [hW1]; exact (Below.refl _ _).alloc (Nat.le_refl _) _
  have hm1 : W1.heap[m]? = some (.map #[] 0) := by rw [hb1.block m hmL]; exact hm0
  obtain ⟨W2, hW2⟩ : ∃ W2 : World, W2 = W1.alloc (.mapIter (some m) 0 #[] 0) := ⟨_, rfl⟩
  have hb2 : Below w.heap.size w W2 := by rw [hW2]; exact hb1.alloc hb1.size _
  have hmk : ∀ wx : World, (Instr.makeSlice 57 (.int .i64 0) (.int .i64 0)).run Tryz.prog wx = .ok (.slice (some ⟨wx.heap.size, 0, none⟩) 0 0) (wx.alloc (.cells #[] 9)) := fun wx => by
    have := run_makeN Tryz.prog 57 9 (.string (⟨#[]⟩ : ByteArray)) 16 Tryz.underlying57 (by kernel_rfl) rfl 0 (by omega) (by unfold maxLen; omega) wx
    simpa using this
  have hlen := fun ty => run_lenM (P := Tryz.prog) (t := 189) (ty := ty) (w := w) Tryz.underlying189 hm0
  have hrg : (Instr.range 189 (.map (some m))).run Tryz.prog W1 = .ok (.pointer (some ⟨w.heap.size + 1, 0, none⟩)) W2 := by
    rw [run_range_map (P := Tryz.prog) W1 189 _ _ m #[] 0 Tryz.underlying189 hm1, hW2, hs1]
  have hnx : ∀ ty, (Instr.next (.pointer (some ⟨w.heap.size + 1, 0, none⟩)) false ty).run Tryz.prog W2 = .ok (.tuple #[.bool false]) W2 := fun ty => by
    rcases run_next_map (P := Tryz.prog) W1 ty m 0 0 #[] #[] 0 hm1 (fun x hx => by simp at hx) (Nat.le_refl _) with ⟨_, h⟩ | ⟨e, he, _⟩
    · rw [hs1] at h; rw [hW2]; exact h
    · simp [leftOf] at he
  have hs1' : W1.cell? ⟨s, 1, none⟩ = some (.map (some m)) := by rw [hb1.cell (p := ⟨s, 1, none⟩) (World.block_lt_of_cell? w _ hs)]; exact hs
  have HB2 := Lib.hid hb2
  have HW1 := Lib.hid hW1
  clear hm hm0 hb1 hm1 hb2 hW2 hs1 hW1
  go_enter Tryz.func239, Tryz.ntmps239
  go_upto_region 2 with (fail)
  rw [← HW1.out]
  go_wp2_with fail
  go_loopw [4] (fun i wr => i = .int .i64 0 ∧ wr = W2) (fun _ _ => 0)
  case atStart => exact ⟨rfl, rfl⟩
  case round =>
    obtain ⟨rfl, rfl⟩ := hrel
    go_wp2_with fail
    go_ret
    exact ⟨⟨_, rfl⟩, HB2.out⟩
end Go.Proofs.YtaemdppihpefnaaGreatDoor
