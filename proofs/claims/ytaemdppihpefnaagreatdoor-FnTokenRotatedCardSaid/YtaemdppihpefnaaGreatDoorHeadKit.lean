/- Strings of numbers: lengths, letters, parts. -/
import Derived.Test.YtaemdppihpefnaaGreatDoorBase
import Derived.Laws.Concat
import Derived.Laws.IdiomStrings
import Derived.Lib.OthersKept
import Derived.Laws.Runes
import Derived.Test.YtaemdppihpefnaaGreatDoorHashKit
import Derived.Laws.RangeString
import Derived.WalkSmall
import Derived.Deep.QuietTactic
import Derived.BigQuiet
import Derived.LoopTactic
import Derived.Deep.LoopGhost
import Derived.Outline
import Derived.IntWalk
import Derived.Deep.MidRow
import Derived.Deep.RegionHeld3
namespace Go.Proofs.YtaemdppihpefnaaGreatDoor
open Go.RowKit
set_option linter.unusedVariables false

theorem S_size (xs : List Int) : (strOfNums xs).size = xs.length := by simp [strOfNums, ByteArray.size]
theorem S_append (xs ys : List Int) : strOfNums xs ++ strOfNums ys = strOfNums (xs ++ ys) := by
  rw [strOfNums, strOfNums, ByteArray.mk_append_mk]
  simp [strOfNums]
theorem S_get (xs : List Int) (hB : Byt xs) (i : Nat) (h : i < (strOfNums xs).size) : (((strOfNums xs)[i]'h).toNat : Int) = xs.getD i 0 := by
  have hi : i < xs.length := by rwa [S_size] at h
  have e : (strOfNums xs)[i]'h = UInt8.ofNat (xs.getD i 0).toNat := by
    show (strOfNums xs).data[i]'h = _
    simp [strOfNums, List.getD, hi]
  have hb := hB.at hi
  rw [e, UInt8.toNat_ofNat']
  omega
theorem S_extract (xs : List Int) (i j : Nat) : (strOfNums xs).extract i j = strOfNums ((xs.take j).drop i) := by
  apply ByteArray.ext
  simp [strOfNums, ByteArray.data_extract, List.map_take, List.map_drop, List.extract_toArray, List.drop_take]
theorem S_nil : strOfNums [] = ByteArray.empty := rfl
theorem S_inj {xs ys : List Int} (hx : Byt xs) (hy : Byt ys) (h : strOfNums xs = strOfNums ys) : xs = ys := by
  refine bytesOf_inj xs ys hx hy ?_
  rw [← Lib.strOfNums_toList, ← Lib.strOfNums_toList, h]
theorem enc_ok : ((List.range 128).all fun x => decide ((Utf8.encode (x : Nat)).data.toList = (strOfNums [(x : Int)]).data.toList)) = true := by decide +kernel
theorem enc_ascii (x : Int) (h0 : 0 ≤ x) (h1 : x < 128) : Utf8.encode x = strOfNums [x] := by
  obtain ⟨n, rfl⟩ := Int.eq_ofNat_of_zero_le h0
  have := List.all_eq_true.1 enc_ok n (List.mem_range.2 (by omega))
  have := of_decide_eq_true this
  apply ByteArray.ext
  exact Array.toList_inj.1 this
theorem run_cat {P : Program} (xs ys : List Int) (hx : xs.length ≤ 1000000) (hy : ys.length ≤ 1000000) (w : World) : (Op.stringOp .add (strOfNums xs) (strOfNums ys)).run P w = .ok (.string (strOfNums (xs ++ ys))) w := by
  rw [run_string_add_sum w _ _ (by rw [S_size, S_size]; omega), S_append]
theorem run_sidx {P : Program} (t : TypeId) (ht : P.underlying t = some .string) (xs : List Int) (hB : Byt xs) (K : IntKind) (i : Nat) (V : Int) (hV : V = (i : Int)) (hi : i < xs.length) (w : World) : (Instr.index t (.string (strOfNums xs)) (.int K V)).run P w = .ok (.int .u8 (xs.getD i 0)) w := by
  subst hV
  have h : (0 : Int) ≤ (i : Int) ∧ (i : Int) < ((strOfNums xs).size : Int) := by rw [S_size]; omega
  rw [run_index_string w t _ K _ ht, dif_pos h]
  have := S_get xs hB i (by rw [S_size]; exact hi)
  simp only [Int.toNat_natCast]
  rw [this]
theorem run_sfrom {P : Program} (t : TypeId) (ht : P.underlying t = some .string) (xs : List Int) (K : IntKind) (i : Nat) (V : Int) (hV : V = (i : Int)) (hi : i ≤ xs.length) (w : World) : (Instr.slice t (.string (strOfNums xs)) (some (.int K V)) none none).run P w = .ok (.string (strOfNums (xs.drop i))) w := by
  subst hV
  rw [run_slice_string_from_if w t _ K _ ht, if_pos (by rw [S_size]; omega), S_extract, S_size]
  simp
theorem run_sto {P : Program} (t : TypeId) (ht : P.underlying t = some .string) (xs : List Int) (K : IntKind) (i : Nat) (V : Int) (hV : V = (i : Int)) (hi : i ≤ xs.length) (w : World) : (Instr.slice t (.string (strOfNums xs)) none (some (.int K V)) none).run P w = .ok (.string (strOfNums (xs.take i))) w := by
  subst hV
  rw [run_slice_string_to_if w t _ K _ ht, if_pos (by rw [S_size]; omega), S_extract]
  simp
/-- '[]byte(s)'. -/
theorem run_bytesS {P : Program} (src dst e : TypeId) (hs : P.underlying src = some .string) (hd : P.underlying dst = some (.slice e)) (he : P.underlying e = some (.int .u8)) (xs : List Int) (hB : Byt xs) (w : World) :
    ∃ v w', (convert src dst (.string (strOfNums xs))).run P w = .ok v w' ∧ Bs w' v xs ∧ Below w.heap.size w w' := by
  have h := run_bytes_of_string w src dst e (strOfNums xs) hs hd he
  refine ⟨_, _, h, ?_, ?_⟩
  · have hge := grownCap_ge w (strOfNums xs).size 0 e
    generalize grownCap w (strOfNums xs).size 0 e = c at hge ⊢
    rw [S_size] at hge ⊢
    refine ⟨_, c, rfl, hge, (fun h => by cases h), fun hl => ⟨w.heap.size, 0, rfl, fun i hi => ?_⟩⟩
    rw [Nat.zero_add, World.cell?]
    have e1 : (w.drew.alloc (.cells (bytesRow (strOfNums xs) c) e ((bytesRow (strOfNums xs) c).size, (bytesRow (strOfNums xs) c).size + 1))).heap[w.heap.size]? = some (.cells (bytesRow (strOfNums xs) c) e ((bytesRow (strOfNums xs) c).size, (bytesRow (strOfNums xs) c).size + 1)) := heap_alloc_new w.drew _
    have hb := hB.at hi
    simp only [e1]
    have e2 : (bytesRow (strOfNums xs) c)[i]? = some (Value.int .u8 (xs.getD i 0)) := by
      simp only [bytesRow]
      rw [Array.getElem?_append_left (by simp [strOfNums]; exact hi)]
      simp only [strOfNums, Array.getElem?_map, List.getElem?_toArray, List.getElem?_map]
      have : xs[i]? = some (xs.getD i 0) := by simp [List.getD, hi]
      rw [this]
      simp only [Option.map_some, Option.some.injEq, Value.int.injEq, true_and]
      rw [UInt8.toNat_ofNat']
      omega
    simp [e2]
  · exact (below_alloc0 w)
where
  below_alloc0 (w : World) {o : Obj} : Below w.heap.size w (w.drew.alloc o) := by
    have h : Below w.heap.size w w.drew := ⟨rfl, rfl, rfl, Nat.le_refl _, fun _ _ => rfl⟩
    exact h.alloc (Nat.le_refl _) o
end Go.Proofs.YtaemdppihpefnaaGreatDoor

/- spec's headStyle with no style: blank, text, value. -/
namespace Go.Proofs.YtaemdppihpefnaaGreatDoor
open Go.RowKit
set_option linter.unusedVariables false

/-- Letters that are written as they are. -/
def Plain (xs : List Int) : Prop := ∀ x ∈ xs, 32 ≤ x ∧ x < 128 ∧ x ≠ 34 ∧ x ≠ 92
theorem Plain.byt {xs : List Int} (h : Plain xs) : Byt xs := fun x hx => by have := h x hx; omega

set_option maxRecDepth 100000 in
set_option maxHeartbeats 1000000 in
theorem blankC (gs : Nat) (w : World) (hs : w.cell? ⟨gs, 0, none⟩ = some (.int .u64 0)) :
    Calls Tryz.prog 49 #[.pointer (some ⟨gs, 0, none⟩)] w fun e w' => e = .returned (.string (strOfNums [])) ∧ w' = w := by
  go_enter Tryz.func49, Tryz.ntmps49
  go_wp2_with fail
  go_loopw [3] (fun s wr => s = .string (strOfNums []) ∧ w = wr) (fun _ _ => 0)
  case atStart => exact ⟨rfl, rfl⟩
  case round =>
    obtain ⟨rfl, rfl⟩ := hrel
    go_wp2_with fail
    go_ret
    exact ⟨rfl, rfl⟩

set_option maxRecDepth 100000 in
set_option maxHeartbeats 1000000 in
theorem shortC (x : Int) (h1 : 32 ≤ x) (h2 : x ≠ 34) (h3 : x ≠ 92) (w : World) :
    Calls Tryz.prog 72 #[.int .i32 x] w fun e w' => (∃ t, e = .returned (.string t)) ∧ w' = w := by
  by_cases h : x = 47
  · subst h
    go_enter Tryz.func72, Tryz.ntmps72
    go_wp2_with fail
    go_ret
    exact ⟨⟨_, rfl⟩, rfl⟩
  · have e1 : (x == 34) = false := by rw [beq_eq_false_iff_ne]; omega
    have e2 : (x == 92) = false := by rw [beq_eq_false_iff_ne]; omega
    have e3 : (x == 47) = false := by rw [beq_eq_false_iff_ne]; omega
    have e4 : (x == 8) = false := by rw [beq_eq_false_iff_ne]; omega
    have e5 : (x == 9) = false := by rw [beq_eq_false_iff_ne]; omega
    have e6 : (x == 10) = false := by rw [beq_eq_false_iff_ne]; omega
    have e7 : (x == 12) = false := by rw [beq_eq_false_iff_ne]; omega
    have e8 : (x == 13) = false := by rw [beq_eq_false_iff_ne]; omega
    have f4 : ¬ x = 8 := by omega
    have f5 : ¬ x = 9 := by omega
    have f6 : ¬ x = 10 := by omega
    have f7 : ¬ x = 12 := by omega
    have f8 : ¬ x = 13 := by omega
    go_enter Tryz.func72, Tryz.ntmps72
    go_wp2_with fail
    go_ret
    exact ⟨⟨_, rfl⟩, rfl⟩

set_option maxRecDepth 100000 in
set_option maxHeartbeats 2000000 in
theorem textC (gs : Nat) (xs : List Int) (w : World) (hs : w.cell? ⟨gs, 0, none⟩ = some (.int .u64 0)) (hx : Plain xs) (hl : xs.length ≤ 10000) :
    Calls Tryz.prog 50 #[.pointer (some ⟨gs, 0, none⟩), .string (strOfNums xs)] w fun e w' => e = .returned (.string (strOfNums (34 :: (xs ++ [34])))) ∧ Below w.heap.size w w' := by
  have HX := Lib.hid hx
  have hgl : gs < w.heap.size := World.block_lt_of_cell? w _ hs
  have HS := Lib.hid hs
  have dn : ∀ (b : Bool) (wx : World), (Op.unary .not (.bool b)).run Tryz.prog wx = .ok (.bool (!b)) wx := fun _ _ => rfl
  have hsz := S_size xs
  clear hx hs
  go_enter Tryz.func50, Tryz.ntmps50
  go_wp2_with fail
  go_loopw [5] (fun s wr => ∃ k : Nat, k ≤ xs.length ∧ s = .string (strOfNums (34 :: xs.take k)) ∧ Hid (wr.heap[w.heap.size]? = some (.stringIter (strOfNums xs) k)) ∧ Hid (Below w.heap.size w wr)) (fun _ wr => xs.length - wr.iterPos w.heap.size)
  case atStart => exact ⟨0, by omega, rfl, Lib.hid (World.iter_heap w _ 0), Lib.hid ((Below.refl _ _).alloc (Nat.le_refl _) _)⟩
  case round =>
    obtain ⟨k, hk, rfl, hit, hB⟩ := hrel
    have hpos0 := Lib.hid (iterPos_of hit.out)
    by_cases hkn : k < xs.length
    · obtain ⟨x, hxk⟩ : ∃ x, xs.getD k 0 = x := ⟨_, rfl⟩
      have hp := HX.out x (by rw [← hxk]; simp [List.getD, hkn])
      have hg := S_get xs HX.out.byt k (by rw [S_size]; exact hkn)
      rw [hxk] at hg
      have hnx : ∀ ty, (Instr.next (.pointer (some ⟨w.heap.size, 0, none⟩)) true ty).run Tryz.prog wr = .ok (.tuple #[.bool true, .int .i64 k, .int .i32 x]) (wr.iterAt w.heap.size (strOfNums xs) (k + 1)) := fun ty => by
        rw [Lib.run_next_ascii_at wr w.heap.size (strOfNums xs) k ty hit.out (by rw [S_size]; exact hkn) (by omega), hg]
      have hit2 := Lib.hid (Lib.iterAt_heap wr w.heap.size (strOfNums xs) k (k + 1) hit.out)
      have hB2 := Lib.hid (Lib.below_iterAt hB.out (k := w.heap.size) (Nat.le_refl _) (strOfNums xs) (k + 1))
      generalize wr.iterAt w.heap.size (strOfNums xs) (k + 1) = W1 at hnx hit2 hB2
      have hs1 : W1.cell? ⟨gs, 0, none⟩ = some (.int .u64 0) := by rw [hB2.out.cell (p := ⟨gs, 0, none⟩) hgl]; exact HS.out
      have HSH := Lib.hid (shortC x hp.1 hp.2.2.1 hp.2.2.2 W1)
      have h1 : ¬ x < 32 := by omega
      have h1d : decide (x < 32) = false := by rw [decide_eq_false_iff_not]; omega
      have h2 : (x == 34) = false := by rw [beq_eq_false_iff_ne]; omega
      have h3 : (x == 92) = false := by rw [beq_eq_false_iff_ne]; omega
      have h4 : ¬ x = 34 := by omega
      have h5 : ¬ x = 92 := by omega
      have hen := enc_ascii x (by omega) hp.2.1
      have hcat := run_cat (P := Tryz.prog) (34 :: xs.take k) [x] (by simp; omega) (by simp)
      have HT : Hid (34 :: xs.take k ++ [x] = 34 :: xs.take (k + 1)) := Lib.hid (by
        rw [List.cons_append]
        congr 1
        rw [List.take_add_one, ← hxk]
        simp [List.getD, hkn])
      rw [HT.out] at hcat
      clear hit hB hg hxk hp
      go_wp2_with fail
      go_at_call 72
      refine HSH.out.mono ?_
      rintro e W1 ⟨⟨t, rfl⟩, rfl⟩
      clear HSH
      go_wp2_with fail
      exact ⟨⟨k + 1, by omega, rfl, hit2, hB2⟩, by rw [hpos0.out, iterPos_of hit2.out]; omega⟩
    · obtain rfl : k = xs.length := by omega
      have hnx : ∀ ty, (Instr.next (.pointer (some ⟨w.heap.size, 0, none⟩)) true ty).run Tryz.prog wr = .ok (.tuple #[.bool false]) wr := fun ty =>
        Lib.run_next_end_at wr w.heap.size (strOfNums xs) xs.length ty hit.out (by rw [S_size]; omega)
      have hcat : ∀ wx, (Op.stringOp .add (strOfNums (34 :: xs)) (⟨#[34]⟩ : ByteArray)).run Tryz.prog wx = .ok (.string (strOfNums (34 :: (xs ++ [34])))) wx := fun wx =>
        run_cat (P := Tryz.prog) (34 :: xs) [34] (by simp; omega) (by simp) wx
      rw [List.take_length] at *
      clear hit
      go_wp2_with fail
      go_ret
      exact ⟨rfl, hB.out⟩

set_option maxRecDepth 100000 in
set_option maxHeartbeats 1000000 in
theorem valueC (gs : Nat) (a : Value) (xs : List Int) (b c d e : Value) (w : World) (hs : w.cell? ⟨gs, 0, none⟩ = some (.int .u64 0)) (hx : Plain xs) (hl : xs.length ≤ 10000) :
    Calls Tryz.prog 51 #[.pointer (some ⟨gs, 0, none⟩), .agg #[a, .int .u8 3, b, c, d, .string (strOfNums xs), e]] w fun e w' => e = .returned (.string (strOfNums (34 :: (xs ++ [34])))) ∧ Below w.heap.size w w' := by
  have hgl : gs < w.heap.size := World.block_lt_of_cell? w _ hs
  have hb : Below w.heap.size w (w.alloc (.cells #[a, .int .u8 3, b, c, d, .string (strOfNums xs), e] 68)) := (Below.refl _ _).alloc (Nat.le_refl _) _
  have HT := Lib.hid (textC gs xs (w.alloc (.cells #[a, .int .u8 3, b, c, d, .string (strOfNums xs), e] 68)) (by rw [hb.cell (p := ⟨gs, 0, none⟩) hgl]; exact hs) hx hl)
  have HB := Lib.hid hb
  clear hb hx
  go_enter Tryz.func51, Tryz.ntmps51
  go_wp2_with fail
  go_at_call 50
  refine HT.out.mono ?_
  rintro e w1 ⟨rfl, hb1⟩
  have HB1 := Lib.hid (HB.out.trans (hb1.mono HB.out.size))
  clear hb1
  go_wp2_with fail
  go_ret
  exact ⟨rfl, HB1.out⟩
end Go.Proofs.YtaemdppihpefnaaGreatDoor

/- spec.HeadText with no style, of fields that are texts. -/
namespace Go.Proofs.YtaemdppihpefnaaGreatDoor
open Go.RowKit
set_option linter.unusedVariables false

def item (a t : List Int) : List Int := 34 :: (a ++ [34]) ++ 58 :: (34 :: (t ++ [34]))
def rend (N T : Nat → List Int) : Nat → List Int
  | 0 => []
  | k + 1 => rend N T k ++ ((if k = 0 then [] else [44]) ++ item (N k) (T k))
/-- A field's cells. -/
def fld (a t : List Int) : List Value := [.string (strOfNums a), .int .u8 3, .bool false, .bool false, .int .u64 0, .string (strOfNums t), .slice none 0 0]
theorem rend_len (N T : Nat → List Int) (n : Nat) (hN : ∀ i, i < n → (N i).length ≤ 100) (hT : ∀ i, i < n → (T i).length ≤ 100) : ∀ k, k ≤ n → (rend N T k).length ≤ k * 300
  | 0, _ => by simp [rend]
  | k + 1, h => by
    have ih := rend_len N T n hN hT k (by omega)
    have := hN k (by omega)
    have := hT k (by omega)
    simp only [rend, item, List.length_append, List.length_cons, List.length_nil]
    split <;> simp <;> omega

theorem cellsHd {w1 w' : World} {s f : Nat} {n t : List Int} (hs : Row w1 s 131 [.int .u64 0]) (hf : Row w1 f 68 (fld n t)) (hb : Below w1.heap.size w1 w') :
    w'.cell? ⟨s, 0, none⟩ = some (.int .u64 0) ∧ w'.cell? ⟨f, 0, none⟩ = some (.string (strOfNums n)) ∧ w'.cell? ⟨f, 1, none⟩ = some (.int .u8 3) ∧ w'.cell? ⟨f, 2, none⟩ = some (.bool false) ∧ w'.cell? ⟨f, 3, none⟩ = some (.bool false) ∧ w'.cell? ⟨f, 4, none⟩ = some (.int .u64 0) ∧
      w'.cell? ⟨f, 5, none⟩ = some (.string (strOfNums t)) ∧ w'.cell? ⟨f, 6, none⟩ = some (.slice none 0 0) := by
  have h1 := hs.below hb hs.lt
  have h2 := hf.below hb hf.lt
  refine ⟨?_, ?_, ?_, ?_, ?_, ?_, ?_, ?_⟩ <;> first | (rw [h1.cell]; rfl) | (rw [h2.cell]; rfl)

set_option maxRecDepth 100000 in
set_option maxHeartbeats 4000000 in
theorem headText (G c n : Nat) (N T : Nat → List Int) (w : World) (hG : G < w.heap.size) (hc : ∀ i, i < n → w.rangeAt G (7 * i) (fld (N i) (T i))) (hn : n ≤ 10) (hnc : n ≤ c)
    (hN : ∀ i, i < n → Plain (N i)) (hT : ∀ i, i < n → Plain (T i)) (hNl : ∀ i, i < n → (N i).length ≤ 100) (hTl : ∀ i, i < n → (T i).length ≤ 100) :
    Calls Tryz.prog 28 #[.slice (some ⟨G, 0, none⟩) n c, .int .u64 0] w fun e w' => e = .returned (.string (strOfNums (123 :: (rend N T n ++ [125])))) ∧ Below w.heap.size w w' := by
  have HC := Lib.hid hc
  have HN := Lib.hid hN
  have HT := Lib.hid hT
  have HNl := Lib.hid hNl
  have HTl := Lib.hid hTl
  have HRl := Lib.hid (rend_len N T n hNl hTl)
  obtain ⟨w1, hw1⟩ : ∃ w1 : World, w1 = w.alloc (.cells #[.int .u64 0] 131) := ⟨_, rfl⟩
  have hR1 : Row w1 w.heap.size 131 [.int .u64 0] := by rw [hw1]; exact Row.alloc w _ _
  have HR1 := Lib.hid hR1
  have HB1 : Hid (Below w.heap.size w w1) := Lib.hid (by rw [hw1]; exact (Below.refl _ _).alloc (Nat.le_refl _) _)
  have HW1 := Lib.hid hw1
  have HBL := Lib.hid (blankC w.heap.size w1 (by rw [hR1.cell]; rfl))
  have hi := Lib.hid (show (Tryz.prog.info? 68).map (·.size) = some 7 by kernel_rfl)
  have k1 : ∀ wx, (Op.stringOp .add (strOfNums []) (⟨#[123]⟩ : ByteArray)).run Tryz.prog wx = .ok (.string (strOfNums [123])) wx := fun wx => run_cat (P := Tryz.prog) [] [123] (by simp) (by simp) wx
  have k2 : ∀ wx, (Op.stringOp .add (strOfNums [123]) (strOfNums [])).run Tryz.prog wx = .ok (.string (strOfNums [123])) wx := fun wx => run_cat (P := Tryz.prog) [123] [] (by simp) (by simp) wx
  clear hc hN hT hNl hTl hR1 hw1
  go_enter Tryz.func28, Tryz.ntmps28
  go_wp2_with fail
  rw [← HW1.out]
  go_at_call 49
  refine HBL.out.mono ?_
  rintro e w1 ⟨rfl, rfl⟩
  go_wp2_with fail
  go_at_call 49
  refine HBL.out.mono ?_
  rintro e w1 ⟨rfl, rfl⟩
  go_wp2_with fail
  go_loopw [6, 20] (fun s i wr => ∃ k : Nat, k ≤ n ∧ s = .string (strOfNums (123 :: rend N T k)) ∧ i = .int .i64 k ∧ Hid (Below w1.heap.size w1 wr)) (fun _ i _ => n - (intOf i).toNat)
  case atStart => exact ⟨0, by omega, rfl, rfl, Lib.hid (Below.refl _ _)⟩
  case round =>
    obtain ⟨k, hk, rfl, rfl, hB⟩ := hrel
    by_cases hkn : k < n
    · have hkI : (k : Int) < n := by omega
      have hkw : IntKind.i64.wrap ((k : Int) + 1) = (k : Int) + 1 := IntWalk.i64_in _ (by omega)
      have hr : ∀ j v, (fld (N k) (T k))[j]? = some v → wr.cell? ⟨G, k * 7 + j, none⟩ = some v := (fun j v hj => by
        have h := HC.out k hkn j v hj
        rw [show 7 * k + j = k * 7 + j by omega] at h
        have h2 : w1.cell? ⟨G, k * 7 + j, none⟩ = some v := by rw [HB1.out.cell (p := ⟨G, k * 7 + j, none⟩) hG]; exact h
        rw [hB.out.cell (p := ⟨G, k * 7 + j, none⟩) (World.block_lt_of_cell? w1 _ h2)]; exact h2)
      have c0 : wr.cell? ⟨G, k * 7, none⟩ = some (.string (strOfNums (N k))) := hr 0 _ rfl
      have c1 : wr.cell? ⟨G, k * 7 + 1, none⟩ = some (.int .u8 3) := hr 1 _ rfl
      have c2 : wr.cell? ⟨G, k * 7 + 2, none⟩ = some (.bool false) := hr 2 _ rfl
      have c3 : wr.cell? ⟨G, k * 7 + 3, none⟩ = some (.bool false) := hr 3 _ rfl
      have c4 : wr.cell? ⟨G, k * 7 + 4, none⟩ = some (.int .u64 0) := hr 4 _ rfl
      have c5 : wr.cell? ⟨G, k * 7 + 5, none⟩ = some (.string (strOfNums (T k))) := hr 5 _ rfl
      have c6 : wr.cell? ⟨G, k * 7 + 6, none⟩ = some (.slice none 0 0) := hr 6 _ rfl
      clear hr
      have HNk := Lib.hid (HN.out k hkn)
      have HTk := Lib.hid (HT.out k hkn)
      have HNlk := Lib.hid (HNl.out k hkn)
      have HTlk := Lib.hid (HTl.out k hkn)
      have HRk := Lib.hid (HRl.out k (by omega))
      have HNX : Hid (∀ P, (P = 123 :: (rend N T k ++ if k = 0 then [] else [44])) → P ++ item (N k) (T k) = 123 :: rend N T (k + 1)) := Lib.hid (fun P hP => by rw [hP, rend]; simp)
      generalize ha : N k = a at *
      generalize ht : T k = t at *
      clear ha ht
      have hrl : (rend N T k).length ≤ 3000 := by have := HRk.out; omega
      obtain ⟨W, hW⟩ : ∃ W : World, W = wr.alloc (.cells (fld a t).toArray 68) := ⟨_, rfl⟩
      have HW := Lib.hid hW
      have HRf : Hid (Row W wr.heap.size 68 (fld a t)) := Lib.hid (by rw [hW]; exact Row.alloc wr _ _)
      have HBW : Hid (Below w1.heap.size w1 W) := Lib.hid (by rw [hW]; exact hB.out.alloc hB.out.size _)
      have HRs := Lib.hid (HR1.out.below HBW.out HR1.out.lt)
      clear hW
      have hnl : a.length ≤ 100 := HNlk.out
      have htl : t.length ≤ 100 := HTlk.out
      have s1 := run_cat (P := Tryz.prog) (34 :: (a ++ [34])) [] (by simp; omega) (by simp)
      rw [List.append_nil] at s1
      have s2 : ∀ wx, (Op.stringOp .add (strOfNums (34 :: (a ++ [34]))) (⟨#[58]⟩ : ByteArray)).run Tryz.prog wx = .ok (.string (strOfNums (34 :: (a ++ [34]) ++ [58]))) wx := fun wx => run_cat (P := Tryz.prog) (34 :: (a ++ [34])) [58] (by simp; omega) (by simp) wx
      have s3 := run_cat (P := Tryz.prog) (34 :: (a ++ [34]) ++ [58]) [] (by simp; omega) (by simp)
      rw [List.append_nil] at s3
      have s4 := run_cat (P := Tryz.prog) (34 :: (a ++ [34]) ++ [58]) (34 :: (t ++ [34])) (by simp; omega) (by simp; omega)
      rw [show 34 :: (a ++ [34]) ++ [58] ++ 34 :: (t ++ [34]) = item a t by simp [item]] at s4
      have hil : (item a t).length ≤ 300 := by simp [item]; omega
      have s5 := run_cat (P := Tryz.prog) (item a t) [] (by omega) (by simp)
      rw [List.append_nil] at s5
      generalize 34 :: (a ++ [34]) ++ [58] = m at s2 s3 s4
      have s6 : ∀ Q : List Int, Q.length ≤ 5000 → ∀ wx, (Op.stringOp .add (strOfNums Q) (strOfNums (item a t))).run Tryz.prog wx = .ok (.string (strOfNums (Q ++ item a t))) wx := fun Q hQ => run_cat (P := Tryz.prog) Q (item a t) (by omega) (by omega)
      have HS6 := Lib.hid s6
      clear s6
      rcases Nat.eq_zero_or_pos k with hk0 | hk0
      · subst hk0
        have hkk : Hid ((123 :: rend N T 0) = 123 :: (rend N T 0 ++ if (0 : Nat) = 0 then [] else [44])) := Lib.hid (by simp [rend])
        have hql : (123 :: rend N T 0).length ≤ 5000 := by simp [rend]
        generalize (123 :: rend N T 0) = Q at *
        have s6 := HS6.out Q hql
        have HNQ := Lib.hid (HNX.out Q hkk.out)
        have e0 : ((0 : Nat) : Int) = 0 := rfl
        have e7 : 0 * 7 = 0 := rfl
        go_wp2_with fail
        rw [show wr.alloc (.cells #[.string (strOfNums a), .int .u8 3, .bool false, .bool false, .int .u64 0, .string (strOfNums t), .slice none 0 0] 68) = W from HW.out.symm]
        have hB0 := hB
        clear hB c0 c1 c2 c3 c4 c5 c6 HW
        have hB := Lib.hid (below_drewd (Below.refl W.heap.size W))
        go_region_held3 (fun w' => w'.cell? ⟨w.heap.size, 0, none⟩ = some (.int .u64 0) ∧ w'.cell? ⟨wr.heap.size, 0, none⟩ = some (.string (strOfNums a)) ∧ w'.cell? ⟨wr.heap.size, 1, none⟩ = some (.int .u8 3) ∧ w'.cell? ⟨wr.heap.size, 2, none⟩ = some (.bool false) ∧ w'.cell? ⟨wr.heap.size, 3, none⟩ = some (.bool false) ∧ w'.cell? ⟨wr.heap.size, 4, none⟩ = some (.int .u64 0) ∧ w'.cell? ⟨wr.heap.size, 5, none⟩ = some (.string (strOfNums t)) ∧ w'.cell? ⟨wr.heap.size, 6, none⟩ = some (.slice none 0 0))
          (exact cellsHd HRs.out HRf.out hB.out)
          (first
            | (go_at_call 49; refine (blankC _ _ (cellsHd HRs.out HRf.out hB.out).1).mono ?_; rintro e wn ⟨rfl, rfl⟩)
            | (go_at_call 51; refine (valueC _ _ _ _ _ _ _ _ (cellsHd HRs.out HRf.out hB.out).1 HTk.out (by omega)).mono ?_; rintro e wn ⟨rfl, bn⟩; have hB := Lib.hid (hB.out.trans (bn.mono hB.out.size)); clear bn)
            | (go_at_call 50; refine (textC _ _ _ (cellsHd HRs.out HRf.out hB.out).1 HNk.out (by omega)).mono ?_; rintro e wn ⟨rfl, bn⟩; have hB := Lib.hid (hB.out.trans (bn.mono hB.out.size)); clear bn))
        go_wp2_with fail
        exact ⟨⟨1, by omega, by rw [HNQ.out], rfl, Lib.hid (HBW.out.trans (hB.out.mono HBW.out.size))⟩, by simp [intOf]; omega⟩
      · have hkk : Hid ((123 :: rend N T k) ++ [44] = 123 :: (rend N T k ++ if k = 0 then [] else [44])) := Lib.hid (by rw [if_neg (by omega)]; rfl)
        have hql : ((123 :: rend N T k) ++ [44]).length ≤ 5000 := by simp; omega
        have b1 : ∀ wx, (Op.stringOp .add (⟨#[44]⟩ : ByteArray) (strOfNums [])).run Tryz.prog wx = .ok (.string (strOfNums [44])) wx := fun wx => run_cat (P := Tryz.prog) [44] [] (by simp) (by simp) wx
        have b2 := run_cat (P := Tryz.prog) (123 :: rend N T k) [44] (by simp; omega) (by simp)
        generalize (123 :: rend N T k) ++ [44] = Q at hkk hql b2
        generalize (123 :: rend N T k) = Q0 at b2 ⊢
        have s6 := HS6.out Q hql
        have HNQ := Lib.hid (HNX.out Q hkk.out)
        have hk0I : (0 : Int) < k := by omega
        have HBK := Lib.hid (blankC w.heap.size W (by rw [HRs.out.cell]; rfl))
        go_wp2_with fail
        rw [show wr.alloc (.cells #[.string (strOfNums a), .int .u8 3, .bool false, .bool false, .int .u64 0, .string (strOfNums t), .slice none 0 0] 68) = W from HW.out.symm]
        go_at_call 49
        refine HBK.out.mono ?_
        rintro e W ⟨rfl, rfl⟩
        clear HBK
        go_wp2_with fail
        have hB0 := hB
        clear hB c0 c1 c2 c3 c4 c5 c6 HW
        have hB := Lib.hid (below_drewd (Below.refl W.heap.size W))
        go_region_held3 (fun w' => w'.cell? ⟨w.heap.size, 0, none⟩ = some (.int .u64 0) ∧ w'.cell? ⟨wr.heap.size, 0, none⟩ = some (.string (strOfNums a)) ∧ w'.cell? ⟨wr.heap.size, 1, none⟩ = some (.int .u8 3) ∧ w'.cell? ⟨wr.heap.size, 2, none⟩ = some (.bool false) ∧ w'.cell? ⟨wr.heap.size, 3, none⟩ = some (.bool false) ∧ w'.cell? ⟨wr.heap.size, 4, none⟩ = some (.int .u64 0) ∧ w'.cell? ⟨wr.heap.size, 5, none⟩ = some (.string (strOfNums t)) ∧ w'.cell? ⟨wr.heap.size, 6, none⟩ = some (.slice none 0 0))
          (exact cellsHd HRs.out HRf.out hB.out)
          (first
            | (go_at_call 49; refine (blankC _ _ (cellsHd HRs.out HRf.out hB.out).1).mono ?_; rintro e wn ⟨rfl, rfl⟩)
            | (go_at_call 51; refine (valueC _ _ _ _ _ _ _ _ (cellsHd HRs.out HRf.out hB.out).1 HTk.out (by omega)).mono ?_; rintro e wn ⟨rfl, bn⟩; have hB := Lib.hid (hB.out.trans (bn.mono hB.out.size)); clear bn)
            | (go_at_call 50; refine (textC _ _ _ (cellsHd HRs.out HRf.out hB.out).1 HNk.out (by omega)).mono ?_; rintro e wn ⟨rfl, bn⟩; have hB := Lib.hid (hB.out.trans (bn.mono hB.out.size)); clear bn))
        go_wp2_with fail
        exact ⟨⟨k + 1, by omega, by rw [HNQ.out], by rw [show ((k + 1 : Nat) : Int) = (k : Int) + 1 by omega], Lib.hid (HBW.out.trans (hB.out.mono HBW.out.size))⟩, by simp [intOf]; omega⟩
    · obtain rfl : k = n := by omega
      have hrl : (rend N T k).length ≤ 3000 := by have := HRl.out k (by omega); omega
      have b1 : ∀ wx, (Op.stringOp .add (strOfNums (123 :: rend N T k)) (⟨#[125]⟩ : ByteArray)).run Tryz.prog wx = .ok (.string (strOfNums (123 :: (rend N T k ++ [125])))) wx := fun wx => run_cat (P := Tryz.prog) (123 :: rend N T k) [125] (by simp; omega) (by simp) wx
      have b2 := run_cat (P := Tryz.prog) (123 :: (rend N T k ++ [125])) [] (by simp; omega) (by simp)
      rw [List.append_nil] at b2
      have HBK := Lib.hid (blankC w.heap.size wr (by rw [(HR1.out.below hB.out HR1.out.lt).cell]; rfl))
      go_wp2_with fail
      go_at_call 49
      refine HBK.out.mono ?_
      rintro e wr ⟨rfl, rfl⟩
      clear HBK
      go_wp2_with fail
      go_ret
      exact ⟨rfl, HB1.out.trans (hB.out.mono HB1.out.size)⟩
end Go.Proofs.YtaemdppihpefnaaGreatDoor

/- laws.tokenHead, with no key's name and no style. -/
namespace Go.Proofs.YtaemdppihpefnaaGreatDoor
open Go.RowKit
set_option linter.unusedVariables false

def sAlg : List Int := [97, 108, 103]
def sTyp : List Int := [116, 121, 112]
def sJwt : List Int := [74, 87, 84]
/-- The header of an algorithm's name. -/
def headB (xs : List Int) : List Int := 123 :: (item sAlg xs ++ ([44] ++ item sTyp sJwt) ++ [125])
theorem headB_byt {xs : List Int} (hx : Byt xs) : Byt (headB xs) := by
  intro x h
  simp only [headB, item, sAlg, sTyp, sJwt, List.mem_cons, List.mem_append, List.not_mem_nil, or_false] at h
  rcases h with h | h
  · omega
  · have : x ∈ xs → 0 ≤ x ∧ x < 256 := hx x
    by_cases hm : x ∈ xs
    · exact this hm
    · simp only [hm, false_or] at h
      omega
theorem headB_len (xs : List Int) : (headB xs).length = xs.length + 22 := by simp [headB, item, sAlg, sTyp, sJwt]

theorem eAlg : strOfNums sAlg = (⟨#[97, 108, 103]⟩ : ByteArray) := by kernel_rfl
theorem eTyp : strOfNums sTyp = (⟨#[116, 121, 112]⟩ : ByteArray) := by kernel_rfl
theorem eJwt : strOfNums sJwt = (⟨#[74, 87, 84]⟩ : ByteArray) := by kernel_rfl
theorem two_flds (xs : List Int) : fld sAlg xs ++ fld sTyp sJwt = [.string (⟨#[97, 108, 103]⟩ : ByteArray), .int .u8 3, .bool false, .bool false, .int .u64 0, .string (strOfNums xs), .slice none 0 0, .string (⟨#[116, 121, 112]⟩ : ByteArray), .int .u8 3, .bool false, .bool false, .int .u64 0, .string (⟨#[74, 87, 84]⟩ : ByteArray), .slice none 0 0] := by
  simp only [fld, eAlg, eTyp, eJwt, List.cons_append, List.nil_append]

set_option maxRecDepth 100000 in
set_option maxHeartbeats 2000000 in
theorem tokenHead0 (xs : List Int) (hx : Plain xs) (hl : xs.length ≤ 50) (w : World) :
    Calls Tryz.prog 10 #[.string (strOfNums xs), .string (⟨#[]⟩ : ByteArray), .int .u64 0] w fun e w' => (∃ v, e = .returned v ∧ Bs w' v (headB xs)) ∧ Below w.heap.size w w' := by
  obtain ⟨w1, hw1⟩ : ∃ w1 : World, w1 = w.alloc (.cells (fld sAlg xs ++ fld sTyp sJwt).toArray 68) := ⟨_, rfl⟩
  have hr : Row w1 w.heap.size 68 (fld sAlg xs ++ fld sTyp sJwt) := by rw [hw1]; exact Row.alloc w _ _
  have hb : Below w.heap.size w w1 := by rw [hw1]; exact (Below.refl _ _).alloc (Nat.le_refl _) _
  have HB := Lib.hid hb
  have HT := Lib.hid (headText w.heap.size 2 2 (fun i => if i = 0 then sAlg else sTyp) (fun i => if i = 0 then xs else sJwt) w1 hr.lt
    (fun i hi => by
      have : i = 0 ∨ i = 1 := by omega
      rcases this with rfl | rfl
      · intro j v hj
        have hj7 : j < 7 := by have := (List.getElem?_eq_some_iff.1 hj).1; simpa [fld] using this
        rw [hr.cell, show 7 * 0 + j = j by omega, List.getElem?_append_left (by simpa [fld] using hj7)]
        exact hj
      · intro j v hj
        rw [hr.cell, List.getElem?_append_right (by simp [fld]), show 7 * 1 + j - (fld sAlg xs).length = j by simp [fld]]
        exact hj)
    (by omega) (by omega)
    (fun i hi => by split <;> (intro x hx; simp [sAlg, sTyp] at hx; omega))
    (fun i hi => by split; exact hx; (intro x hx; simp [sJwt] at hx; omega))
    (fun i hi => by split <;> simp [sAlg, sTyp]) (fun i hi => by split; omega; simp [sJwt]))
  rw [show (123 :: (rend (fun i => if i = 0 then sAlg else sTyp) (fun i => if i = 0 then xs else sJwt) 2 ++ [125])) = headB xs by simp [rend, headB]] at HT
  have HW := Lib.hid hw1
  have HX := Lib.hid (headB_byt hx.byt)
  clear hr hb hw1
  go_enter Tryz.func10, Tryz.ntmps10
  go_wp2_with fail
  rw [show w.alloc (.cells #[.string (⟨#[97, 108, 103]⟩ : ByteArray), .int .u8 3, .bool false, .bool false, .int .u64 0, .string (strOfNums xs), .slice none 0 0, .string (⟨#[116, 121, 112]⟩ : ByteArray), .int .u8 3, .bool false, .bool false, .int .u64 0, .string (⟨#[74, 87, 84]⟩ : ByteArray), .slice none 0 0] 68) = w1 by rw [HW.out, two_flds]]
  go_at_call 28
  refine HT.out.mono ?_
  rintro e w2 ⟨rfl, hb2⟩
  have HB2 := Lib.hid (HB.out.trans (hb2.mono HB.out.size))
  obtain ⟨v, w3, hrun, hv, hb3⟩ := run_bytesS (P := Tryz.prog) 9 22 5 Tryz.underlying9 Tryz.underlying22 Tryz.underlying5 (headB xs) HX.out w2
  have HV := Lib.hid hv
  have HB3 := Lib.hid (HB2.out.trans (hb3.mono HB2.out.size))
  clear hb2 hv hb3
  go_wp2_with fail
  go_ret
  exact ⟨⟨v, rfl, HV.out⟩, HB3.out⟩
end Go.Proofs.YtaemdppihpefnaaGreatDoor
