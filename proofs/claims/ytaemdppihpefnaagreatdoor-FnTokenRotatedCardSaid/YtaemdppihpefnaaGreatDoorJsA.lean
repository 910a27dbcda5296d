/- fastjson's skipWS, parseRawKey, parseRawString, on texts that bear no sign to be escaped; strings.IndexByte. -/
import Derived.Test.YtaemdppihpefnaaGreatDoorHeadKit
import Derived.Test.YtaemdppihpefnaaGreatDoorHashKit
import Derived.Test.YtaemdppihpefnaaGreatDoorBsB
import Derived.Lib.Bytealg
import Derived.Lib.AppendZeros
import Derived.Deep.QuietTactic
import Derived.BigQuiet
import Derived.StillTailTactics
import Derived.LoopTactic
import Derived.Deep.LoopGhost
import Derived.Outline
import Derived.IntWalk
namespace Go.Proofs.YtaemdppihpefnaaGreatDoor
open Go.RowKit
set_option linter.unusedVariables false

theorem idx_at : ∀ (a : List Int) (c : Int) (b : List Int), Byt a → (0 ≤ c ∧ c < 256) → c ∉ a → Lib.indexByte ((a ++ c :: b).map fun n => UInt8.ofNat n.toNat) c.toNat.toUInt8 = (a.length : Int)
  | [], c, b, _, _, _ => by simp [Lib.indexByte]
  | x :: a, c, b, hB, hc, hn => by
    have ih := idx_at a c b (fun y hy => hB y (by simp [hy])) hc (fun h => hn (by simp [h]))
    have hx := hB x (by simp)
    have hne : (UInt8.ofNat x.toNat == c.toNat.toUInt8) = false := by
      rw [beq_eq_false_iff_ne]
      intro h
      have := u8_inj hx hc h
      exact hn (by simp [this])
    simp only [List.cons_append, List.map_cons, Lib.indexByte]
    rw [ih]
    simp [hne]
theorem idx_no : ∀ (a : List Int) (c : Int), Byt a → (0 ≤ c ∧ c < 256) → c ∉ a → Lib.indexByte (a.map fun n => UInt8.ofNat n.toNat) c.toNat.toUInt8 = -1
  | [], c, _, _, _ => by simp [Lib.indexByte]
  | x :: a, c, hB, hc, hn => by
    have ih := idx_no a c (fun y hy => hB y (by simp [hy])) hc (fun h => hn (by simp [h]))
    have hx := hB x (by simp)
    have hne : (UInt8.ofNat x.toNat == c.toNat.toUInt8) = false := by
      rw [beq_eq_false_iff_ne]
      intro h
      have := u8_inj hx hc h
      exact hn (by simp [this])
    simp only [List.map_cons, Lib.indexByte]
    rw [ih]
    simp [hne]
theorem cIdx (s : List Int) (c k : Int) (h : Lib.indexByte (s.map fun n => UInt8.ofNat n.toNat) c.toNat.toUInt8 = k) (w : World) : (callFunc 171 #[.string (strOfNums s), .int .u8 c]).run Tryz.prog w = .ok (.value (.int .i64 k)) w := by
  rw [run_callFunc_extern (e := Extern.BytealgIndexByte.indexByte) Tryz.func171 (by kernel_rfl) (by kernel_rfl) (by kernel_rfl) (by kernel_rfl), Lib.run_indexByteString]
  have : (strOfNums s).data.toList = s.map fun n => UInt8.ofNat n.toNat := rfl
  rw [this, h]
  rfl

set_option maxRecDepth 100000 in
set_option maxHeartbeats 1000000 in
theorem indexB (s : List Int) (c k : Int) (h : Lib.indexByte (s.map fun n => UInt8.ofNat n.toNat) c.toNat.toUInt8 = k) (w : World) : Calls Tryz.prog 125 #[.string (strOfNums s), .int .u8 c] w fun e w' => e = .returned (.int .i64 k) ∧ w' = w := by
  have G : Hid (Calls Tryz.prog 149 #[.string (strOfNums s), .int .u8 c] w fun e w' => e = .returned (.int .i64 k) ∧ w' = w) := Lib.hid (by
    have hx := cIdx s c k h
    clear h
    go_enter Tryz.func149, Tryz.ntmps149
    go_wp2_with fail
    go_ret
    exact ⟨rfl, rfl⟩)
  clear h
  go_enter Tryz.func125, Tryz.ntmps125
  go_wp2_with fail
  go_at_call 149
  refine G.out.mono ?_
  rintro e w ⟨rfl, rfl⟩
  go_wp2_with fail
  go_ret
  exact ⟨rfl, rfl⟩

set_option maxRecDepth 100000 in
set_option maxHeartbeats 1000000 in
theorem skipE (w : World) : Calls Tryz.prog 132 #[.string (strOfNums [])] w fun e w' => e = .returned (.string (strOfNums [])) ∧ w' = w := by
  have hs := S_size []
  go_enter Tryz.func132, Tryz.ntmps132
  go_wp2_with fail
  go_ret
  exact ⟨rfl, rfl⟩

set_option maxRecDepth 100000 in
set_option maxHeartbeats 1000000 in
theorem skipC (x : Int) (s : List Int) (hB : Byt (x :: s)) (hx : 32 < x) (w : World) : Calls Tryz.prog 132 #[.string (strOfNums (x :: s))] w fun e w' => e = .returned (.string (strOfNums (x :: s))) ∧ w' = w := by
  have hs := S_size (x :: s)
  have h0 := run_sidx (P := Tryz.prog) 9 Tryz.underlying9 (x :: s) hB .i64 0 0 rfl (by simp)
  have e0 : (x :: s).getD 0 0 = x := rfl
  rw [e0] at h0
  have hl : ¬ ((x :: s).length : Int) = 0 := by simp; omega
  have hl2 : (((x :: s).length : Int) == 0) = false := by rw [beq_eq_false_iff_ne]; exact hl
  generalize (x :: s).length = n at hs hl hl2
  generalize strOfNums (x :: s) = S at hs h0 ⊢
  clear hB e0
  go_enter Tryz.func132, Tryz.ntmps132
  go_wp2_with fail
  go_ret
  exact ⟨rfl, rfl⟩

/-- No quotation mark, no escape. -/
def Bare (a : List Int) : Prop := ∀ x ∈ a, 0 ≤ x ∧ x < 256 ∧ x ≠ 34 ∧ x ≠ 92
theorem Bare.byt {a : List Int} (h : Bare a) : Byt a := fun x hx => ⟨(h x hx).1, (h x hx).2.1⟩
theorem bare_mid {a b : List Int} (ha : Bare a) (hb : Byt b) : Byt (a ++ 34 :: b) := by
  intro x hx
  rcases List.mem_append.1 hx with h | h
  · exact ha.byt x h
  · rcases List.mem_cons.1 h with h | h
    · omega
    · exact hb x h

set_option maxRecDepth 100000 in
set_option maxHeartbeats 1000000 in
theorem rawKey (a b : List Int) (ha : Bare a) (hb : Byt b) (hl : (a ++ 34 :: b).length ≤ 100000) (w : World) :
    Calls Tryz.prog 178 #[.string (strOfNums (a ++ 34 :: b))] w fun e w' => e = .returned (.tuple #[.string (strOfNums a), .string (strOfNums b), .nilIface]) ∧ ∃ n, w' = w.drewN n := by
  have hsz := S_size (a ++ 34 :: b)
  have hI := Lib.hid (fun (i : Nat) (hi : i < (a ++ 34 :: b).length) => run_sidx (P := Tryz.prog) 9 Tryz.underlying9 (a ++ 34 :: b) (bare_mid ha hb) .i64 i i rfl hi)
  have hT := run_sto (P := Tryz.prog) 9 Tryz.underlying9 (a ++ 34 :: b) .i64 a.length a.length rfl (by simp)
  have hF := run_sfrom (P := Tryz.prog) 9 Tryz.underlying9 (a ++ 34 :: b) .i64 (a.length + 1) ((a.length : Int) + 1) (by omega) (by simp)
  rw [List.take_left' rfl] at hT
  rw [show (a ++ 34 :: b).drop (a.length + 1) = b by rw [List.drop_append]; simp] at hF
  have HA : Hid (∀ i, i < a.length → (a ++ 34 :: b).getD i 0 ≠ 34 ∧ (a ++ 34 :: b).getD i 0 ≠ 92) := Lib.hid (fun i hi => by
    have e : (a ++ 34 :: b).getD i 0 = a.getD i 0 := by simp [List.getD, List.getElem?_append_left hi]
    rw [e]
    have := ha (a.getD i 0) (by simp [List.getD, hi])
    exact this.2.2)
  have HQ : Hid ((a ++ 34 :: b).getD a.length 0 = 34) := Lib.hid (by simp [List.getD])
  have hal : a.length < (a ++ 34 :: b).length := by simp
  generalize (a ++ 34 :: b).length = n at *
  have HG : Hid (∀ i : Nat, (a ++ 34 :: b).getD i 0 = (a ++ 34 :: b).getD i 0) := Lib.hid (fun _ => rfl)
  obtain ⟨G, hG⟩ : ∃ G : Nat → Int, G = fun i => (a ++ 34 :: b).getD i 0 := ⟨_, rfl⟩
  have HI : Hid (∀ i : Nat, i < n → ∀ w, (Instr.index 9 (.string (strOfNums (a ++ 34 :: b))) (.int .i64 i)).run Tryz.prog w = .ok (.int .u8 (G i)) w) := Lib.hid (by rw [hG]; exact hI.out)
  have HA : Hid (∀ i, i < a.length → G i ≠ 34 ∧ G i ≠ 92) := Lib.hid (by rw [hG]; exact HA.out)
  have HQ : Hid (G a.length = 34) := Lib.hid (by rw [hG]; exact HQ.out)
  clear hG hI HG ha hb
  generalize strOfNums (a ++ 34 :: b) = S at *
  generalize a.length = m at *
  go_enter Tryz.func178, Tryz.ntmps178
  go_wp2_with fail
  go_loopw [8] (fun i wr => ∃ k : Nat, k ≤ m ∧ i = .int .i64 k ∧ w = wr) (fun i _ => n - (intOf i).toNat)
  case atStart => exact ⟨0, by omega, rfl, rfl⟩
  case round =>
    obtain ⟨k, hk, rfl, rfl⟩ := hrel
    have hkn : k < n := by omega
    have hkI : (k : Int) < n := by omega
    have hix := HI.out k hkn
    have hkw : IntKind.i64.wrap ((k : Int) + 1) = (k : Int) + 1 := IntWalk.i64_in _ (by omega)
    by_cases hkm : k < m
    · obtain ⟨g1, g2⟩ := HA.out k hkm
      generalize G k = y at hix g1 g2
      have y1 : (y == 34) = false := by rw [beq_eq_false_iff_ne]; omega
      have y2 : (y == 92) = false := by rw [beq_eq_false_iff_ne]; omega
      go_wp2_with fail
      refine ⟨⟨k + 1, by omega, by rw [show ((k + 1 : Nat) : Int) = (k : Int) + 1 by omega], ?_⟩, by simp [intOf]; omega⟩
      first | trivial | rfl
    · obtain rfl : k = m := by omega
      rw [HQ.out] at hix
      go_wp2_with fail
      go_quiet (fail)
      go_wp2_with fail
      go_ret3
      exact ⟨rfl, _, rfl⟩

set_option maxRecDepth 100000 in
set_option maxHeartbeats 1000000 in
theorem rawString (a b : List Int) (ha : Bare a) (hb : Byt b) (hl : (a ++ 34 :: b).length ≤ 100000) (hpos : 0 < a.length) (w : World) :
    Calls Tryz.prog 160 #[.string (strOfNums (a ++ 34 :: b))] w fun e w' => e = .returned (.tuple #[.string (strOfNums a), .string (strOfNums b), .nilIface]) ∧ ∃ n, w' = w.drewN n := by
  have hsz := S_size (a ++ 34 :: b)
  have hI := run_sidx (P := Tryz.prog) 9 Tryz.underlying9 (a ++ 34 :: b) (bare_mid ha hb) .i64 (a.length - 1) ((a.length : Int) - 1) (by omega) (by simp; omega)
  have hT := run_sto (P := Tryz.prog) 9 Tryz.underlying9 (a ++ 34 :: b) .i64 a.length a.length rfl (by simp)
  have hF := run_sfrom (P := Tryz.prog) 9 Tryz.underlying9 (a ++ 34 :: b) .i64 (a.length + 1) ((a.length : Int) + 1) (by omega) (by simp)
  rw [List.take_left' rfl] at hT
  rw [show (a ++ 34 :: b).drop (a.length + 1) = b by rw [List.drop_append]; simp] at hF
  have hy : (a ++ 34 :: b).getD (a.length - 1) 0 ≠ 92 := by
    have e : (a ++ 34 :: b).getD (a.length - 1) 0 = a.getD (a.length - 1) 0 := by simp [List.getD, List.getElem?_append_left (show a.length - 1 < a.length by omega)]
    rw [e]
    exact (ha _ (by simp [List.getD, show a.length - 1 < a.length by omega])).2.2.2
  have HX := Lib.hid (indexB (a ++ 34 :: b) 34 a.length (idx_at a 34 b ha.byt (by omega) (fun h => (ha 34 h).2.2.1 rfl)) w)
  have hal : a.length < (a ++ 34 :: b).length := by simp
  generalize (a ++ 34 :: b).length = n at *
  generalize (a ++ 34 :: b).getD (a.length - 1) 0 = y at *
  clear ha hb
  generalize strOfNums (a ++ 34 :: b) = S at *
  generalize a.length = m at *
  have hm0 : ¬ (m : Int) = 0 := by omega
  have hm1 : ((m : Int) == 0) = false := by rw [beq_eq_false_iff_ne]; omega
  have hmn : ¬ ((m : Int) < 0) := by omega
  have y1 : (y == 92) = false := by rw [beq_eq_false_iff_ne]; exact hy
  have hw1 : IntKind.i64.wrap ((m : Int) - 1) = (m : Int) - 1 := IntWalk.i64_in _ (by omega)
  have hw2 : IntKind.i64.wrap ((m : Int) + 1) = (m : Int) + 1 := IntWalk.i64_in _ (by omega)
  go_enter Tryz.func160, Tryz.ntmps160
  go_wp2_with fail
  go_at_call 125
  refine HX.out.mono ?_
  rintro e w ⟨rfl, rfl⟩
  clear HX
  go_wp2_with fail
  go_quiet (fail)
  go_wp2_with fail
  go_ret3
  exact ⟨rfl, _, rfl⟩
end Go.Proofs.YtaemdppihpefnaaGreatDoor

/- fastjson's cache.getValue and Object.getKV: one more element, with room or without. (Printed by mkjsgrow.py.) -/
namespace Go.Proofs.YtaemdppihpefnaaGreatDoor
open Go.RowKit
set_option linter.unusedVariables false

/-- w' is w, but for cell o of block b, which holds u, and for new blocks. -/
structure Fr (b o : Nat) (u : Value) (w w' : World) : Prop where
  but : But b w w'
  lt : b < w.heap.size
  cell : ∀ j, j ≠ o → w'.cell? ⟨b, j, none⟩ = w.cell? ⟨b, j, none⟩
  fz : ∀ j, w'.frozen? ⟨b, j, none⟩ = w.frozen? ⟨b, j, none⟩
  row : ∀ T cur, Row w b T cur → Row w' b T (cur.set o u)

theorem cell_set_other (w : World) (b o j : Nat) (u : Value) (h : j ≠ o) : (w.setCell ⟨b, o, none⟩ u).cell? ⟨b, j, none⟩ = w.cell? ⟨b, j, none⟩ := by
  simp only [World.setCell, World.cell?, Array.getElem?_modify, if_true]
  cases w.heap[b]? with
  | none => rfl
  | some ob =>
    cases ob <;> simp
    rename_i cs t fr
    rw [Array.getElem?_setIfInBounds_ne (Ne.symm h)]

theorem cell_set_same (w : World) (b o : Nat) (u x : Value) (h : w.cell? ⟨b, o, none⟩ = some x) : (w.setCell ⟨b, o, none⟩ u).cell? ⟨b, o, none⟩ = some u := by
  simp only [World.setCell, World.cell?, Array.getElem?_modify, if_true] at h ⊢
  cases hb : w.heap[b]? with
  | none => rw [hb] at h; simp at h
  | some ob =>
    rw [hb] at h
    cases ob <;> simp at h ⊢
    have := (Array.getElem?_eq_some_iff.1 h).1
    simp [this]

theorem frozen_set (w : World) (b o j : Nat) (u : Value) : (w.setCell ⟨b, o, none⟩ u).frozen? ⟨b, j, none⟩ = w.frozen? ⟨b, j, none⟩ := by
  simp only [World.setCell, World.frozen?, Array.getElem?_modify, if_true]
  cases w.heap[b]? with
  | none => rfl
  | some ob => cases ob <;> rfl

theorem Fr.made {b o : Nat} {u : Value} {w w1 : World} (h : Below w.heap.size w w1) (hb : b < w.heap.size) : Fr b o u w (w1.setCell ⟨b, o, none⟩ u) where
  but := (But.of_below h).trans (But.of_only (Only.set _ _ _ _))
  lt := hb
  cell := fun j hj => by rw [cell_set_other _ _ _ _ _ hj, h.cell (p := ⟨b, j, none⟩) hb]
  fz := fun j => by rw [frozen_set]; exact World.frozen?_of_block (h.block b hb)
  row := fun T cur hr => (hr.below h hb).set o u
theorem Fr.drewN {b o : Nat} {u : Value} {w w1 : World} (h : Fr b o u w w1) (n : Nat) : Fr b o u w (w1.drewN n) where
  but := h.but.trans ⟨rfl, rfl, rfl, Nat.le_refl _, fun _ _ _ => rfl⟩
  lt := h.lt
  cell := h.cell
  fz := h.fz
  row := h.row
theorem Fr.cells {b o : Nat} {u : Value} {w w' : World} (h : Fr b o u w w') (b' j : Nat) (hb : b' < w.heap.size) (hne : ¬ (b' = b ∧ j = o)) : w'.cell? ⟨b', j, none⟩ = w.cell? ⟨b', j, none⟩ := by
  by_cases hbb : b' = b
  · subst hbb; exact h.cell j (fun hj => hne ⟨rfl, hj⟩)
  · exact h.but.cellAt hb hbb
theorem Fr.cellv {b o : Nat} {u : Value} {w w' : World} (h : Fr b o u w w') {b' j : Nat} {x : Value} (hc : w.cell? ⟨b', j, none⟩ = some x) (hne : ¬ (b' = b ∧ j = o)) : w'.cell? ⟨b', j, none⟩ = some x := by
  rw [h.cells b' j (World.block_lt_of_cell? w _ hc) hne]; exact hc
theorem Fr.below {b o : Nat} {u : Value} {w w' : World} {B : Nat} (h : Fr b o u w w') (hB : B ≤ b) : Below B w w' := h.but.below hB (Nat.le_of_lt h.lt)
/-- A row in another block stays. -/
theorem own_fr {b o : Nat} {u : Value} {w w' : World} {B : Nat} {T : TypeId} {sz : Nat} {v : Value} {n : Nat} {xs : List Value} (h : w.ownsRow B T sz v n xs) (hf : Fr b o u w w') (hne : v.ownBlock ≠ some b) : w'.ownsRow B T sz v n xs :=
  h.kept (row := some b) ⟨hf.but.os, hf.but.tape, hf.but.output, hf.but.size, fun k hk hr => hf.but.block k hk (fun e => hr (by rw [e]))⟩ (Or.inr hne)
/-- A row in the block itself: one of its cells is another one. -/
theorem own_fr_in {o : Nat} {u : Value} {w w' : World} {B : Nat} {T : TypeId} {sz g cap : Nat} {n : Nat} {xs : List Value} (h : w.ownsRow B T sz (.slice (some ⟨g, 0, none⟩) n cap) n xs) (hf : Fr g o u w w') : w'.ownsRow B T sz (.slice (some ⟨g, 0, none⟩) n cap) n (xs.set o u) := by
  obtain ⟨h1, h2⟩ := h
  rcases h2 with ⟨h2, _⟩ | ⟨g', cap', cur, hv, hb, hg, hn, hm, hs, ht⟩
  · cases h2
  · simp only [Value.slice.injEq, Option.some.injEq, Addr.mk.injEq, and_true, true_and] at hv
    obtain ⟨rfl, rfl⟩ := hv
    have hr := hf.row T cur.toList (show Row w g T cur.toList from by unfold Row; simpa using hg)
    refine ⟨by rw [List.length_set]; exact h1, .inr ⟨g, cap, (cur.toList.set o u).toArray, rfl, hb, hr, hn, hm, by simp [hs], ?_⟩⟩
    rw [← ht]
    simp [List.take_set]

theorem own_len {w : World} {B : Nat} {T : TypeId} {sz : Nat} {v : Value} {n : Nat} {xs : List Value} (h : w.ownsRow B T sz v n xs) : xs.length = n * sz := h.1
theorem own_cell {w : World} {B : Nat} {T : TypeId} {sz g cap : Nat} {n : Nat} {xs : List Value} (h : w.ownsRow B T sz (.slice (some ⟨g, 0, none⟩) n cap) n xs) (j : Nat) (u : Value) (hj : xs[j]? = some u) : w.cell? ⟨g, j, none⟩ = some u := by
  have := h.cells (g := g) rfl j u hj
  rwa [Go.WideShapes.add_plain, Nat.zero_add] at this
theorem own_unfrozen {w : World} {B : Nat} {T : TypeId} {sz g cap : Nat} {n : Nat} {xs : List Value} (h : w.ownsRow B T sz (.slice (some ⟨g, 0, none⟩) n cap) n xs) (j : Nat) : w.frozen? ⟨g, j, none⟩ = false := by
  rcases h.2 with ⟨h2, _⟩ | ⟨g', cap', cur, hv, hb, hg, hn, hm, hs, ht⟩
  · cases h2
  · simp only [Value.slice.injEq, Option.some.injEq, Addr.mk.injEq, and_true, true_and] at hv
    obtain ⟨rfl, rfl⟩ := hv
    simp [World.frozen?, hg]
/-- One more of what is there. -/
theorem own_more {w : World} {B : Nat} {T : TypeId} {sz g cap : Nat} {n : Nat} {xs : List Value} (h : w.ownsRow B T sz (.slice (some ⟨g, 0, none⟩) n cap) n xs) (hn : n < cap) : ∃ ys, ys.length = sz ∧ w.ownsRow B T sz (.slice (some ⟨g, 0, none⟩) (n + 1) cap) (n + 1) (xs ++ ys) := by
  obtain ⟨h1, h2⟩ := h
  rcases h2 with ⟨h2, _⟩ | ⟨g', cap', cur, hv, hb, hg, hn', hm, hs, ht⟩
  · cases h2
  · simp only [Value.slice.injEq, Option.some.injEq, Addr.mk.injEq, and_true, true_and] at hv
    obtain ⟨rfl, rfl⟩ := hv
    have hle : (n + 1) * sz ≤ cap * sz := Nat.mul_le_mul_right _ hn
    have hms : (n + 1) * sz = n * sz + sz := Nat.succ_mul n sz
    refine ⟨(cur.toList.drop (n * sz)).take sz, by simp; omega, by rw [List.length_append, h1]; simp; omega, .inr ⟨g, cap, cur, rfl, hb, hg, hn, hm, hs, ?_⟩⟩
    rw [← ht, hms, List.take_add]
theorem own_cap {w : World} {B : Nat} {T : TypeId} {sz g cap : Nat} {n : Nat} {xs : List Value} (h : w.ownsRow B T sz (.slice (some ⟨g, 0, none⟩) n cap) n xs) : n ≤ cap ∧ cap ≤ maxLen ∧ B ≤ g ∧ g < w.heap.size := by
  obtain ⟨h1, h2⟩ := h
  rcases h2 with ⟨h2, _⟩ | ⟨g', cap', cur, hv, hb, hg, hn', hm, hs, ht⟩
  · cases h2
  · simp only [Value.slice.injEq, Option.some.injEq, Addr.mk.injEq, and_true, true_and] at hv
    obtain ⟨rfl, rfl⟩ := hv
    exact ⟨hn', hm, hb, (Array.getElem?_eq_some_iff.1 hg).1⟩

/-- 'append(s, x)', s nil or full: a new row. -/
theorem run_grow1 {P : Program} (w : World) (B sz : Nat) (t T : TypeId) (z : Value) (bytes : Nat) (ht : P.underlying t = some (.slice T)) (hi : (P.info? T).map (fun i => (i.zero, i.size, i.bytes)) = some (some z, sz, bytes)) (hzs : z.cells.size = sz) (hby : bytes ≤ 1000)
    (v : Value) (n : Nat) (xs : List Value) (ho : w.ownsRow B T sz v n xs) (hB : B ≤ w.heap.size) (hfull : ∀ g cap, v = .slice (some ⟨g, 0, none⟩) n cap → cap = n) (hn : n ≤ 1000)
    (a : Addr) (c : Nat) (news : List Value) (hl : news.length = sz) (hnews : ∀ j u, news[j]? = some u → w.cell? (a.add j) = some u) :
    ∃ cap' w', (∀ ty, (Builtin.append_ #[t, t] ty #[v, .slice (some a) 1 c]).run P w = .ok (.slice (some ⟨w.heap.size, 0, none⟩) (n + 1) cap') w') ∧ w'.ownsRow B T sz (.slice (some ⟨w.heap.size, 0, none⟩) (n + 1) cap') (n + 1) (xs ++ news) ∧ Below w.heap.size w w' ∧ n + 1 ≤ cap' := by
  obtain ⟨i, hi1, hz, hs1, hb1⟩ := info_parts hi
  have hbw : ∀ o : Obj, Below w.heap.size w (w.drew.alloc o) := fun o => (below_drewd (Below.refl w.heap.size w)).alloc (Nat.le_refl _) o
  have hxs := ho.1
  have hms : (n + 1) * sz = n * sz + sz := Nat.succ_mul n sz
  have hmul : (n + 1) * bytes ≤ 1001 * 1000 := Nat.mul_le_mul (by omega) hby
  rcases ho.2 with ⟨rfl, rfl⟩ | ⟨g, cap, cur, rfl, hb, hg, hnc, hm, hs, htk⟩
  · have hx0 : xs = [] := List.eq_nil_of_length_eq_zero (by rw [hxs, Nat.zero_mul])
    subst hx0
    have hge := grownCap_ge w 1 0 T
    have hle := grownCap_le_maxLen w 1 0 T (by unfold maxLen; omega)
    refine ⟨grownCap w 1 0 T, _, fun ty => run_append_nil (P := P) w t ty T i z ht hi1 hz a 1 c news (by rw [hs1, hl, Nat.one_mul]) hnews (by omega) (by omega) (by rw [hb1]; omega), ?_, hbw _, by omega⟩
    generalize grownCap w 1 0 T = G at hge hle
    refine ⟨by simp [hl], .inr ⟨w.heap.size, G, _, rfl, hB, heap_alloc_new w.drew _, hge, hle, ?_, ?_⟩⟩
    · simp only [Array.size_append, List.size_toArray, size_zeroCells, hl, hzs]
      have : G * sz = (G - 1) * sz + sz := by rw [← Nat.succ_mul]; congr 1; omega
      omega
    · simp [hl]
  · have hcn := hfull g cap rfl
    subst hcn
    have hge := grownCap_ge w (cap + 1) cap T
    have hle := grownCap_le_maxLen w (cap + 1) cap T (by unfold maxLen; omega)
    have hcells : ∀ j u, xs[j]? = some u → w.cell? ((⟨g, 0, none⟩ : Addr).add j) = some u := ho.cells rfl
    refine ⟨grownCap w (cap + 1) cap T, _, fun ty => run_append_grow (P := P) w t ty T i z ht hi1 hz ⟨g, 0, none⟩ cap cap xs (by rw [hs1]; exact hxs) hcells a 1 c news (by rw [hs1, hl, Nat.one_mul]) hnews (by omega) (by omega) (by rw [hb1]; exact growslice_fits (by omega) (by omega)), ?_, hbw _, by omega⟩
    generalize grownCap w (cap + 1) cap T = G at hge hle
    refine ⟨by rw [List.length_append, hxs, hl, hms], .inr ⟨w.heap.size, G, _, rfl, hB, heap_alloc_new w.drew _, hge, hle, ?_, ?_⟩⟩
    · simp only [Array.size_append, List.size_toArray, size_zeroCells, hl, hzs, hxs]
      have : G * sz = (G - (cap + 1)) * sz + (cap + 1) * sz := by rw [← Nat.add_mul]; congr 1; omega
      omega
    · simp only [Array.toList_append, List.append_assoc]
      rw [← List.append_assoc, List.take_left' (by rw [List.length_append, hxs, hl, hms])]

set_option maxRecDepth 100000 in
set_option maxHeartbeats 2000000 in
theorem getValueC (gp o B n : Nat) (v : Value) (xs : List Value) (w : World) (hc : w.cell? ⟨gp, o, none⟩ = some v) (hf : w.frozen? ⟨gp, o, none⟩ = false) (ho : w.ownsRow B 182 5 v n xs) (hne : v.ownBlock ≠ some gp) (hB : B ≤ w.heap.size) (hn : n ≤ 1000) :
    Calls Tryz.prog 161 #[.pointer (some ⟨gp, o, none⟩)] w fun e w' => ∃ g' cap' ys, e = .returned (.pointer (some ⟨g', n * 5, none⟩)) ∧ w'.ownsRow B 182 5 (.slice (some ⟨g', 0, none⟩) (n + 1) cap') (n + 1) (xs ++ ys) ∧ ys.length = 5 ∧ (v.ownBlock = some g' ∨ (w.heap.size ≤ g' ∧ ys = [.slice none 0 0, .bool false, .slice none 0 0, .string (⟨#[]⟩ : ByteArray), .int .i64 0])) ∧ g' ≠ gp ∧ w'.cell? ⟨gp, o, none⟩ = some (.slice (some ⟨g', 0, none⟩) (n + 1) cap') ∧ Fr gp o (.slice (some ⟨g', 0, none⟩) (n + 1) cap') w w' := by
  have hgl : gp < w.heap.size := World.block_lt_of_cell? w _ hc
  have hii : (Tryz.prog.info? 182).map (fun i => (i.zero, i.size, i.bytes)) = some (some (.agg #[.slice none 0 0, .bool false, .slice none 0 0, .string (⟨#[]⟩ : ByteArray), .int .i64 0]), 5, 80) := by kernel_rfl
  have hnw : IntKind.i64.wrap ((n : Int) + 1) = (n : Int) + 1 := IntWalk.i64_in _ (by omega)
  have hnw2 : IntKind.i64.wrap ((n : Int) + 1 - 1) = (n : Int) := by rw [show (n : Int) + 1 - 1 = n by omega]; exact IntWalk.i64_in _ (by omega)
  have hnn : (n : Int) < (n : Int) + 1 := by omega
  have hn0 : (0 : Int) ≤ n := by omega
  by_cases hroom : ∃ g cap, v = .slice (some ⟨g, 0, none⟩) n cap ∧ n < cap
  · obtain ⟨g, cap, rfl, hnc⟩ := hroom
    obtain ⟨ys, hys, hown⟩ := own_more ho hnc
    have HO := Lib.hid hown
    have HY := Lib.hid hys
    have hcm := (own_cap ho).2.1
    have hgg : g ≠ gp := fun h => hne (by simp [Value.ownBlock, h])
    have hncI : (n : Int) < cap := by omega
    have hncI2 : (n : Int) + 1 ≤ cap := by omega
    have hcm2 : (cap : Int) ≤ 9223372036854775807 := by unfold maxLen at hcm; omega
    have HNE := Lib.hid hgg
    have HGL := Lib.hid hgl
    clear ho hne hown hys hcm hgg
    go_enter Tryz.func161, Tryz.ntmps161
    go_wp2_with fail
    go_quiet (fail)
    have hc : (w.drewN nq).cell? ⟨gp, o, none⟩ = some (.slice (some ⟨g, 0, none⟩) n cap) := hc
    have hf : (w.drewN nq).frozen? ⟨gp, o, none⟩ = false := hf
    have HB1 : Hid (Below w.heap.size w (w.drewN nq)) := Lib.hid ⟨rfl, rfl, rfl, Nat.le_refl _, fun _ _ => rfl⟩
    have HO := Lib.hid (show (w.drewN nq).ownsRow B 182 5 (.slice (some ⟨g, 0, none⟩) (n + 1) cap) (n + 1) (xs ++ ys) from HO.out)
    generalize w.drewN nq = w1 at *
    have hn1 : (0 : Int) ≤ (n : Int) + 1 := by omega
    have hn2 : ((n : Int) + 1).toNat = n + 1 := by omega
    go_wp2_with fail
    go_still_tail 14, (by kernel_rfl)
    change wpList _ _ _ _ _ w1.drew
    have hc : w1.drew.cell? ⟨gp, o, none⟩ = some (.slice (some ⟨g, 0, none⟩) n cap) := hc
    have hf : w1.drew.frozen? ⟨gp, o, none⟩ = false := hf
    have HB1 := Lib.hid (below_drewd HB1.out)
    have HO := Lib.hid (show w1.drew.ownsRow B 182 5 (.slice (some ⟨g, 0, none⟩) (n + 1) cap) (n + 1) (xs ++ ys) from HO.out)
    generalize w1.drew = w1 at *
    obtain ⟨W, hW⟩ : ∃ W : World, W = w1.setCell ⟨gp, o, none⟩ (.slice (some ⟨g, 0, none⟩) (n + 1) cap) := ⟨_, rfl⟩
    have HFR : Hid (Fr gp o (.slice (some ⟨g, 0, none⟩) (n + 1) cap) w W) := Lib.hid (by rw [hW]; exact Fr.made HB1.out HGL.out)
    have HOW : Hid (W.ownsRow B 182 5 (.slice (some ⟨g, 0, none⟩) (n + 1) cap) (n + 1) (xs ++ ys)) := Lib.hid (by
      rw [hW]
      exact own_fr (w := w1) HO.out (Fr.made (Below.refl _ _) (World.block_lt_of_cell? w1 _ hc)) (by have := HNE.out; simp [Value.ownBlock]; exact this))
    have hcW : W.cell? ⟨gp, o, none⟩ = some (.slice (some ⟨g, 0, none⟩) (n + 1) cap) := by rw [hW]; exact cell_set_same _ _ _ _ _ hc
    have HW := Lib.hid hW
    clear hW
    go_wp2_with fail
    rw [← HW.out]
    go_quiet (fail)
    have hcW : (W.drewN nq).cell? ⟨gp, o, none⟩ = some (.slice (some ⟨g, 0, none⟩) (n + 1) cap) := hcW
    have HFR := Lib.hid (HFR.out.drewN nq)
    have HOW := Lib.hid (show (W.drewN nq).ownsRow B 182 5 (.slice (some ⟨g, 0, none⟩) (n + 1) cap) (n + 1) (xs ++ ys) from HOW.out)
    have HCW := Lib.hid hcW
    clear HW
    generalize W.drewN nq = W2 at *
    go_wp2_with fail
    go_ret
    exact ⟨g, cap, ys, by first | rfl | (congr 4; simp), HOW.out, HY.out, Or.inl rfl, HNE.out, HCW.out, HFR.out⟩
  · have hfull : ∀ g cap, v = .slice (some ⟨g, 0, none⟩) n cap → cap = n := fun g cap hv => by
      subst hv
      have h1 := (own_cap ho).1
      rcases Nat.lt_or_ge n cap with h | h
      · exact absurd ⟨g, cap, rfl, h⟩ hroom
      · omega
    have hform : ∃ q : Option Addr, v = .slice q n n := by
      rcases ho.2 with ⟨rfl, rfl⟩ | ⟨g, cap, cur, rfl, _⟩
      · exact ⟨_, rfl⟩
      · have := hfull g cap rfl
        subst this; exact ⟨_, rfl⟩
    have HFULL := Lib.hid hfull
    have HO := Lib.hid ho
    have HNE := Lib.hid hne
    have HGL := Lib.hid hgl
    obtain ⟨q, rfl⟩ := hform
    clear ho hne hfull hroom
    have hnlt : decide ((n : Int) < (n : Int)) = false := by simp
    go_enter Tryz.func161, Tryz.ntmps161
    go_wp2_with fail
    go_quiet (fail)
    have HB1 : Hid (Below w.heap.size w (w.drewN nq)) := Lib.hid ⟨rfl, rfl, rfl, Nat.le_refl _, fun _ _ => rfl⟩
    have hc : (w.drewN nq).cell? ⟨gp, o, none⟩ = some (.slice q n n) := hc
    have hf : (w.drewN nq).frozen? ⟨gp, o, none⟩ = false := hf
    have HO := Lib.hid (show (w.drewN nq).ownsRow B 182 5 (.slice q n n) n xs from HO.out)
    have HS1 := Lib.hid (show (w.drewN nq).heap.size = w.heap.size from rfl)
    generalize w.drewN nq = w1 at *
    obtain ⟨w2, hw2⟩ : ∃ w2 : World, w2 = w1.alloc (.cells #[.slice none 0 0, .bool false, .slice none 0 0, .string (⟨#[]⟩ : ByteArray), .int .i64 0] 182) := ⟨_, rfl⟩
    have hb2 : Below w1.heap.size w1 w2 := by rw [hw2]; exact (Below.refl _ _).alloc (Nat.le_refl _) _
    have hr2 : Row w2 w1.heap.size 182 [.slice none 0 0, .bool false, .slice none 0 0, .string (⟨#[]⟩ : ByteArray), .int .i64 0] := by rw [hw2]; exact Row.alloc w1 _ _
    obtain ⟨cap', w3, hr3, ho3, hb3, hge3⟩ := run_grow1 (P := Tryz.prog) w2 B 5 183 182 _ 80 (by kernel_rfl) hii rfl (by decide) (.slice q n n) n xs (by rw [hw2]; exact HO.out.alloc _) (by have := hb2.size; have := HS1.out; omega) HFULL.out hn ⟨w1.heap.size, 0, none⟩ 1 [.slice none 0 0, .bool false, .slice none 0 0, .string (⟨#[]⟩ : ByteArray), .int .i64 0] rfl
      (fun j u hj => by rw [Go.WideShapes.add_plain, Nat.zero_add, hr2.cell]; exact hj)
    have hgl1 : gp < w1.heap.size := World.block_lt_of_cell? w1 _ hc
    have hc3 : w3.cell? ⟨gp, o, none⟩ = some (.slice q n n) := by
      rw [hb3.cell (p := ⟨gp, o, none⟩) (show gp < w2.heap.size by have := hb2.size; omega), hb2.cell (p := ⟨gp, o, none⟩) hgl1]; exact hc
    have hf3 : w3.frozen? ⟨gp, o, none⟩ = false := by
      rw [World.frozen?_of_block (w := w2) (w' := w3) (a := ⟨gp, o, none⟩) (hb3.block gp (by have := hb2.size; omega)), World.frozen?_of_block (w := w1) (w' := w2) (a := ⟨gp, o, none⟩) (hb2.block gp hgl1)]; exact hf
    have HR3 := Lib.hid hr3
    have h5 : w2.heap.size ≠ gp := by have := hb2.size; omega
    obtain ⟨W, hW⟩ : ∃ W : World, W = w3.setCell ⟨gp, o, none⟩ (.slice (some ⟨w2.heap.size, 0, none⟩) (n + 1) cap') := ⟨_, rfl⟩
    have HFR : Hid (Fr gp o (.slice (some ⟨w2.heap.size, 0, none⟩) (n + 1) cap') w W) := Lib.hid (by
      rw [hW]
      exact Fr.made (HB1.out.trans ((hb2.mono (by have := HS1.out; omega)).trans (hb3.mono (by have := hb2.size; have := HS1.out; omega)))) HGL.out)
    have HOW : Hid (W.ownsRow B 182 5 (.slice (some ⟨w2.heap.size, 0, none⟩) (n + 1) cap') (n + 1) (xs ++ [.slice none 0 0, .bool false, .slice none 0 0, .string (⟨#[]⟩ : ByteArray), .int .i64 0])) := Lib.hid (by
      rw [hW]
      exact own_fr ho3 (Fr.made (Below.refl _ _) (World.block_lt_of_cell? w3 _ hc3)) (by simp only [Value.ownBlock, ne_eq, Option.some.injEq]; exact h5))
    have hcW : W.cell? ⟨gp, o, none⟩ = some (.slice (some ⟨w2.heap.size, 0, none⟩) (n + 1) cap') := by rw [hW]; exact cell_set_same _ _ _ _ _ hc3
    have HW := Lib.hid hW
    have HW2 := Lib.hid hw2
    have hgcap : (n : Int) + 1 ≤ cap' := by omega
    have HX := Lib.hid (show w.heap.size ≤ w2.heap.size ∧ w2.heap.size ≠ gp from ⟨by have := hb2.size; have := HS1.out; omega, by have := hb2.size; omega⟩)
    clear hW hb2 hr2 hr3 ho3 hb3 hw2
    go_wp2_with (at_builtin; rw [show w1.alloc (.cells #[.slice none 0 0, .bool false, .slice none 0 0, .string (⟨#[]⟩ : ByteArray), .int .i64 0] 182) = w2 from HW2.out.symm]; refine Lib.wpList_append_run _ rfl _ _ _ _ rfl _ _ rfl rfl _ _ (HR3.out _) ?_)
    go_wp2_with fail
    rw [← HW.out]
    go_quiet (fail)
    have hcW : (W.drewN nq).cell? ⟨gp, o, none⟩ = some (.slice (some ⟨w2.heap.size, 0, none⟩) (n + 1) cap') := hcW
    have HFR := Lib.hid (HFR.out.drewN nq)
    have HOW := Lib.hid (show (W.drewN nq).ownsRow B 182 5 (.slice (some ⟨w2.heap.size, 0, none⟩) (n + 1) cap') (n + 1) (xs ++ [.slice none 0 0, .bool false, .slice none 0 0, .string (⟨#[]⟩ : ByteArray), .int .i64 0]) from HOW.out)
    have HCW := Lib.hid hcW
    clear HW
    generalize W.drewN nq = W2 at *
    go_wp2_with fail
    go_ret
    exact ⟨w2.heap.size, cap', _, by first | rfl | (congr 4; simp), HOW.out, rfl, Or.inr ⟨HX.out.1, rfl⟩, HX.out.2, HCW.out, HFR.out⟩

set_option maxRecDepth 100000 in
set_option maxHeartbeats 2000000 in
theorem getKVC (gp o B n : Nat) (v : Value) (xs : List Value) (w : World) (hc : w.cell? ⟨gp, o, none⟩ = some v) (hf : w.frozen? ⟨gp, o, none⟩ = false) (ho : w.ownsRow B 270 2 v n xs) (hne : v.ownBlock ≠ some gp) (hB : B ≤ w.heap.size) (hn : n ≤ 1000) :
    Calls Tryz.prog 177 #[.pointer (some ⟨gp, o, none⟩)] w fun e w' => ∃ g' cap' ys, e = .returned (.pointer (some ⟨g', n * 2, none⟩)) ∧ w'.ownsRow B 270 2 (.slice (some ⟨g', 0, none⟩) (n + 1) cap') (n + 1) (xs ++ ys) ∧ ys.length = 2 ∧ (v.ownBlock = some g' ∨ (w.heap.size ≤ g' ∧ ys = [.string (⟨#[]⟩ : ByteArray), .pointer none])) ∧ g' ≠ gp ∧ w'.cell? ⟨gp, o, none⟩ = some (.slice (some ⟨g', 0, none⟩) (n + 1) cap') ∧ Fr gp o (.slice (some ⟨g', 0, none⟩) (n + 1) cap') w w' := by
  have hgl : gp < w.heap.size := World.block_lt_of_cell? w _ hc
  have hii : (Tryz.prog.info? 270).map (fun i => (i.zero, i.size, i.bytes)) = some (some (.agg #[.string (⟨#[]⟩ : ByteArray), .pointer none]), 2, 24) := by kernel_rfl
  have hnw : IntKind.i64.wrap ((n : Int) + 1) = (n : Int) + 1 := IntWalk.i64_in _ (by omega)
  have hnw2 : IntKind.i64.wrap ((n : Int) + 1 - 1) = (n : Int) := by rw [show (n : Int) + 1 - 1 = n by omega]; exact IntWalk.i64_in _ (by omega)
  have hnn : (n : Int) < (n : Int) + 1 := by omega
  have hn0 : (0 : Int) ≤ n := by omega
  by_cases hroom : ∃ g cap, v = .slice (some ⟨g, 0, none⟩) n cap ∧ n < cap
  · obtain ⟨g, cap, rfl, hnc⟩ := hroom
    obtain ⟨ys, hys, hown⟩ := own_more ho hnc
    have HO := Lib.hid hown
    have HY := Lib.hid hys
    have hcm := (own_cap ho).2.1
    have hgg : g ≠ gp := fun h => hne (by simp [Value.ownBlock, h])
    have hncI : (n : Int) < cap := by omega
    have hncI2 : (n : Int) + 1 ≤ cap := by omega
    have hcm2 : (cap : Int) ≤ 9223372036854775807 := by unfold maxLen at hcm; omega
    have HNE := Lib.hid hgg
    have HGL := Lib.hid hgl
    clear ho hne hown hys hcm hgg
    go_enter Tryz.func177, Tryz.ntmps177
    go_wp2_with fail
    go_quiet (fail)
    have hc : (w.drewN nq).cell? ⟨gp, o, none⟩ = some (.slice (some ⟨g, 0, none⟩) n cap) := hc
    have hf : (w.drewN nq).frozen? ⟨gp, o, none⟩ = false := hf
    have HB1 : Hid (Below w.heap.size w (w.drewN nq)) := Lib.hid ⟨rfl, rfl, rfl, Nat.le_refl _, fun _ _ => rfl⟩
    have HO := Lib.hid (show (w.drewN nq).ownsRow B 270 2 (.slice (some ⟨g, 0, none⟩) (n + 1) cap) (n + 1) (xs ++ ys) from HO.out)
    generalize w.drewN nq = w1 at *
    have hn1 : (0 : Int) ≤ (n : Int) + 1 := by omega
    have hn2 : ((n : Int) + 1).toNat = n + 1 := by omega
    go_wp2_with fail
    go_still_tail 14, (by kernel_rfl)
    change wpList _ _ _ _ _ w1.drew
    have hc : w1.drew.cell? ⟨gp, o, none⟩ = some (.slice (some ⟨g, 0, none⟩) n cap) := hc
    have hf : w1.drew.frozen? ⟨gp, o, none⟩ = false := hf
    have HB1 := Lib.hid (below_drewd HB1.out)
    have HO := Lib.hid (show w1.drew.ownsRow B 270 2 (.slice (some ⟨g, 0, none⟩) (n + 1) cap) (n + 1) (xs ++ ys) from HO.out)
    generalize w1.drew = w1 at *
    obtain ⟨W, hW⟩ : ∃ W : World, W = w1.setCell ⟨gp, o, none⟩ (.slice (some ⟨g, 0, none⟩) (n + 1) cap) := ⟨_, rfl⟩
    have HFR : Hid (Fr gp o (.slice (some ⟨g, 0, none⟩) (n + 1) cap) w W) := Lib.hid (by rw [hW]; exact Fr.made HB1.out HGL.out)
    have HOW : Hid (W.ownsRow B 270 2 (.slice (some ⟨g, 0, none⟩) (n + 1) cap) (n + 1) (xs ++ ys)) := Lib.hid (by
      rw [hW]
      exact own_fr (w := w1) HO.out (Fr.made (Below.refl _ _) (World.block_lt_of_cell? w1 _ hc)) (by have := HNE.out; simp [Value.ownBlock]; exact this))
    have hcW : W.cell? ⟨gp, o, none⟩ = some (.slice (some ⟨g, 0, none⟩) (n + 1) cap) := by rw [hW]; exact cell_set_same _ _ _ _ _ hc
    have HW := Lib.hid hW
    clear hW
    go_wp2_with fail
    rw [← HW.out]
    go_quiet (fail)
    have hcW : (W.drewN nq).cell? ⟨gp, o, none⟩ = some (.slice (some ⟨g, 0, none⟩) (n + 1) cap) := hcW
    have HFR := Lib.hid (HFR.out.drewN nq)
    have HOW := Lib.hid (show (W.drewN nq).ownsRow B 270 2 (.slice (some ⟨g, 0, none⟩) (n + 1) cap) (n + 1) (xs ++ ys) from HOW.out)
    have HCW := Lib.hid hcW
    clear HW
    generalize W.drewN nq = W2 at *
    go_wp2_with fail
    go_ret
    exact ⟨g, cap, ys, by first | rfl | (congr 4; simp), HOW.out, HY.out, Or.inl rfl, HNE.out, HCW.out, HFR.out⟩
  · have hfull : ∀ g cap, v = .slice (some ⟨g, 0, none⟩) n cap → cap = n := fun g cap hv => by
      subst hv
      have h1 := (own_cap ho).1
      rcases Nat.lt_or_ge n cap with h | h
      · exact absurd ⟨g, cap, rfl, h⟩ hroom
      · omega
    have hform : ∃ q : Option Addr, v = .slice q n n := by
      rcases ho.2 with ⟨rfl, rfl⟩ | ⟨g, cap, cur, rfl, _⟩
      · exact ⟨_, rfl⟩
      · have := hfull g cap rfl
        subst this; exact ⟨_, rfl⟩
    have HFULL := Lib.hid hfull
    have HO := Lib.hid ho
    have HNE := Lib.hid hne
    have HGL := Lib.hid hgl
    obtain ⟨q, rfl⟩ := hform
    clear ho hne hfull hroom
    have hnlt : decide ((n : Int) < (n : Int)) = false := by simp
    go_enter Tryz.func177, Tryz.ntmps177
    go_wp2_with fail
    go_quiet (fail)
    have HB1 : Hid (Below w.heap.size w (w.drewN nq)) := Lib.hid ⟨rfl, rfl, rfl, Nat.le_refl _, fun _ _ => rfl⟩
    have hc : (w.drewN nq).cell? ⟨gp, o, none⟩ = some (.slice q n n) := hc
    have hf : (w.drewN nq).frozen? ⟨gp, o, none⟩ = false := hf
    have HO := Lib.hid (show (w.drewN nq).ownsRow B 270 2 (.slice q n n) n xs from HO.out)
    have HS1 := Lib.hid (show (w.drewN nq).heap.size = w.heap.size from rfl)
    generalize w.drewN nq = w1 at *
    obtain ⟨w2, hw2⟩ : ∃ w2 : World, w2 = w1.alloc (.cells #[.string (⟨#[]⟩ : ByteArray), .pointer none] 270) := ⟨_, rfl⟩
    have hb2 : Below w1.heap.size w1 w2 := by rw [hw2]; exact (Below.refl _ _).alloc (Nat.le_refl _) _
    have hr2 : Row w2 w1.heap.size 270 [.string (⟨#[]⟩ : ByteArray), .pointer none] := by rw [hw2]; exact Row.alloc w1 _ _
    obtain ⟨cap', w3, hr3, ho3, hb3, hge3⟩ := run_grow1 (P := Tryz.prog) w2 B 2 177 270 _ 24 (by kernel_rfl) hii rfl (by decide) (.slice q n n) n xs (by rw [hw2]; exact HO.out.alloc _) (by have := hb2.size; have := HS1.out; omega) HFULL.out hn ⟨w1.heap.size, 0, none⟩ 1 [.string (⟨#[]⟩ : ByteArray), .pointer none] rfl
      (fun j u hj => by rw [Go.WideShapes.add_plain, Nat.zero_add, hr2.cell]; exact hj)
    have hgl1 : gp < w1.heap.size := World.block_lt_of_cell? w1 _ hc
    have hc3 : w3.cell? ⟨gp, o, none⟩ = some (.slice q n n) := by
      rw [hb3.cell (p := ⟨gp, o, none⟩) (show gp < w2.heap.size by have := hb2.size; omega), hb2.cell (p := ⟨gp, o, none⟩) hgl1]; exact hc
    have hf3 : w3.frozen? ⟨gp, o, none⟩ = false := by
      rw [World.frozen?_of_block (w := w2) (w' := w3) (a := ⟨gp, o, none⟩) (hb3.block gp (by have := hb2.size; omega)), World.frozen?_of_block (w := w1) (w' := w2) (a := ⟨gp, o, none⟩) (hb2.block gp hgl1)]; exact hf
    have HR3 := Lib.hid hr3
    have h5 : w2.heap.size ≠ gp := by have := hb2.size; omega
    obtain ⟨W, hW⟩ : ∃ W : World, W = w3.setCell ⟨gp, o, none⟩ (.slice (some ⟨w2.heap.size, 0, none⟩) (n + 1) cap') := ⟨_, rfl⟩
    have HFR : Hid (Fr gp o (.slice (some ⟨w2.heap.size, 0, none⟩) (n + 1) cap') w W) := Lib.hid (by
      rw [hW]
      exact Fr.made (HB1.out.trans ((hb2.mono (by have := HS1.out; omega)).trans (hb3.mono (by have := hb2.size; have := HS1.out; omega)))) HGL.out)
    have HOW : Hid (W.ownsRow B 270 2 (.slice (some ⟨w2.heap.size, 0, none⟩) (n + 1) cap') (n + 1) (xs ++ [.string (⟨#[]⟩ : ByteArray), .pointer none])) := Lib.hid (by
      rw [hW]
      exact own_fr ho3 (Fr.made (Below.refl _ _) (World.block_lt_of_cell? w3 _ hc3)) (by simp only [Value.ownBlock, ne_eq, Option.some.injEq]; exact h5))
    have hcW : W.cell? ⟨gp, o, none⟩ = some (.slice (some ⟨w2.heap.size, 0, none⟩) (n + 1) cap') := by rw [hW]; exact cell_set_same _ _ _ _ _ hc3
    have HW := Lib.hid hW
    have HW2 := Lib.hid hw2
    have hgcap : (n : Int) + 1 ≤ cap' := by omega
    have HX := Lib.hid (show w.heap.size ≤ w2.heap.size ∧ w2.heap.size ≠ gp from ⟨by have := hb2.size; have := HS1.out; omega, by have := hb2.size; omega⟩)
    clear hW hb2 hr2 hr3 ho3 hb3 hw2
    go_wp2_with (at_builtin; rw [show w1.alloc (.cells #[.string (⟨#[]⟩ : ByteArray), .pointer none] 270) = w2 from HW2.out.symm]; refine Lib.wpList_append_run _ rfl _ _ _ _ rfl _ _ rfl rfl _ _ (HR3.out _) ?_)
    go_wp2_with fail
    rw [← HW.out]
    go_quiet (fail)
    have hcW : (W.drewN nq).cell? ⟨gp, o, none⟩ = some (.slice (some ⟨w2.heap.size, 0, none⟩) (n + 1) cap') := hcW
    have HFR := Lib.hid (HFR.out.drewN nq)
    have HOW := Lib.hid (show (W.drewN nq).ownsRow B 270 2 (.slice (some ⟨w2.heap.size, 0, none⟩) (n + 1) cap') (n + 1) (xs ++ [.string (⟨#[]⟩ : ByteArray), .pointer none]) from HOW.out)
    have HCW := Lib.hid hcW
    clear HW
    generalize W.drewN nq = W2 at *
    go_wp2_with fail
    go_ret
    exact ⟨w2.heap.size, cap', _, by first | rfl | (congr 4; simp), HOW.out, rfl, Or.inr ⟨HX.out.1, rfl⟩, HX.out.2, HCW.out, HFR.out⟩
end Go.Proofs.YtaemdppihpefnaaGreatDoor

/- fastjson's parseValue, of a text that bears no sign to be escaped. -/
namespace Go.Proofs.YtaemdppihpefnaaGreatDoor
open Go.RowKit
set_option linter.unusedVariables false

/-- What stays where a value is taken out of the cache in block gp: the row of values is block g now, and from lo on it may be another. -/
structure Kp (gp g lo : Nat) (w w' : World) : Prop where
  below : Below gp w w'
  cell : ∀ b j, b < w.heap.size → ¬ (b = gp ∧ j = 1) → ¬ (b = g ∧ lo ≤ j) → w'.cell? ⟨b, j, none⟩ = w.cell? ⟨b, j, none⟩
  block : ∀ b, b < w.heap.size → b ≠ gp → b ≠ g → w'.heap[b]? = w.heap[b]?

theorem Kp.cellv {gp g lo : Nat} {w w' : World} (h : Kp gp g lo w w') {b j : Nat} {x : Value} (hc : w.cell? ⟨b, j, none⟩ = some x) (h1 : ¬ (b = gp ∧ j = 1)) (h2 : ¬ (b = g ∧ lo ≤ j)) : w'.cell? ⟨b, j, none⟩ = some x := by
  rw [h.cell b j (World.block_lt_of_cell? w _ hc) h1 h2]; exact hc
theorem own_kp {gp g lo : Nat} {w w' : World} {B : Nat} {T : TypeId} {sz : Nat} {v : Value} {n : Nat} {xs : List Value} (h : w.ownsRow B T sz v n xs) (hk : Kp gp g lo w w') (h1 : v.ownBlock ≠ some gp) (h2 : v.ownBlock ≠ some g) : w'.ownsRow B T sz v n xs := by
  obtain ⟨hl, h⟩ := h
  refine ⟨hl, ?_⟩
  rcases h with h | ⟨g', cap, cur, rfl, hb, hg, r⟩
  · exact .inl h
  · refine .inr ⟨g', cap, cur, rfl, hb, ?_, r⟩
    rw [hk.block g' (Array.getElem?_eq_some_iff.1 hg).1 (fun e => h1 (by rw [e]; rfl)) (fun e => h2 (by rw [e]; rfl))]
    exact hg

set_option maxRecDepth 100000 in
set_option maxHeartbeats 4000000 in
theorem valStr (gp B n d : Nat) (v : Value) (xs : List Value) (a b : List Int) (w : World) (hc : w.cell? ⟨gp, 1, none⟩ = some v) (hf : w.frozen? ⟨gp, 1, none⟩ = false) (ho : w.ownsRow B 182 5 v n xs) (hgB : gp < B) (hB : B ≤ w.heap.size) (hn : n ≤ 1000)
    (ha : Bare a) (hb : Byt b) (hl : (a ++ 34 :: b).length ≤ 50000) (hpos : 0 < a.length) (hd : d < 100) :
    Calls Tryz.prog 134 #[.pointer (some ⟨gp, 1, none⟩), .string (strOfNums (34 :: (a ++ 34 :: b))), .int .i64 d] w fun e w' => ∃ g cap ys, e = .returned (.tuple #[.pointer (some ⟨g, n * 5, none⟩), .string (strOfNums b), .nilIface]) ∧
      Hid (w'.ownsRow B 182 5 (.slice (some ⟨g, 0, none⟩) (n + 1) cap) (n + 1) (xs ++ ys)) ∧ ys.length = 5 ∧ ys[3]? = some (.string (strOfNums a)) ∧ ys[4]? = some (.int .i64 7) ∧ g ≠ gp ∧ (v.ownBlock = some g ∨ w.heap.size ≤ g) ∧
      w'.cell? ⟨gp, 1, none⟩ = some (.slice (some ⟨g, 0, none⟩) (n + 1) cap) ∧ w'.frozen? ⟨gp, 1, none⟩ = false ∧ Hid (Kp gp g (n * 5) w w') := by
  have hne : v.ownBlock ≠ some gp := fun h => by have := (ho.lt gp h).1; omega
  have hby : Byt (34 :: (a ++ 34 :: b)) := by
    intro x hx
    rcases List.mem_cons.1 hx with h | h
    · omega
    · exact bare_mid ha hb x h
  have hsz := S_size (34 :: (a ++ 34 :: b))
  have hix := run_sidx (P := Tryz.prog) 9 Tryz.underlying9 (34 :: (a ++ 34 :: b)) hby .i64 0 0 rfl (by simp)
  rw [show (34 :: (a ++ 34 :: b)).getD 0 0 = 34 from rfl] at hix
  have hsl := run_sfrom (P := Tryz.prog) 9 Tryz.underlying9 (34 :: (a ++ 34 :: b)) .i64 1 1 rfl (by simp)
  rw [show (34 :: (a ++ 34 :: b)).drop 1 = a ++ 34 :: b from rfl] at hsl
  have HR := Lib.hid (rawString a b ha hb (by omega) hpos w)
  have HG := Lib.hid (fun nq => getValueC gp 1 B n v xs (w.drewN nq) hc hf ho hne hB hn)
  have hl0 : ¬ ((34 :: (a ++ 34 :: b)).length : Int) = 0 := by rw [List.length_cons]; omega
  have hl1 : (((34 :: (a ++ 34 :: b)).length : Int) == 0) = false := by rw [beq_eq_false_iff_ne]; exact hl0
  have hw1 : IntKind.i64.wrap ((d : Int) + 1) = (d : Int) + 1 := IntWalk.i64_in _ (by omega)
  have hd3 : ¬ ((300 : Int) < (d : Int) + 1) := by omega
  have HX := Lib.hid (own_len ho)
  have HF := Lib.hid hf
  have HGB := Lib.hid hgB
  have HBS := Lib.hid hB
  have HSZ := Lib.hid (fun k (h : v.ownBlock = some k) => (ho.lt k h).1)
  generalize (34 :: (a ++ 34 :: b)).length = N at *
  generalize strOfNums (34 :: (a ++ 34 :: b)) = S at *
  generalize strOfNums (a ++ 34 :: b) = S1 at *
  clear hby ha hb hl hne ho hc hf hB
  go_enter Tryz.func134, Tryz.ntmps134
  go_wp2_with fail
  go_at_call 160
  refine HR.out.mono ?_
  rintro e w1 ⟨rfl, nq, rfl⟩
  clear HR
  go_wp2_with fail
  go_at_call 161
  refine (HG.out nq).mono ?_
  rintro e w2 ⟨g, cap, ys, rfl, ho2, hys, hg2, hgn, hc2, hfr⟩
  have hgB2 : B ≤ g := (own_cap ho2).2.2.1
  have y3 : ∃ y, ys[3]? = some y := ⟨ys[3], by simp [hys]⟩
  have y4 : ∃ y, ys[4]? = some y := ⟨ys[4], by simp [hys]⟩
  obtain ⟨z3, y3⟩ := y3
  obtain ⟨z4, y4⟩ := y4
  have hxl := HX.out
  have k3 : w2.cell? ⟨g, n * 5 + 3, none⟩ = some z3 := own_cell ho2 _ _ (by rw [List.getElem?_append_right (by omega), hxl, show n * 5 + 3 - n * 5 = 3 by omega]; exact y3)
  have k4 : w2.cell? ⟨g, n * 5 + 4, none⟩ = some z4 := own_cell ho2 _ _ (by rw [List.getElem?_append_right (by omega), hxl, show n * 5 + 4 - n * 5 = 4 by omega]; exact y4)
  have kf := own_unfrozen ho2
  have hgl : g < w2.heap.size := (own_cap ho2).2.2.2
  obtain ⟨w3, hw3⟩ : ∃ w3 : World, w3 = w2.setCell ⟨g, n * 5 + 4, none⟩ (.int .i64 7) := ⟨_, rfl⟩
  have f3 : Fr g (n * 5 + 4) (.int .i64 7) w2 w3 := by rw [hw3]; exact Fr.made (Below.refl _ _) hgl
  obtain ⟨w4, hw4⟩ : ∃ w4 : World, w4 = w3.setCell ⟨g, n * 5 + 3, none⟩ (.string (strOfNums a)) := ⟨_, rfl⟩
  have f4 : Fr g (n * 5 + 3) (.string (strOfNums a)) w3 w4 := by rw [hw4]; exact Fr.made (Below.refl _ _) (Nat.lt_of_lt_of_le hgl f3.but.size)
  have HO4 : Hid (w4.ownsRow B 182 5 (.slice (some ⟨g, 0, none⟩) (n + 1) cap) (n + 1) (xs ++ (ys.set 4 (.int .i64 7)).set 3 (.string (strOfNums a)))) := Lib.hid (by
    have h := own_fr_in (own_fr_in ho2 f3) f4
    rwa [List.set_append_right _ _ (by omega), hxl, show n * 5 + 4 - n * 5 = 4 by omega, List.set_append_right _ _ (by omega), hxl, show n * 5 + 3 - n * 5 = 3 by omega] at h)
  have HY := Lib.hid hys
  have hng : ¬ (gp = g ∧ 1 = n * 5 + 4) := fun h => hgn h.1.symm
  have hng2 : ¬ (gp = g ∧ 1 = n * 5 + 3) := fun h => hgn h.1.symm
  have HC4 := Lib.hid (f4.cellv (f3.cellv hc2 hng) hng2)
  have HF4 : Hid (w4.frozen? ⟨gp, 1, none⟩ = false) := Lib.hid (by
    have h1 : w2.frozen? ⟨gp, 1, none⟩ = false := (hfr.fz 1).trans HF.out
    have hgp2 : gp < w2.heap.size := World.block_lt_of_cell? w2 _ hc2
    rw [World.frozen?_of_block (w := w3) (w' := w4) (a := ⟨gp, 1, none⟩) (f4.but.block gp (Nat.lt_of_lt_of_le hgp2 f3.but.size) (Ne.symm hgn)), World.frozen?_of_block (w := w2) (w' := w3) (a := ⟨gp, 1, none⟩) (f3.but.block gp hgp2 (Ne.symm hgn))]
    exact h1)
  have HKP : Hid (Kp gp g (n * 5) w w4) := Lib.hid (by
    have s2 : w.heap.size ≤ w2.heap.size := hfr.but.size
    have s3 := f3.but.size
    refine ⟨?_, fun b j hb h1 h2 => ?_, fun b hb h1 h2 => ?_⟩
    · have b0 := hfr.but.below (Nat.le_refl gp) (Nat.le_of_lt hfr.lt)
      have b1 : Below gp w w2 := ⟨b0.os, b0.tape, b0.output, b0.size, b0.block⟩
      have hgg : gp ≤ g := by have := HGB.out; omega
      exact b1.trans ((f3.below hgg).trans (f4.below hgg))
    · rw [f4.cells b j (by omega) (fun h => h2 ⟨h.1, by omega⟩), f3.cells b j (by omega) (fun h => h2 ⟨h.1, by omega⟩)]
      exact hfr.cells b j hb h1
    · rw [f4.but.block b (by omega) h2, f3.but.block b (by omega) h2]
      exact hfr.but.block b hb h1)
  have HG2 : Hid (v.ownBlock = some g ∨ w.heap.size ≤ g) := Lib.hid (by
    rcases hg2 with h | h
    · exact Or.inl h
    · exact Or.inr h.1)
  have HGN := Lib.hid hgn
  have HW3 := Lib.hid hw3
  have HW4 := Lib.hid hw4
  clear hw3 hw4 f3 f4 hg2 hfr ho2 hys y3 y4 hc2 hng hng2 hgB2 hgl HG
  have hnn : ¬ (n * 5 + 3 = n * 5 + 4) := by omega
  go_wp2_with fail
  go_ret3
  rw [← HW3.out, ← HW4.out]
  exact ⟨g, cap, _, rfl, HO4, by simp [HY.out], by simp [HY.out], by simp [HY.out], HGN.out, HG2.out, HC4.out, HF4.out, HKP⟩
end Go.Proofs.YtaemdppihpefnaaGreatDoor

/- What memory holds while fastjson parses an object: the cache's values, the object's fields. -/
namespace Go.Proofs.YtaemdppihpefnaaGreatDoor
open Go.RowKit
set_option linter.unusedVariables false

/-- Field j of es: a name, and a pointer to a value that is a text. -/
def Ent (w : World) (gp gv lo : Nat) (kv : Value) (es : List Value) (K V : List Int) (j B : Nat) : Prop :=
  ∃ g o, es[2 * j]? = some (.string (strOfNums K)) ∧ es[2 * j + 1]? = some (.pointer (some ⟨g, o, none⟩)) ∧ w.cell? ⟨g, o + 3, none⟩ = some (.string (strOfNums V)) ∧ w.cell? ⟨g, o + 4, none⟩ = some (.int .i64 7) ∧
    w.frozen? ⟨g, o + 3, none⟩ = false ∧ w.frozen? ⟨g, o + 4, none⟩ = false ∧ g ≠ gp ∧ kv.ownBlock ≠ some g ∧ (g ≠ gv ∨ o + 5 ≤ lo) ∧ B ≤ g

structure JM (gp go B n m k gv cv : Nat) (kv : Value) (es : List Value) (K V : Nat → List Int) (w : World) : Prop where
  c : w.cell? ⟨gp, 1, none⟩ = some (.slice (some ⟨gv, 0, none⟩) n cv)
  f : w.frozen? ⟨gp, 1, none⟩ = false
  o : ∃ xs, w.ownsRow B 182 5 (.slice (some ⟨gv, 0, none⟩) n cv) n xs
  oc : w.cell? ⟨go, 0, none⟩ = some kv
  ok0 : w.frozen? ⟨go, 0, none⟩ = false
  ok : w.ownsRow B 270 2 kv m es
  ou : w.cell? ⟨go, 1, none⟩ = some (.bool false)
  ot : w.cell? ⟨go, 4, none⟩ = some (.int .i64 1)
  d1 : kv.ownBlock ≠ some gp
  d2 : kv.ownBlock ≠ some gv
  d3 : kv.ownBlock ≠ some go
  hgp : gp < B
  hgo : B ≤ go
  hB : B ≤ w.heap.size
  hn : 1 ≤ n
  ent : ∀ j, j < k → Ent w gp gv (5 * n) kv es (K j) (V j) j B

variable {gp go B n m k gv cv : Nat} {kv : Value} {es : List Value} {K V : Nat → List Int} {w w' : World}

theorem JM.drewN (h : JM gp go B n m k gv cv kv es K V w) (q : Nat) : JM gp go B n m k gv cv kv es K V (w.drewN q) :=
  ⟨h.c, h.f, h.o, h.oc, h.ok0, h.ok, h.ou, h.ot, h.d1, h.d2, h.d3, h.hgp, h.hgo, h.hB, h.hn, h.ent⟩

theorem frozen_at {b j : Nat} (h : w'.heap[b]? = w.heap[b]?) : w'.frozen? ⟨b, j, none⟩ = w.frozen? ⟨b, j, none⟩ := World.frozen?_of_block h
theorem Fr.frz {b o : Nat} {u : Value} (h : Fr b o u w w') (b' j : Nat) (hb : b' < w.heap.size) : w'.frozen? ⟨b', j, none⟩ = w.frozen? ⟨b', j, none⟩ := by
  by_cases hbb : b' = b
  · subst hbb; exact h.fz j
  · exact frozen_at (h.but.block b' hb hbb)

/-- One field more. -/
theorem JM.grow (h : JM gp go B n m k gv cv kv es K V w) (hk : k ≤ m) {g' cap' : Nat} {ys : List Value} (ho : w'.ownsRow B 270 2 (.slice (some ⟨g', 0, none⟩) (m + 1) cap') (m + 1) (es ++ ys))
    (hg : kv.ownBlock = some g' ∨ w.heap.size ≤ g') (hgo' : g' ≠ go) (hc : w'.cell? ⟨go, 0, none⟩ = some (.slice (some ⟨g', 0, none⟩) (m + 1) cap')) (hf : Fr go 0 (.slice (some ⟨g', 0, none⟩) (m + 1) cap') w w') :
    JM gp go B n (m + 1) k gv cv (.slice (some ⟨g', 0, none⟩) (m + 1) cap') (es ++ ys) K V w' := by
  have hgoB := h.hgo
  have hgpB := h.hgp
  have hgpl : gp < w.heap.size := World.block_lt_of_cell? w _ h.c
  obtain ⟨xs, hxs⟩ := h.o
  have hgvl := (own_cap hxs).2.2.2
  have hgol : go < w.heap.size := World.block_lt_of_cell? w _ h.oc
  have e1 : g' ≠ gp := by rcases hg with hg | hg; exact fun e => h.d1 (by rw [hg, e]); omega
  have e2 : g' ≠ gv := by rcases hg with hg | hg; exact fun e => h.d2 (by rw [hg, e]); omega
  refine ⟨hf.cellv h.c (by omega), (hf.frz gp 1 hgpl).trans h.f, ?_, hc, (hf.fz 0).trans h.ok0, ho, hf.cellv h.ou (by omega), hf.cellv h.ot (by omega), by simp [Value.ownBlock, e1], by simp [Value.ownBlock, e2], by simp [Value.ownBlock, hgo'], hgpB, hgoB, Nat.le_trans h.hB hf.but.size, h.hn, fun j hj => ?_⟩
  · by_cases hgg : gv = go
    · subst hgg; exact ⟨_, own_fr_in hxs hf⟩
    · exact ⟨xs, own_fr hxs hf (by simp [Value.ownBlock, hgg])⟩
  · obtain ⟨g, o, a1, a2, a3, a4, a5, a6, a7, a8, a9, a10⟩ := h.ent j hj
    have hgl : g < w.heap.size := World.block_lt_of_cell? w _ a3
    have hesl := own_len h.ok
    refine ⟨g, o, by rw [List.getElem?_append_left (by omega)]; exact a1, by rw [List.getElem?_append_left (by omega)]; exact a2, hf.cellv a3 (by omega), hf.cellv a4 (by omega), (hf.frz g _ hgl).trans a5, (hf.frz g _ hgl).trans a6, a7, ?_, a9, a10⟩
    simp only [Value.ownBlock, ne_eq, Option.some.injEq]
    rcases hg with hg | hg
    · exact fun e => a8 (by rw [hg, e])
    · omega

/-- A store into the fields, behind those that are whole. -/
theorem JM.store {g' cap' : Nat} (h : JM gp go B n m k gv cv (.slice (some ⟨g', 0, none⟩) m cap') es K V w) (i : Nat) (hi : 2 * k ≤ i) {u : Value} (hf : Fr g' i u w w') : JM gp go B n m k gv cv (.slice (some ⟨g', 0, none⟩) m cap') (es.set i u) K V w' := by
  have e1 : g' ≠ gp := fun e => h.d1 (by simp [Value.ownBlock, e])
  have e2 : g' ≠ gv := fun e => h.d2 (by simp [Value.ownBlock, e])
  have e3 : g' ≠ go := fun e => h.d3 (by simp [Value.ownBlock, e])
  obtain ⟨xs, hxs⟩ := h.o
  have hgpl : gp < w.heap.size := World.block_lt_of_cell? w _ h.c
  have hgol : go < w.heap.size := World.block_lt_of_cell? w _ h.oc
  refine ⟨hf.cellv h.c (fun x => e1 x.1.symm), (hf.frz gp 1 hgpl).trans h.f, ⟨xs, own_fr hxs hf (by simp [Value.ownBlock]; exact fun e => e2 e.symm)⟩, hf.cellv h.oc (fun x => e3 x.1.symm), (hf.frz go 0 hgol).trans h.ok0, own_fr_in h.ok hf, hf.cellv h.ou (fun x => e3 x.1.symm), hf.cellv h.ot (fun x => e3 x.1.symm), h.d1, h.d2, h.d3, h.hgp, h.hgo, Nat.le_trans h.hB hf.but.size, h.hn, fun j hj => ?_⟩
  obtain ⟨g, o, a1, a2, a3, a4, a5, a6, a7, a8, a9, a10⟩ := h.ent j hj
  have hgl : g < w.heap.size := World.block_lt_of_cell? w _ a3
  have hgg : ¬ g = g' := fun e => a8 (by simp [Value.ownBlock, e])
  exact ⟨g, o, by rw [List.getElem?_set_ne (by omega)]; exact a1, by rw [List.getElem?_set_ne (by omega)]; exact a2, hf.cellv a3 (fun x => hgg x.1), hf.cellv a4 (fun x => hgg x.1), (hf.frz g _ hgl).trans a5, (hf.frz g _ hgl).trans a6, a7, a8, a9, a10⟩

/-- A value more in the cache. -/
theorem JM.value (h : JM gp go B n m k gv cv kv es K V w) {g cap : Nat} {zs : List Value} (ho : w'.ownsRow B 182 5 (.slice (some ⟨g, 0, none⟩) (n + 1) cap) (n + 1) zs)
    (hg : gv = g ∨ w.heap.size ≤ g) (hgn : g ≠ gp) (hc : w'.cell? ⟨gp, 1, none⟩ = some (.slice (some ⟨g, 0, none⟩) (n + 1) cap)) (hf : w'.frozen? ⟨gp, 1, none⟩ = false) (hk : Kp gp g (n * 5) w w') :
    JM gp go B (n + 1) m k g cap kv es K V w' := by
  have hgpB := h.hgp
  have hgoB := h.hgo
  have hn := h.hn
  have hgol : go < w.heap.size := World.block_lt_of_cell? w _ h.oc
  have hkg : kv.ownBlock ≠ some g := by
    rcases hg with hg | hg
    · rw [← hg]; exact h.d2
    · exact fun e => by have := (h.ok.lt g e).2; omega
  have size : w.heap.size ≤ w'.heap.size := hk.below.size
  have fz : ∀ b j x, w.cell? ⟨b, j, none⟩ = some x → b ≠ gp → w.frozen? ⟨b, j, none⟩ = false → w'.frozen? ⟨b, j, none⟩ = false := fun b j x hx hb hfz => by
    by_cases hbg : b = g
    · rw [hbg]; exact own_unfrozen ho j
    · rw [frozen_at (hk.block b (World.block_lt_of_cell? w _ hx) hb hbg)]; exact hfz
  refine ⟨hc, hf, ⟨zs, ho⟩, hk.cellv h.oc (by omega) (by omega), fz go 0 _ h.oc (by omega) h.ok0, own_kp h.ok hk h.d1 hkg, hk.cellv h.ou (by omega) (by omega), hk.cellv h.ot (by omega) (by omega), h.d1, hkg, h.d3, hgpB, hgoB, Nat.le_trans h.hB size, by omega, fun j hj => ?_⟩
  obtain ⟨g1, o, a1, a2, a3, a4, a5, a6, a7, a8, a9, a10⟩ := h.ent j hj
  have hgl : g1 < w.heap.size := World.block_lt_of_cell? w _ a3
  have hsafe : g1 ≠ g ∨ o + 5 ≤ 5 * n := by
    rcases hg with hg | hg
    · rw [← hg]; exact a9
    · exact Or.inl (by omega)
  refine ⟨g1, o, a1, a2, hk.cellv a3 (by omega) (by omega), hk.cellv a4 (by omega) (by omega), fz _ _ _ a3 a7 a5, fz _ _ _ a4 a7 a6, a7, a8, ?_, a10⟩
  rcases hsafe with hs | hs
  · exact Or.inl hs
  · exact Or.inr (by omega)

/-- A field is whole. -/
theorem JM.whole (h : JM gp go B n m k gv cv kv es K V w) {g o : Nat} (a1 : es[2 * k]? = some (.string (strOfNums (K k)))) (a2 : es[2 * k + 1]? = some (.pointer (some ⟨g, o, none⟩))) (a3 : w.cell? ⟨g, o + 3, none⟩ = some (.string (strOfNums (V k)))) (a4 : w.cell? ⟨g, o + 4, none⟩ = some (.int .i64 7))
    (a5 : w.frozen? ⟨g, o + 3, none⟩ = false) (a6 : w.frozen? ⟨g, o + 4, none⟩ = false) (a7 : g ≠ gp) (a8 : kv.ownBlock ≠ some g) (a9 : g ≠ gv ∨ o + 5 ≤ 5 * n) (a10 : B ≤ g) : JM gp go B n m (k + 1) gv cv kv es K V w :=
  ⟨h.c, h.f, h.o, h.oc, h.ok0, h.ok, h.ou, h.ot, h.d1, h.d2, h.d3, h.hgp, h.hgo, h.hB, h.hn, fun j hj => by
    by_cases hjk : j < k
    · exact h.ent j hjk
    · obtain rfl : j = k := by omega
      exact ⟨g, o, a1, a2, a3, a4, a5, a6, a7, a8, a9, a10⟩⟩
end Go.Proofs.YtaemdppihpefnaaGreatDoor
