/- The registry of the algorithms of pub/jwx/jwa: a map that is filled by three loops. -/
import Derived.Test.YtaemdppihpefnaaGreatDoorAlgs
import Derived.Deep.RegionHeld3
import Derived.LoopTactic
import Derived.Carry
namespace Go.Proofs.YtaemdppihpefnaaGreatDoor
open Go.RowKit
set_option linter.unusedVariables false

/-- How such an algorithm stands in the registry. -/
def ceE (x : ByteArray × List Bool) : ByteArray × Value := (x.1, .agg #[.int .u8 3, .iface 228 (.agg (algCells x).toArray), .bool true])
/-- How such an algorithm stands in the registry. -/
def keE (x : ByteArray × List Bool) : ByteArray × Value := (x.1, .agg #[.int .u8 2, .iface 226 (.agg (algCells x).toArray), .bool true])
/-- How such an algorithm stands in the registry. -/
def saE (x : ByteArray × List Bool) : ByteArray × Value := (x.1, .agg #[.int .u8 1, .iface 112 (.agg (algCells x).toArray), .bool true])
def regT : List (ByteArray × Value) := ceT.map ceE ++ keT.map keE ++ saT.map saE
theorem flat_at {α β : Type} (f : α → List β) (n : Nat) : ∀ (l : List α), (∀ x ∈ l, (f x).length = n) → ∀ (k j : Nat) (x : α), l[k]? = some x → j < n → (l.flatMap f)[k * n + j]? = (f x)[j]?
  | [], _, k, j, x, h, _ => by simp at h
  | a :: l, hl, 0, j, x, h, hj => by
    simp at h; subst h
    have := hl a (by simp)
    rw [List.flatMap_cons, Nat.zero_mul, Nat.zero_add, List.getElem?_append_left (by omega)]
  | a :: l, hl, k + 1, j, x, h, hj => by
    have h1 := hl a (by simp)
    have e : (k + 1) * n + j = (f a).length + (k * n + j) := by rw [h1, Nat.succ_mul]; omega
    rw [List.flatMap_cons, e, List.getElem?_append_right (by omega), Nat.add_sub_cancel_left]
    exact flat_at f n l (fun x hx => hl x (by simp [hx])) k j x (by simpa using h) hj
/-- No two names are one. -/
def freshB : List ByteArray → Bool
  | [] => true
  | s :: r => r.all (fun t => !(t == s)) && freshB r
theorem fresh_spec : ∀ (l : List ByteArray), freshB l = true → ∀ (k : Nat) (s : ByteArray), l[k]? = some s → ∀ t ∈ l.take k, (s == t) = false
  | [], _, k, s, h, t, ht => by simp at h
  | a :: l, hf, 0, s, h, t, ht => by simp at ht
  | a :: l, hf, k + 1, s, h, t, ht => by
    simp only [freshB, Bool.and_eq_true, List.all_eq_true] at hf
    have h2 : l[k]? = some s := by simpa using h
    rw [List.take_succ_cons, List.mem_cons] at ht
    rcases ht with rfl | ht
    · have := hf.1 s (List.mem_of_getElem? h2)
      simpa using this
    · exact fresh_spec l hf.2 k s h2 t ht
def regNames : List ByteArray := ceT.map (·.1) ++ keT.map (·.1) ++ saT.map (·.1)
theorem reg_fresh : freshB regNames = true := by decide +kernel
theorem fresh_at {β : Type} (A C : List ByteArray) (T : List (ByteArray × β)) (f : ByteArray × β → ByteArray × Value) (hf : ∀ x, (f x).1 = x.1) (P : List (ByteArray × Value)) (hP : P.map (·.1) = A) (hfr : freshB (A ++ (T.map (·.1) ++ C)) = true)
    (k : Nat) (s : ByteArray) (b : β) (h : T[k]? = some (s, b)) : ∀ x ∈ P ++ (T.take k).map f, (s == x.1) = false := by
  have hk : k < T.length := by
    rcases Nat.lt_or_ge k T.length with h1 | h1
    · exact h1
    · rw [List.getElem?_eq_none h1] at h; cases h
  have h1 : (A ++ (T.map (·.1) ++ C))[A.length + k]? = some s := by
    rw [List.getElem?_append_right (by omega), Nat.add_sub_cancel_left, List.getElem?_append_left (by simpa using hk), List.getElem?_map, h]; rfl
  have h2 : (A ++ (T.map (·.1) ++ C)).take (A.length + k) = A ++ (T.take k).map (·.1) := by
    rw [List.take_length_add_append, List.take_append_of_le_length (by simpa using Nat.le_of_lt hk), List.map_take]
  intro x hx
  refine fresh_spec _ hfr _ s h1 x.1 ?_
  rw [h2]
  rcases List.mem_append.1 hx with hx | hx
  · exact List.mem_append_left _ (by rw [← hP]; exact List.mem_map_of_mem hx)
  · obtain ⟨y, hy, rfl⟩ := List.mem_map.1 hx
    exact List.mem_append_right _ (by rw [hf]; exact List.mem_map_of_mem hy)
theorem take_snoc {α : Type} (l : List α) (k : Nat) (x : α) (h : l[k]? = some x) : l.take (k + 1) = l.take k ++ [x] := by
  rw [List.take_add_one, h]; rfl
theorem put_cell {w : World} {M X j : Nat} (o : Obj) (h : X ≠ M) : ({ w with heap := w.heap.setIfInBounds M o } : World).cell? ⟨X, j, none⟩ = w.cell? ⟨X, j, none⟩ :=
  World.cell?_of_block (w := w) (a := ⟨X, j, none⟩) ((only_put w M o).block X h)
theorem ceT_at (k : Nat) (hk : k < 6) : ∃ s a, ceT[k]? = some (s, [a]) := by
  have h : ∀ x ∈ ceT, x.2.length = 1 := by decide +kernel
  have hl : ceT.length = 6 := rfl
  have hx := h (ceT[k]'(by omega)) (List.getElem_mem _)
  have he : ceT[k]? = some (ceT[k]'(by omega)) := List.getElem?_eq_getElem (by omega)
  generalize ceT[k]'(by omega) = x at he hx
  obtain ⟨s, l⟩ := x
  match l, hx with
  | [a], _ => exact ⟨s, a, he⟩
theorem ceStr (s : ByteArray) (a : Bool) (w : World) :
    Calls Tryz.prog 137 #[.agg #[.string s, .bool a]] w fun e w' => e = .returned (.string s) ∧ Below w.heap.size w w' := by
  go_enter Tryz.func137, Tryz.ntmps137
  go_wp2
  go_ret
  exact ⟨rfl, (Below.refl _ _).alloc (Nat.le_refl _) _⟩
theorem ceCells (k : Nat) (s : ByteArray) (a : Bool) (h : ceT[k]? = some (s, [a])) : (listCells ceT)[k * 2 + 0]? = some (.string s) ∧ (listCells ceT)[k * 2 + 1]? = some (.bool a) := by
  have h1 : ∀ x ∈ ceT, (algCells x).length = 2 := by decide +kernel
  unfold listCells
  refine ⟨?_, ?_⟩ <;> (rw [flat_at algCells 2 ceT h1 k _ _ h (by omega)]; rfl)
theorem keT_at (k : Nat) (hk : k < 19) : ∃ s a b, keT[k]? = some (s, [a, b]) := by
  have h : ∀ x ∈ keT, x.2.length = 2 := by decide +kernel
  have hl : keT.length = 19 := rfl
  have hx := h (keT[k]'(by omega)) (List.getElem_mem _)
  have he : keT[k]? = some (keT[k]'(by omega)) := List.getElem?_eq_getElem (by omega)
  generalize keT[k]'(by omega) = x at he hx
  obtain ⟨s, l⟩ := x
  match l, hx with
  | [a, b], _ => exact ⟨s, a, b, he⟩
theorem keStr (s : ByteArray) (a b : Bool) (w : World) :
    Calls Tryz.prog 136 #[.agg #[.string s, .bool a, .bool b]] w fun e w' => e = .returned (.string s) ∧ Below w.heap.size w w' := by
  go_enter Tryz.func136, Tryz.ntmps136
  go_wp2
  go_ret
  exact ⟨rfl, (Below.refl _ _).alloc (Nat.le_refl _) _⟩
theorem keCells (k : Nat) (s : ByteArray) (a b : Bool) (h : keT[k]? = some (s, [a, b])) : (listCells keT)[k * 3 + 0]? = some (.string s) ∧ (listCells keT)[k * 3 + 1]? = some (.bool a) ∧ (listCells keT)[k * 3 + 2]? = some (.bool b) := by
  have h1 : ∀ x ∈ keT, (algCells x).length = 3 := by decide +kernel
  unfold listCells
  refine ⟨?_, ?_, ?_⟩ <;> (rw [flat_at algCells 3 keT h1 k _ _ h (by omega)]; rfl)
theorem saT_at (k : Nat) (hk : k < 16) : ∃ s a b, saT[k]? = some (s, [a, b]) := by
  have h : ∀ x ∈ saT, x.2.length = 2 := by decide +kernel
  have hl : saT.length = 16 := rfl
  have hx := h (saT[k]'(by omega)) (List.getElem_mem _)
  have he : saT[k]? = some (saT[k]'(by omega)) := List.getElem?_eq_getElem (by omega)
  generalize saT[k]'(by omega) = x at he hx
  obtain ⟨s, l⟩ := x
  match l, hx with
  | [a, b], _ => exact ⟨s, a, b, he⟩
theorem saStr (s : ByteArray) (a b : Bool) (w : World) :
    Calls Tryz.prog 135 #[.agg #[.string s, .bool a, .bool b]] w fun e w' => e = .returned (.string s) ∧ Below w.heap.size w w' := by
  go_enter Tryz.func135, Tryz.ntmps135
  go_wp2
  go_ret
  exact ⟨rfl, (Below.refl _ _).alloc (Nat.le_refl _) _⟩
theorem saCells (k : Nat) (s : ByteArray) (a b : Bool) (h : saT[k]? = some (s, [a, b])) : (listCells saT)[k * 3 + 0]? = some (.string s) ∧ (listCells saT)[k * 3 + 1]? = some (.bool a) ∧ (listCells saT)[k * 3 + 2]? = some (.bool b) := by
  have h1 : ∀ x ∈ saT, (algCells x).length = 3 := by decide +kernel
  unfold listCells
  refine ⟨?_, ?_, ?_⟩ <;> (rw [flat_at algCells 3 saT h1 k _ _ h (by omega)]; rfl)

set_option maxRecDepth 100000 in
set_option maxHeartbeats 8000000 in
theorem registry (w : World) :
    Calls Tryz.prog 115 #[] w fun e w' => e = .returned (.map (some w.heap.size)) ∧ MapAt w' w.heap.size regT ∧ Below w.heap.size w w' := by
  have hmm := @run_makeMap Tryz.prog
  go_enter Tryz.func115, Tryz.ntmps115
  go_wp2_with fail
  have A0 : Hid (MapAt (w.alloc (.map #[] 0)) w.heap.size []) := Lib.hid (by unfold MapAt; rw [heap_alloc_new]; rfl)
  have B0 : Hid (Below w.heap.size w (w.alloc (.map #[] 0))) := Lib.hid ((Below.refl _ _).alloc (Nat.le_refl _) _)
  have hM0 : Hid (w.heap.size < (w.alloc (.map #[] 0)).heap.size) := Lib.hid (by simp)
  generalize w.alloc (.map #[] 0) = w0 at *
  clear hmm
  refine (ceList _).mono ?_
  rintro e w0a ⟨rfl, r0, b0⟩
  have D0 := Lib.hid r0
  have hD0 : Hid (w0.heap.size < w0a.heap.size) := Lib.hid r0.lt
  have A0a := Lib.hid (A0.out.below b0 hM0.out)
  have hMD0 : Hid (w.heap.size < w0.heap.size) := hM0
  have B0a := Lib.hid (B0.out.trans (b0.mono B0.out.size))
  clear r0 b0 A0 B0
  generalize w0.heap.size = d0 at *
  go_wp2_with fail
  go_loopw [3, 11] (fun _ idx wr => ∃ k : Nat, k ≤ 6 ∧ idx = .int .i64 k ∧ Hid (Row wr d0 228 (listCells ceT)) ∧ Hid (MapAt wr w.heap.size ([] ++ (ceT.take k).map ceE)) ∧ Hid (Below w.heap.size w wr) ∧ Hid (d0 < wr.heap.size)) (fun _ idx _ => 6 - (intOf idx).toNat)
  case atStart => exact ⟨0, by omega, rfl, D0, Lib.hid (by simpa using A0a.out), B0a, hD0⟩
  case round =>
    obtain ⟨k, hk, rfl, Dr, Ar, Br, hDr⟩ := hrel
    by_cases hlt : k < 6
    · obtain ⟨s, a, hT⟩ := ceT_at k hlt
      have hc := ceCells k s a hT
      have c0 : wr.cell? ⟨d0, k * 2, none⟩ = some (.string s) := by rw [Dr.out.cell]; exact hc.1
      have c1 : wr.cell? ⟨d0, k * 2 + 1, none⟩ = some (.bool a) := by rw [Dr.out.cell]; exact hc.2
      have hki : (k : Int) < 6 := by omega
      have HT := Lib.hid hT
      clear hT hc
      have hfr : ∀ x ∈ [] ++ (ceT.take k).map ceE, (s == x.1) = false := fresh_at [] (keT.map (·.1) ++ saT.map (·.1)) ceT ceE (fun _ => rfl) ([]) rfl (by have h := reg_fresh; simpa [regNames] using h) k s _ HT.out
      obtain ⟨L, hL⟩ : ∃ L, [] ++ (ceT.take k).map ceE = L := ⟨_, rfl⟩
      rw [hL] at hfr Ar
      have HL := Lib.hid hL
      clear hL
      have hput := fun (wy : World) (hA : MapAt wy w.heap.size L) => run_mapPut (P := Tryz.prog) 250 9 248 Tryz.underlying250 Tryz.underlying9 w.heap.size L s (.agg #[.int .u8 3, .iface 228 (.agg #[.string s, .bool a]), .bool true]) hfr wy hA
      clear hfr
      go_upto_region 5 with (fail)
      obtain ⟨wx, hwx⟩ : ∃ wx : World, wx = wr.alloc (.cells #[.string s, .bool a] 228) := ⟨_, rfl⟩
      rw [← hwx]
      have Xr : Row wx wr.heap.size 228 [.string s, .bool a] := by rw [hwx]; exact Row.new wr _ _ _ rfl
      have Dx := Lib.hid (show Row wx d0 _ _ by rw [hwx]; exact Dr.out.allocd _)
      have Ax : MapAt wx w.heap.size L := by rw [hwx]; exact Ar.out.below ((Below.refl _ _).alloc (Nat.le_refl _) _) Ar.out.lt
      have Bx := Lib.hid (show Below w.heap.size w wx by rw [hwx]; exact Br.out.trans (((Below.refl _ _).alloc (Nat.le_refl _) _).mono Br.out.size))
      have hX : wr.heap.size < wx.heap.size := Xr.lt
      have hXM : wr.heap.size ≠ w.heap.size := by have := Ar.out.lt; omega
      have hDx : d0 < wx.heap.size := by have := hDr.out; omega
      have hMx : w.heap.size < wx.heap.size := by have := Ar.out.lt; omega
      have x0 : wx.cell? ⟨wr.heap.size, 0, none⟩ = some (.string s) := by rw [Xr.cell]; rfl
      have x1 : wx.cell? ⟨wr.heap.size, 1, none⟩ = some (.bool a) := by rw [Xr.cell]; rfl
      have hpc : ∀ (wy : World) (o : Obj) (j : Nat), ({ wy with heap := wy.heap.setIfInBounds w.heap.size o } : World).cell? ⟨wr.heap.size, j, none⟩ = wy.cell? ⟨wr.heap.size, j, none⟩ := fun wy o j => put_cell o hXM
      clear hwx Xr c0 c1 Dr Ar Br hDr
      generalize wr.heap.size = X at *
      have hDM := hMD0.out
      go_region_held3 (fun w' => w'.cell? ⟨X, 0, none⟩ = some (.string s) ∧ w'.cell? ⟨X, 1, none⟩ = some (.bool a)) (first | go_keep | exact ⟨(b1.cell (p := ⟨X, 0, none⟩) hX).trans x0, (b1.cell (p := ⟨X, 1, none⟩) hX).trans x1⟩) (first | (go_at_call 137; refine (ceStr _ _ _).mono ?_; rintro e wy ⟨rfl, b1⟩; have Ay := (show MapAt wx.drew _ _ from Ax).below b1 hMx; have hu := hput wy Ay; have Ay := Lib.hid Ay))
      obtain ⟨wz, hwz⟩ : ∃ wz : World, wz = { wy with heap := wy.heap.setIfInBounds w.heap.size (.map (ents (L ++ [(s, .agg #[.int .u8 3, .iface 228 (.agg #[.string s, .bool a]), .bool true])]) 0).toArray (L.length + 1)) } := ⟨_, rfl⟩
      rw [← hwz]
      have Az := Lib.hid (show MapAt wz w.heap.size (L ++ [(s, .agg #[.int .u8 3, .iface 228 (.agg #[.string s, .bool a]), .bool true])]) by rw [hwz]; exact Ay.out.put _ _)
      have Oz : Only w.heap.size wy wz := by rw [hwz]; exact only_put _ _ _
      have b2 : Below wx.heap.size wx wy := ⟨b1.os, b1.tape, b1.output, b1.size, b1.block⟩
      have Dz := Lib.hid ((Dx.out.below b2 hDx).only Oz (by omega))
      have Bz := Lib.hid ((Bx.out.trans (b2.mono Bx.out.size)).trans (Oz.below (Nat.le_refl _)))
      have hDz := Lib.hid (show d0 < wz.heap.size by rw [Oz.size]; exact Nat.lt_of_lt_of_le hDx b2.size)
      clear hwz Oz b1 b2 hu hput x0 x1 hpc Ax Dx Bx Ay hX hXM hDx hMx
      go_wp2_with fail
      go_roundw
      case rel =>
        refine ⟨k + 1, by omega, by go_num, Dz, ?_, Bz, hDz⟩
        rw [take_snoc _ _ _ HT.out, List.map_append, ← List.append_assoc, HL.out]
        exact Az
      case measure => simp [intOf]; omega
    · obtain rfl : k = 6 := by omega
      obtain ⟨w1, rfl⟩ : ∃ w1 : World, w1 = wr := ⟨_, rfl⟩
      have A1 : Hid (MapAt w1 w.heap.size (ceT.map ceE)) := Lib.hid (by have h := Ar.out; rw [List.take_of_length_le (by decide +kernel)] at h; exact h)
      have B1 := Br
      have hM1 := Lib.hid Ar.out.lt
      clear Ar Br Dr hDr D0 A0a B0a hD0 hMD0 hM0
      go_wp2_with fail
      refine (keList _).mono ?_
      rintro e w1a ⟨rfl, r1, b1⟩
      have D1 := Lib.hid r1
      have hD1 : Hid (w1.heap.size < w1a.heap.size) := Lib.hid r1.lt
      have A1a := Lib.hid (A1.out.below b1 hM1.out)
      have hMD1 : Hid (w.heap.size < w1.heap.size) := hM1
      have B1a := Lib.hid (B1.out.trans (b1.mono B1.out.size))
      clear r1 b1 A1 B1
      generalize w1.heap.size = d1 at *
      go_wp2_with fail
      go_loopw [5, 24] (fun _ idx wr => ∃ k : Nat, k ≤ 19 ∧ idx = .int .i64 k ∧ Hid (Row wr d1 226 (listCells keT)) ∧ Hid (MapAt wr w.heap.size (ceT.map ceE ++ (keT.take k).map keE)) ∧ Hid (Below w.heap.size w wr) ∧ Hid (d1 < wr.heap.size)) (fun _ idx _ => 19 - (intOf idx).toNat)
      case atStart => exact ⟨0, by omega, rfl, D1, Lib.hid (by simpa using A1a.out), B1a, hD1⟩
      case round =>
        obtain ⟨k, hk, rfl, Dr, Ar, Br, hDr⟩ := hrel
        by_cases hlt : k < 19
        · obtain ⟨s, a, b, hT⟩ := keT_at k hlt
          have hc := keCells k s a b hT
          have c0 : wr.cell? ⟨d1, k * 3, none⟩ = some (.string s) := by rw [Dr.out.cell]; exact hc.1
          have c1 : wr.cell? ⟨d1, k * 3 + 1, none⟩ = some (.bool a) := by rw [Dr.out.cell]; exact hc.2.1
          have c2 : wr.cell? ⟨d1, k * 3 + 2, none⟩ = some (.bool b) := by rw [Dr.out.cell]; exact hc.2.2
          have hki : (k : Int) < 19 := by omega
          have HT := Lib.hid hT
          clear hT hc
          have hfr : ∀ x ∈ ceT.map ceE ++ (keT.take k).map keE, (s == x.1) = false := fresh_at (ceT.map (·.1)) (saT.map (·.1)) keT keE (fun _ => rfl) (ceT.map ceE) (by rw [List.map_map]; rfl) (by have h := reg_fresh; simpa [regNames] using h) k s _ HT.out
          obtain ⟨L, hL⟩ : ∃ L, ceT.map ceE ++ (keT.take k).map keE = L := ⟨_, rfl⟩
          rw [hL] at hfr Ar
          have HL := Lib.hid hL
          clear hL
          have hput := fun (wy : World) (hA : MapAt wy w.heap.size L) => run_mapPut (P := Tryz.prog) 250 9 248 Tryz.underlying250 Tryz.underlying9 w.heap.size L s (.agg #[.int .u8 2, .iface 226 (.agg #[.string s, .bool a, .bool b]), .bool true]) hfr wy hA
          clear hfr
          go_upto_region 10 with (fail)
          obtain ⟨wx, hwx⟩ : ∃ wx : World, wx = wr.alloc (.cells #[.string s, .bool a, .bool b] 226) := ⟨_, rfl⟩
          rw [← hwx]
          have Xr : Row wx wr.heap.size 226 [.string s, .bool a, .bool b] := by rw [hwx]; exact Row.new wr _ _ _ rfl
          have Dx := Lib.hid (show Row wx d1 _ _ by rw [hwx]; exact Dr.out.allocd _)
          have Ax : MapAt wx w.heap.size L := by rw [hwx]; exact Ar.out.below ((Below.refl _ _).alloc (Nat.le_refl _) _) Ar.out.lt
          have Bx := Lib.hid (show Below w.heap.size w wx by rw [hwx]; exact Br.out.trans (((Below.refl _ _).alloc (Nat.le_refl _) _).mono Br.out.size))
          have hX : wr.heap.size < wx.heap.size := Xr.lt
          have hXM : wr.heap.size ≠ w.heap.size := by have := Ar.out.lt; omega
          have hDx : d1 < wx.heap.size := by have := hDr.out; omega
          have hMx : w.heap.size < wx.heap.size := by have := Ar.out.lt; omega
          have x0 : wx.cell? ⟨wr.heap.size, 0, none⟩ = some (.string s) := by rw [Xr.cell]; rfl
          have x1 : wx.cell? ⟨wr.heap.size, 1, none⟩ = some (.bool a) := by rw [Xr.cell]; rfl
          have x2 : wx.cell? ⟨wr.heap.size, 2, none⟩ = some (.bool b) := by rw [Xr.cell]; rfl
          have hpc : ∀ (wy : World) (o : Obj) (j : Nat), ({ wy with heap := wy.heap.setIfInBounds w.heap.size o } : World).cell? ⟨wr.heap.size, j, none⟩ = wy.cell? ⟨wr.heap.size, j, none⟩ := fun wy o j => put_cell o hXM
          clear hwx Xr c0 c1 c2 Dr Ar Br hDr
          generalize wr.heap.size = X at *
          have hDM := hMD1.out
          go_region_held3 (fun w' => w'.cell? ⟨X, 0, none⟩ = some (.string s) ∧ w'.cell? ⟨X, 1, none⟩ = some (.bool a) ∧ w'.cell? ⟨X, 2, none⟩ = some (.bool b)) (first | go_keep | exact ⟨(b1.cell (p := ⟨X, 0, none⟩) hX).trans x0, (b1.cell (p := ⟨X, 1, none⟩) hX).trans x1, (b1.cell (p := ⟨X, 2, none⟩) hX).trans x2⟩) (first | (go_at_call 136; refine (keStr _ _ _ _).mono ?_; rintro e wy ⟨rfl, b1⟩; have Ay := (show MapAt wx.drew _ _ from Ax).below b1 hMx; have hu := hput wy Ay; have Ay := Lib.hid Ay))
          obtain ⟨wz, hwz⟩ : ∃ wz : World, wz = { wy with heap := wy.heap.setIfInBounds w.heap.size (.map (ents (L ++ [(s, .agg #[.int .u8 2, .iface 226 (.agg #[.string s, .bool a, .bool b]), .bool true])]) 0).toArray (L.length + 1)) } := ⟨_, rfl⟩
          rw [← hwz]
          have Az := Lib.hid (show MapAt wz w.heap.size (L ++ [(s, .agg #[.int .u8 2, .iface 226 (.agg #[.string s, .bool a, .bool b]), .bool true])]) by rw [hwz]; exact Ay.out.put _ _)
          have Oz : Only w.heap.size wy wz := by rw [hwz]; exact only_put _ _ _
          have b2 : Below wx.heap.size wx wy := ⟨b1.os, b1.tape, b1.output, b1.size, b1.block⟩
          have Dz := Lib.hid ((Dx.out.below b2 hDx).only Oz (by omega))
          have Bz := Lib.hid ((Bx.out.trans (b2.mono Bx.out.size)).trans (Oz.below (Nat.le_refl _)))
          have hDz := Lib.hid (show d1 < wz.heap.size by rw [Oz.size]; exact Nat.lt_of_lt_of_le hDx b2.size)
          clear hwz Oz b1 b2 hu hput x0 x1 hpc Ax Dx Bx Ay hX hXM hDx hMx x2
          go_wp2_with fail
          go_roundw
          case rel =>
            refine ⟨k + 1, by omega, by go_num, Dz, ?_, Bz, hDz⟩
            rw [take_snoc _ _ _ HT.out, List.map_append, ← List.append_assoc, HL.out]
            exact Az
          case measure => simp [intOf]; omega
        · obtain rfl : k = 19 := by omega
          obtain ⟨w2, rfl⟩ : ∃ w2 : World, w2 = wr := ⟨_, rfl⟩
          have A2 : Hid (MapAt w2 w.heap.size (ceT.map ceE ++ keT.map keE)) := Lib.hid (by have h := Ar.out; rw [List.take_of_length_le (by decide +kernel)] at h; exact h)
          have B2 := Br
          have hM2 := Lib.hid Ar.out.lt
          clear Ar Br Dr hDr D1 A1a B1a hD1 hMD1 hM1
          go_wp2_with fail
          refine (saList _).mono ?_
          rintro e w2a ⟨rfl, r2, b2⟩
          have D2 := Lib.hid r2
          have hD2 : Hid (w2.heap.size < w2a.heap.size) := Lib.hid r2.lt
          have A2a := Lib.hid (A2.out.below b2 hM2.out)
          have hMD2 : Hid (w.heap.size < w2.heap.size) := hM2
          have B2a := Lib.hid (B2.out.trans (b2.mono B2.out.size))
          clear r2 b2 A2 B2
          generalize w2.heap.size = d2 at *
          go_wp2_with fail
          go_loopw [7, 37] (fun _ idx wr => ∃ k : Nat, k ≤ 16 ∧ idx = .int .i64 k ∧ Hid (Row wr d2 112 (listCells saT)) ∧ Hid (MapAt wr w.heap.size (ceT.map ceE ++ keT.map keE ++ (saT.take k).map saE)) ∧ Hid (Below w.heap.size w wr) ∧ Hid (d2 < wr.heap.size)) (fun _ idx _ => 16 - (intOf idx).toNat)
          case atStart => exact ⟨0, by omega, rfl, D2, Lib.hid (by simpa using A2a.out), B2a, hD2⟩
          case round =>
            obtain ⟨k, hk, rfl, Dr, Ar, Br, hDr⟩ := hrel
            by_cases hlt : k < 16
            · obtain ⟨s, a, b, hT⟩ := saT_at k hlt
              have hc := saCells k s a b hT
              have c0 : wr.cell? ⟨d2, k * 3, none⟩ = some (.string s) := by rw [Dr.out.cell]; exact hc.1
              have c1 : wr.cell? ⟨d2, k * 3 + 1, none⟩ = some (.bool a) := by rw [Dr.out.cell]; exact hc.2.1
              have c2 : wr.cell? ⟨d2, k * 3 + 2, none⟩ = some (.bool b) := by rw [Dr.out.cell]; exact hc.2.2
              have hki : (k : Int) < 16 := by omega
              have HT := Lib.hid hT
              clear hT hc
              have hfr : ∀ x ∈ ceT.map ceE ++ keT.map keE ++ (saT.take k).map saE, (s == x.1) = false := fresh_at (ceT.map (·.1) ++ keT.map (·.1)) [] saT saE (fun _ => rfl) (ceT.map ceE ++ keT.map keE) (by rw [List.map_append, List.map_map, List.map_map]; rfl) (by have h := reg_fresh; simpa [regNames] using h) k s _ HT.out
              obtain ⟨L, hL⟩ : ∃ L, ceT.map ceE ++ keT.map keE ++ (saT.take k).map saE = L := ⟨_, rfl⟩
              rw [hL] at hfr Ar
              have HL := Lib.hid hL
              clear hL
              have hput := fun (wy : World) (hA : MapAt wy w.heap.size L) => run_mapPut (P := Tryz.prog) 250 9 248 Tryz.underlying250 Tryz.underlying9 w.heap.size L s (.agg #[.int .u8 1, .iface 112 (.agg #[.string s, .bool a, .bool b]), .bool true]) hfr wy hA
              clear hfr
              go_upto_region 15 with (fail)
              obtain ⟨wx, hwx⟩ : ∃ wx : World, wx = wr.alloc (.cells #[.string s, .bool a, .bool b] 112) := ⟨_, rfl⟩
              rw [← hwx]
              have Xr : Row wx wr.heap.size 112 [.string s, .bool a, .bool b] := by rw [hwx]; exact Row.new wr _ _ _ rfl
              have Dx := Lib.hid (show Row wx d2 _ _ by rw [hwx]; exact Dr.out.allocd _)
              have Ax : MapAt wx w.heap.size L := by rw [hwx]; exact Ar.out.below ((Below.refl _ _).alloc (Nat.le_refl _) _) Ar.out.lt
              have Bx := Lib.hid (show Below w.heap.size w wx by rw [hwx]; exact Br.out.trans (((Below.refl _ _).alloc (Nat.le_refl _) _).mono Br.out.size))
              have hX : wr.heap.size < wx.heap.size := Xr.lt
              have hXM : wr.heap.size ≠ w.heap.size := by have := Ar.out.lt; omega
              have hDx : d2 < wx.heap.size := by have := hDr.out; omega
              have hMx : w.heap.size < wx.heap.size := by have := Ar.out.lt; omega
              have x0 : wx.cell? ⟨wr.heap.size, 0, none⟩ = some (.string s) := by rw [Xr.cell]; rfl
              have x1 : wx.cell? ⟨wr.heap.size, 1, none⟩ = some (.bool a) := by rw [Xr.cell]; rfl
              have x2 : wx.cell? ⟨wr.heap.size, 2, none⟩ = some (.bool b) := by rw [Xr.cell]; rfl
              have hpc : ∀ (wy : World) (o : Obj) (j : Nat), ({ wy with heap := wy.heap.setIfInBounds w.heap.size o } : World).cell? ⟨wr.heap.size, j, none⟩ = wy.cell? ⟨wr.heap.size, j, none⟩ := fun wy o j => put_cell o hXM
              clear hwx Xr c0 c1 c2 Dr Ar Br hDr
              generalize wr.heap.size = X at *
              have hDM := hMD2.out
              go_region_held3 (fun w' => w'.cell? ⟨X, 0, none⟩ = some (.string s) ∧ w'.cell? ⟨X, 1, none⟩ = some (.bool a) ∧ w'.cell? ⟨X, 2, none⟩ = some (.bool b)) (first | go_keep | exact ⟨(b1.cell (p := ⟨X, 0, none⟩) hX).trans x0, (b1.cell (p := ⟨X, 1, none⟩) hX).trans x1, (b1.cell (p := ⟨X, 2, none⟩) hX).trans x2⟩) (first | (go_at_call 135; refine (saStr _ _ _ _).mono ?_; rintro e wy ⟨rfl, b1⟩; have Ay := (show MapAt wx.drew _ _ from Ax).below b1 hMx; have hu := hput wy Ay; have Ay := Lib.hid Ay))
              obtain ⟨wz, hwz⟩ : ∃ wz : World, wz = { wy with heap := wy.heap.setIfInBounds w.heap.size (.map (ents (L ++ [(s, .agg #[.int .u8 1, .iface 112 (.agg #[.string s, .bool a, .bool b]), .bool true])]) 0).toArray (L.length + 1)) } := ⟨_, rfl⟩
              rw [← hwz]
              have Az := Lib.hid (show MapAt wz w.heap.size (L ++ [(s, .agg #[.int .u8 1, .iface 112 (.agg #[.string s, .bool a, .bool b]), .bool true])]) by rw [hwz]; exact Ay.out.put _ _)
              have Oz : Only w.heap.size wy wz := by rw [hwz]; exact only_put _ _ _
              have b2 : Below wx.heap.size wx wy := ⟨b1.os, b1.tape, b1.output, b1.size, b1.block⟩
              have Dz := Lib.hid ((Dx.out.below b2 hDx).only Oz (by omega))
              have Bz := Lib.hid ((Bx.out.trans (b2.mono Bx.out.size)).trans (Oz.below (Nat.le_refl _)))
              have hDz := Lib.hid (show d2 < wz.heap.size by rw [Oz.size]; exact Nat.lt_of_lt_of_le hDx b2.size)
              clear hwz Oz b1 b2 hu hput x0 x1 hpc Ax Dx Bx Ay hX hXM hDx hMx x2
              go_wp2_with fail
              go_roundw
              case rel =>
                refine ⟨k + 1, by omega, by go_num, Dz, ?_, Bz, hDz⟩
                rw [take_snoc _ _ _ HT.out, List.map_append, ← List.append_assoc, HL.out]
                exact Az
              case measure => simp [intOf]; omega
            · obtain rfl : k = 16 := by omega
              obtain ⟨w3, rfl⟩ : ∃ w3 : World, w3 = wr := ⟨_, rfl⟩
              have A3 : Hid (MapAt w3 w.heap.size (ceT.map ceE ++ keT.map keE ++ saT.map saE)) := Lib.hid (by have h := Ar.out; rw [List.take_of_length_le (by decide +kernel)] at h; exact h)
              have B3 := Br
              have hM3 := Lib.hid Ar.out.lt
              clear Ar Br Dr hDr D2 A2a B2a hD2 hMD2 hM2
              go_wp2_with fail
              go_ret
              exact ⟨rfl, A3.out, B3.out⟩
end Go.Proofs.YtaemdppihpefnaaGreatDoor
