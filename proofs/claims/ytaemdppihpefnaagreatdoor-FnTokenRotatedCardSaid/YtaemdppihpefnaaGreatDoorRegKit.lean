/- The built-in algorithms of pub/jwx/jwa: what the three lists hold. -/
import Derived.Test.YtaemdppihpefnaaGreatDoorHashKit
import Derived.Test.YtaemdppihpefnaaGreatDoorProg
import Derived.Deep.DeepCutAuto
import Derived.Outline
import Derived.Deep.RegionHeld3
import Derived.LoopTactic
import Derived.Carry
import Derived.Test.YtaemdppihpefnaaGreatDoorMacKit
import Derived.Laws.StructEq
import Derived.Laws.Externs
import Derived.Laws.BitsAllLaws
import Derived.BigRegion
import Derived.Deep.QuietTactic
import Derived.BigQuiet
namespace Go.Proofs.YtaemdppihpefnaaGreatDoor
open Go.RowKit
set_option linter.unusedVariables false

/-- The algorithms of content encryption: names, and flags. -/
def ceT : List (ByteArray × List Bool) := [
  (⟨#[65, 49, 50, 56, 67, 66, 67, 45, 72, 83, 50, 53, 54]⟩, [false]),
  (⟨#[65, 49, 50, 56, 71, 67, 77]⟩, [false]),
  (⟨#[65, 49, 57, 50, 67, 66, 67, 45, 72, 83, 51, 56, 52]⟩, [false]),
  (⟨#[65, 49, 57, 50, 71, 67, 77]⟩, [false]),
  (⟨#[65, 50, 53, 54, 67, 66, 67, 45, 72, 83, 53, 49, 50]⟩, [false]),
  (⟨#[65, 50, 53, 54, 71, 67, 77]⟩, [false])]
/-- The algorithms of key encryption: names, and flags. -/
def keT : List (ByteArray × List Bool) := [
  (⟨#[65, 49, 50, 56, 71, 67, 77, 75, 87]⟩, [false, true]),
  (⟨#[65, 49, 50, 56, 75, 87]⟩, [false, true]),
  (⟨#[65, 49, 57, 50, 71, 67, 77, 75, 87]⟩, [false, true]),
  (⟨#[65, 49, 57, 50, 75, 87]⟩, [false, true]),
  (⟨#[65, 50, 53, 54, 71, 67, 77, 75, 87]⟩, [false, true]),
  (⟨#[65, 50, 53, 54, 75, 87]⟩, [false, true]),
  (⟨#[100, 105, 114]⟩, [false, true]),
  (⟨#[69, 67, 68, 72, 45, 69, 83]⟩, [false, false]),
  (⟨#[69, 67, 68, 72, 45, 69, 83, 43, 65, 49, 50, 56, 75, 87]⟩, [false, false]),
  (⟨#[69, 67, 68, 72, 45, 69, 83, 43, 65, 49, 57, 50, 75, 87]⟩, [false, false]),
  (⟨#[69, 67, 68, 72, 45, 69, 83, 43, 65, 50, 53, 54, 75, 87]⟩, [false, false]),
  (⟨#[80, 66, 69, 83, 50, 45, 72, 83, 50, 53, 54, 43, 65, 49, 50, 56, 75, 87]⟩, [false, true]),
  (⟨#[80, 66, 69, 83, 50, 45, 72, 83, 51, 56, 52, 43, 65, 49, 57, 50, 75, 87]⟩, [false, true]),
  (⟨#[80, 66, 69, 83, 50, 45, 72, 83, 53, 49, 50, 43, 65, 50, 53, 54, 75, 87]⟩, [false, true]),
  (⟨#[82, 83, 65, 49, 95, 53]⟩, [true, false]),
  (⟨#[82, 83, 65, 45, 79, 65, 69, 80]⟩, [false, false]),
  (⟨#[82, 83, 65, 45, 79, 65, 69, 80, 45, 50, 53, 54]⟩, [false, false]),
  (⟨#[82, 83, 65, 45, 79, 65, 69, 80, 45, 51, 56, 52]⟩, [false, false]),
  (⟨#[82, 83, 65, 45, 79, 65, 69, 80, 45, 53, 49, 50]⟩, [false, false])]
/-- The algorithms of signature: names, and flags. -/
def saT : List (ByteArray × List Bool) := [
  (⟨#[69, 83, 50, 53, 54]⟩, [false, false]),
  (⟨#[69, 83, 50, 53, 54, 75]⟩, [false, false]),
  (⟨#[69, 83, 51, 56, 52]⟩, [false, false]),
  (⟨#[69, 83, 53, 49, 50]⟩, [false, false]),
  (⟨#[69, 100, 68, 83, 65]⟩, [true, false]),
  (⟨#[69, 100, 50, 53, 53, 49, 57]⟩, [false, false]),
  (⟨#[72, 83, 50, 53, 54]⟩, [false, true]),
  (⟨#[72, 83, 51, 56, 52]⟩, [false, true]),
  (⟨#[72, 83, 53, 49, 50]⟩, [false, true]),
  (⟨#[110, 111, 110, 101]⟩, [false, false]),
  (⟨#[80, 83, 50, 53, 54]⟩, [false, false]),
  (⟨#[80, 83, 51, 56, 52]⟩, [false, false]),
  (⟨#[80, 83, 53, 49, 50]⟩, [false, false]),
  (⟨#[82, 83, 50, 53, 54]⟩, [false, false]),
  (⟨#[82, 83, 51, 56, 52]⟩, [false, false]),
  (⟨#[82, 83, 53, 49, 50]⟩, [false, false])]
/-- The cells of such an algorithm; of a list of them. -/
def algCells (x : ByteArray × List Bool) : List Value := .string x.1 :: x.2.map Value.bool
def listCells (l : List (ByteArray × List Bool)) : List Value := l.flatMap algCells
def ceZ : List Value := listCells (List.replicate 6 (⟨#[]⟩, [false]))
def keZ : List Value := listCells (List.replicate 19 (⟨#[]⟩, [false, false]))
def saZ : List Value := listCells (List.replicate 16 (⟨#[]⟩, [false, false]))
theorem one_sb2 (s : ByteArray) (a : Bool) : ∀ v ∈ [Value.string s, .bool a], v.oneCell' = true := by
  intro v hv; simp only [List.mem_cons, List.not_mem_nil, or_false] at hv; rcases hv with rfl | rfl <;> rfl
theorem one_sb3 (s : ByteArray) (a b : Bool) : ∀ v ∈ [Value.string s, .bool a, .bool b], v.oneCell' = true := by
  intro v hv; simp only [List.mem_cons, List.not_mem_nil, or_false] at hv; rcases hv with rfl | rfl | rfl <;> rfl
/-- A row of so many cells. -/
def RowN (w : World) (g : Nat) (t : TypeId) (cur : List Value) (n : Nat) : Prop := Row w g t cur ∧ cur.length = n
theorem RowN.splice {w' : World} {g : Nat} {t : TypeId} {cur cs : List Value} {n off : Nat} (h : cur.length = n) (r : Row w' g t (_root_.Go.splice cur off cs)) (hl : off + cs.length ≤ n) : RowN w' g t (_root_.Go.splice cur off cs) n :=
  ⟨r, by rw [length_splice _ _ _ (by omega)]; exact h⟩

set_option maxRecDepth 100000 in
theorem ceNew (s : ByteArray) (w : World) :
    Calls Tryz.prog 168 #[.string s] w fun e w' => e = .returned (.agg #[.string s, .bool false]) ∧ Below w.heap.size w w' := by
  go_enter Tryz.func168, Tryz.ntmps168
  go_wp2
  refine bodyPost_ret (v := .agg #[.string s, .bool false]) (by simp [results, Tryz.results168, go_sem]) rfl ⟨rfl, ?_⟩
  exact (Below.refl _ _).alloc (Nat.le_refl _) _

set_option maxRecDepth 100000 in
set_option maxHeartbeats 4000000 in
theorem ceList (w : World) :
    Calls Tryz.prog 144 #[] w fun e w' => e = .returned (.slice (some ⟨w.heap.size, 0, none⟩) 6 6) ∧ Row w' w.heap.size 228 (listCells ceT) ∧ Below w.heap.size w w' := by
  have hmk : ∀ wx : World, (Instr.makeSlice 286 (.int .i64 6) (.int .i64 6)).run Tryz.prog wx = .ok (.slice (some ⟨wx.heap.size, 0, none⟩) 6 6) (wx.alloc (.cells ceZ.toArray 228)) := fun _ => by kernel_rfl
  have hi : (Tryz.prog.info? 228).map (·.size) = some 2 := by kernel_rfl
  have hi := Lib.hid hi
  go_enter Tryz.func144, Tryz.ntmps144
  go_upto_region 2 with (fail)
  have R : Hid (RowN (w.alloc (.cells ceZ.toArray 228)) w.heap.size 228 ceZ 12) := Lib.hid ⟨Row.alloc w _ _, by kernel_rfl⟩
  have B : Hid (Below w.heap.size w (w.alloc (.cells ceZ.toArray 228))) := Lib.hid ((Below.refl _ _).alloc (Nat.le_refl _) _)
  generalize w.alloc (.cells ceZ.toArray 228) = w1 at *
  clear hmk
  go_wp2_with (first | (go_at_call 168; refine (ceNew _ _).mono ?_; rintro e wn ⟨rfl, bn⟩; have Rn := Lib.hid (⟨R.out.1.below bn R.out.1.lt, R.out.2⟩ : RowN _ _ _ _ _); have Bn := Lib.hid (B.out.trans (bn.mono B.out.size)); clear R B bn; have R := Rn; have B := Bn; clear Rn Bn) | (refine wpl_store_part rfl _ _ _ rfl _ rfl w.heap.size _ rfl 228 _ R.out.1 (by rw [R.out.2]; decide) hi.out (one_sb2 _ _) ?_; intro wn rn on; have Rn := Lib.hid (RowN.splice R.out.2 rn (by decide)); have Bn := Lib.hid (B.out.trans (on.below (Nat.le_refl _))); clear R B rn on; have R := Rn; have B := Bn; clear Rn Bn))
  go_ret
  refine ⟨rfl, ?_, B.out⟩
  have r := R.out.1
  refine Eq.mp ?_ r
  exact congrArg (Row _ _ _) (by kernel_rfl)

set_option maxRecDepth 100000 in
theorem keNew (s : ByteArray) (w : World) :
    Calls Tryz.prog 169 #[.string s] w fun e w' => e = .returned (.agg #[.string s, .bool false, .bool false]) ∧ Below w.heap.size w w' := by
  go_enter Tryz.func169, Tryz.ntmps169
  go_wp2
  refine bodyPost_ret (v := .agg #[.string s, .bool false, .bool false]) (by simp [results, Tryz.results169, go_sem]) rfl ⟨rfl, ?_⟩
  exact (Below.refl _ _).alloc (Nat.le_refl _) _

set_option maxRecDepth 100000 in
set_option maxHeartbeats 4000000 in
theorem keList (w : World) :
    Calls Tryz.prog 145 #[] w fun e w' => e = .returned (.slice (some ⟨w.heap.size, 0, none⟩) 19 19) ∧ Row w' w.heap.size 226 (listCells keT) ∧ Below w.heap.size w w' := by
  have hmk : ∀ wx : World, (Instr.makeSlice 288 (.int .i64 19) (.int .i64 19)).run Tryz.prog wx = .ok (.slice (some ⟨wx.heap.size, 0, none⟩) 19 19) (wx.alloc (.cells keZ.toArray 226)) := fun _ => by kernel_rfl
  have hi : (Tryz.prog.info? 226).map (·.size) = some 3 := by kernel_rfl
  have hi := Lib.hid hi
  go_enter Tryz.func145, Tryz.ntmps145
  go_upto_region 2 with (fail)
  have R : Hid (RowN (w.alloc (.cells keZ.toArray 226)) w.heap.size 226 keZ 57) := Lib.hid ⟨Row.alloc w _ _, by kernel_rfl⟩
  have B : Hid (Below w.heap.size w (w.alloc (.cells keZ.toArray 226))) := Lib.hid ((Below.refl _ _).alloc (Nat.le_refl _) _)
  generalize w.alloc (.cells keZ.toArray 226) = w1 at *
  clear hmk
  go_wp2_with (first | (go_at_call 169; refine (keNew _ _).mono ?_; rintro e wn ⟨rfl, bn⟩; have Rn := Lib.hid (⟨R.out.1.below bn R.out.1.lt, R.out.2⟩ : RowN _ _ _ _ _); have Bn := Lib.hid (B.out.trans (bn.mono B.out.size)); clear R B bn; have R := Rn; have B := Bn; clear Rn Bn) | (refine wpl_store_part rfl _ _ _ rfl _ rfl w.heap.size _ rfl 226 _ R.out.1 (by rw [R.out.2]; decide) hi.out (one_sb3 _ _ _) ?_; intro wn rn on; have Rn := Lib.hid (RowN.splice R.out.2 rn (by decide)); have Bn := Lib.hid (B.out.trans (on.below (Nat.le_refl _))); clear R B rn on; have R := Rn; have B := Bn; clear Rn Bn))
  go_ret
  refine ⟨rfl, ?_, B.out⟩
  have r := R.out.1
  refine Eq.mp ?_ r
  exact congrArg (Row _ _ _) (by kernel_rfl)

set_option maxRecDepth 100000 in
theorem saNew (s : ByteArray) (w : World) :
    Calls Tryz.prog 170 #[.string s] w fun e w' => e = .returned (.agg #[.string s, .bool false, .bool false]) ∧ Below w.heap.size w w' := by
  go_enter Tryz.func170, Tryz.ntmps170
  go_wp2
  refine bodyPost_ret (v := .agg #[.string s, .bool false, .bool false]) (by simp [results, Tryz.results170, go_sem]) rfl ⟨rfl, ?_⟩
  exact (Below.refl _ _).alloc (Nat.le_refl _) _

set_option maxRecDepth 100000 in
set_option maxHeartbeats 4000000 in
theorem saList (w : World) :
    Calls Tryz.prog 146 #[] w fun e w' => e = .returned (.slice (some ⟨w.heap.size, 0, none⟩) 16 16) ∧ Row w' w.heap.size 112 (listCells saT) ∧ Below w.heap.size w w' := by
  have hmk : ∀ wx : World, (Instr.makeSlice 290 (.int .i64 16) (.int .i64 16)).run Tryz.prog wx = .ok (.slice (some ⟨wx.heap.size, 0, none⟩) 16 16) (wx.alloc (.cells saZ.toArray 112)) := fun _ => by kernel_rfl
  have hi : (Tryz.prog.info? 112).map (·.size) = some 3 := by kernel_rfl
  have hi := Lib.hid hi
  go_enter Tryz.func146, Tryz.ntmps146
  go_upto_region 2 with (fail)
  have R : Hid (RowN (w.alloc (.cells saZ.toArray 112)) w.heap.size 112 saZ 48) := Lib.hid ⟨Row.alloc w _ _, by kernel_rfl⟩
  have B : Hid (Below w.heap.size w (w.alloc (.cells saZ.toArray 112))) := Lib.hid ((Below.refl _ _).alloc (Nat.le_refl _) _)
  generalize w.alloc (.cells saZ.toArray 112) = w1 at *
  clear hmk
  go_wp2_with (first | (go_at_call 170; refine (saNew _ _).mono ?_; rintro e wn ⟨rfl, bn⟩; have Rn := Lib.hid (⟨R.out.1.below bn R.out.1.lt, R.out.2⟩ : RowN _ _ _ _ _); have Bn := Lib.hid (B.out.trans (bn.mono B.out.size)); clear R B bn; have R := Rn; have B := Bn; clear Rn Bn) | (refine wpl_store_part rfl _ _ _ rfl _ rfl w.heap.size _ rfl 112 _ R.out.1 (by rw [R.out.2]; decide) hi.out (one_sb3 _ _ _) ?_; intro wn rn on; have Rn := Lib.hid (RowN.splice R.out.2 rn (by decide)); have Bn := Lib.hid (B.out.trans (on.below (Nat.le_refl _))); clear R B rn on; have R := Rn; have B := Bn; clear Rn Bn))
  go_ret
  refine ⟨rfl, ?_, B.out⟩
  have r := R.out.1
  refine Eq.mp ?_ r
  exact congrArg (Row _ _ _) (by kernel_rfl)
end Go.Proofs.YtaemdppihpefnaaGreatDoor

/- The registry of the algorithms of pub/jwx/jwa: a map that is filled by three loops. -/
namespace Go.Proofs.YtaemdppihpefnaaGreatDoor
open Go.RowKit
set_option linter.unusedVariables false

/-- How such an algorithm stands in the registry. -/
def ceE (x : ByteArray × List Bool) : ByteArray × Value := (x.1, .agg #[.int .u8 3, .iface 228 (.agg (algCells x).toArray), .bool true])
/-- How such an algorithm stands in the registry. -/
def keE (x : ByteArray × List Bool) : ByteArray × Value := (x.1, .agg #[.int .u8 2, .iface 226 (.agg (algCells x).toArray), .bool true])
/-- How such an algorithm stands in the registry. -/
def saE (x : ByteArray × List Bool) : ByteArray × Value := (x.1, .agg #[.int .u8 1, .iface 112 (.agg (algCells x).toArray), .bool true])
def regT : List (ByteArray × Value) := ceT.map ceE ++ keT.map keE ++ saT.map saE
theorem flat_at {α β : Type} (f : α → List β) (n : Nat) : ∀ (l : List α), (∀ x ∈ l, (f x).length = n) → ∀ (k j : Nat) (x : α), l[k]? = some x → j < n → (l.flatMap f)[k * n + j]? = (f x)[j]?
  | [], _, k, j, x, h, _ => by simp at h
  | a :: l, hl, 0, j, x, h, hj => by
    simp at h; subst h
    have := hl a (by simp)
    rw [List.flatMap_cons, Nat.zero_mul, Nat.zero_add, List.getElem?_append_left (by omega)]
  | a :: l, hl, k + 1, j, x, h, hj => by
    have h1 := hl a (by simp)
    have e : (k + 1) * n + j = (f a).length + (k * n + j) := by rw [h1, Nat.succ_mul]; omega
    rw [List.flatMap_cons, e, List.getElem?_append_right (by omega), Nat.add_sub_cancel_left]
    exact flat_at f n l (fun x hx => hl x (by simp [hx])) k j x (by simpa using h) hj
/-- No two names are one. -/
def freshB : List ByteArray → Bool
  | [] => true
  | s :: r => r.all (fun t => !(t == s)) && freshB r
theorem fresh_spec : ∀ (l : List ByteArray), freshB l = true → ∀ (k : Nat) (s : ByteArray), l[k]? = some s → ∀ t ∈ l.take k, (s == t) = false
  | [], _, k, s, h, t, ht => by simp at h
  | a :: l, hf, 0, s, h, t, ht => by simp at ht
  | a :: l, hf, k + 1, s, h, t, ht => by
    simp only [freshB, Bool.and_eq_true, List.all_eq_true] at hf
    have h2 : l[k]? = some s := by simpa using h
    rw [List.take_succ_cons, List.mem_cons] at ht
    rcases ht with rfl | ht
    · have := hf.1 s (List.mem_of_getElem? h2)
      simpa using this
    · exact fresh_spec l hf.2 k s h2 t ht
def regNames : List ByteArray := ceT.map (·.1) ++ keT.map (·.1) ++ saT.map (·.1)
theorem reg_fresh : freshB regNames = true := by decide +kernel
theorem fresh_at {β : Type} (A C : List ByteArray) (T : List (ByteArray × β)) (f : ByteArray × β → ByteArray × Value) (hf : ∀ x, (f x).1 = x.1) (P : List (ByteArray × Value)) (hP : P.map (·.1) = A) (hfr : freshB (A ++ (T.map (·.1) ++ C)) = true)
    (k : Nat) (s : ByteArray) (b : β) (h : T[k]? = some (s, b)) : ∀ x ∈ P ++ (T.take k).map f, (s == x.1) = false := by
  have hk : k < T.length := by
    rcases Nat.lt_or_ge k T.length with h1 | h1
    · exact h1
    · rw [List.getElem?_eq_none h1] at h; cases h
  have h1 : (A ++ (T.map (·.1) ++ C))[A.length + k]? = some s := by
    rw [List.getElem?_append_right (by omega), Nat.add_sub_cancel_left, List.getElem?_append_left (by simpa using hk), List.getElem?_map, h]; rfl
  have h2 : (A ++ (T.map (·.1) ++ C)).take (A.length + k) = A ++ (T.take k).map (·.1) := by
    rw [List.take_length_add_append, List.take_append_of_le_length (by simpa using Nat.le_of_lt hk), List.map_take]
  intro x hx
  refine fresh_spec _ hfr _ s h1 x.1 ?_
  rw [h2]
  rcases List.mem_append.1 hx with hx | hx
  · exact List.mem_append_left _ (by rw [← hP]; exact List.mem_map_of_mem hx)
  · obtain ⟨y, hy, rfl⟩ := List.mem_map.1 hx
    exact List.mem_append_right _ (by rw [hf]; exact List.mem_map_of_mem hy)
theorem take_snoc {α : Type} (l : List α) (k : Nat) (x : α) (h : l[k]? = some x) : l.take (k + 1) = l.take k ++ [x] := by
  rw [List.take_add_one, h]; rfl
theorem put_cell {w : World} {M X j : Nat} (o : Obj) (h : X ≠ M) : ({ w with heap := w.heap.setIfInBounds M o } : World).cell? ⟨X, j, none⟩ = w.cell? ⟨X, j, none⟩ :=
  World.cell?_of_block (w := w) (a := ⟨X, j, none⟩) ((only_put w M o).block X h)
theorem ceT_at (k : Nat) (hk : k < 6) : ∃ s a, ceT[k]? = some (s, [a]) := by
  have h : ∀ x ∈ ceT, x.2.length = 1 := by decide +kernel
  have hl : ceT.length = 6 := rfl
  have hx := h (ceT[k]'(by omega)) (List.getElem_mem _)
  have he : ceT[k]? = some (ceT[k]'(by omega)) := List.getElem?_eq_getElem (by omega)
  generalize ceT[k]'(by omega) = x at he hx
  obtain ⟨s, l⟩ := x
  match l, hx with
  | [a], _ => exact ⟨s, a, he⟩
theorem ceStr (s : ByteArray) (a : Bool) (w : World) :
    Calls Tryz.prog 137 #[.agg #[.string s, .bool a]] w fun e w' => e = .returned (.string s) ∧ Below w.heap.size w w' := by
  go_enter Tryz.func137, Tryz.ntmps137
  go_wp2
  go_ret
  exact ⟨rfl, (Below.refl _ _).alloc (Nat.le_refl _) _⟩
theorem ceCells (k : Nat) (s : ByteArray) (a : Bool) (h : ceT[k]? = some (s, [a])) : (listCells ceT)[k * 2 + 0]? = some (.string s) ∧ (listCells ceT)[k * 2 + 1]? = some (.bool a) := by
  have h1 : ∀ x ∈ ceT, (algCells x).length = 2 := by decide +kernel
  unfold listCells
  refine ⟨?_, ?_⟩ <;> (rw [flat_at algCells 2 ceT h1 k _ _ h (by omega)]; rfl)
theorem keT_at (k : Nat) (hk : k < 19) : ∃ s a b, keT[k]? = some (s, [a, b]) := by
  have h : ∀ x ∈ keT, x.2.length = 2 := by decide +kernel
  have hl : keT.length = 19 := rfl
  have hx := h (keT[k]'(by omega)) (List.getElem_mem _)
  have he : keT[k]? = some (keT[k]'(by omega)) := List.getElem?_eq_getElem (by omega)
  generalize keT[k]'(by omega) = x at he hx
  obtain ⟨s, l⟩ := x
  match l, hx with
  | [a, b], _ => exact ⟨s, a, b, he⟩
theorem keStr (s : ByteArray) (a b : Bool) (w : World) :
    Calls Tryz.prog 136 #[.agg #[.string s, .bool a, .bool b]] w fun e w' => e = .returned (.string s) ∧ Below w.heap.size w w' := by
  go_enter Tryz.func136, Tryz.ntmps136
  go_wp2
  go_ret
  exact ⟨rfl, (Below.refl _ _).alloc (Nat.le_refl _) _⟩
theorem keCells (k : Nat) (s : ByteArray) (a b : Bool) (h : keT[k]? = some (s, [a, b])) : (listCells keT)[k * 3 + 0]? = some (.string s) ∧ (listCells keT)[k * 3 + 1]? = some (.bool a) ∧ (listCells keT)[k * 3 + 2]? = some (.bool b) := by
  have h1 : ∀ x ∈ keT, (algCells x).length = 3 := by decide +kernel
  unfold listCells
  refine ⟨?_, ?_, ?_⟩ <;> (rw [flat_at algCells 3 keT h1 k _ _ h (by omega)]; rfl)
theorem saT_at (k : Nat) (hk : k < 16) : ∃ s a b, saT[k]? = some (s, [a, b]) := by
  have h : ∀ x ∈ saT, x.2.length = 2 := by decide +kernel
  have hl : saT.length = 16 := rfl
  have hx := h (saT[k]'(by omega)) (List.getElem_mem _)
  have he : saT[k]? = some (saT[k]'(by omega)) := List.getElem?_eq_getElem (by omega)
  generalize saT[k]'(by omega) = x at he hx
  obtain ⟨s, l⟩ := x
  match l, hx with
  | [a, b], _ => exact ⟨s, a, b, he⟩
theorem saStr (s : ByteArray) (a b : Bool) (w : World) :
    Calls Tryz.prog 135 #[.agg #[.string s, .bool a, .bool b]] w fun e w' => e = .returned (.string s) ∧ Below w.heap.size w w' := by
  go_enter Tryz.func135, Tryz.ntmps135
  go_wp2
  go_ret
  exact ⟨rfl, (Below.refl _ _).alloc (Nat.le_refl _) _⟩
theorem saCells (k : Nat) (s : ByteArray) (a b : Bool) (h : saT[k]? = some (s, [a, b])) : (listCells saT)[k * 3 + 0]? = some (.string s) ∧ (listCells saT)[k * 3 + 1]? = some (.bool a) ∧ (listCells saT)[k * 3 + 2]? = some (.bool b) := by
  have h1 : ∀ x ∈ saT, (algCells x).length = 3 := by decide +kernel
  unfold listCells
  refine ⟨?_, ?_, ?_⟩ <;> (rw [flat_at algCells 3 saT h1 k _ _ h (by omega)]; rfl)

set_option maxRecDepth 100000 in
set_option maxHeartbeats 8000000 in
theorem registry (w : World) :
    Calls Tryz.prog 115 #[] w fun e w' => e = .returned (.map (some w.heap.size)) ∧ MapAt w' w.heap.size regT ∧ Below w.heap.size w w' := by
  have hmm := @run_makeMap Tryz.prog
  go_enter Tryz.func115, Tryz.ntmps115
  go_wp2_with fail
  have A0 : Hid (MapAt (w.alloc (.map #[] 0)) w.heap.size []) := Lib.hid (by unfold MapAt; rw [heap_alloc_new]; rfl)
  have B0 : Hid (Below w.heap.size w (w.alloc (.map #[] 0))) := Lib.hid ((Below.refl _ _).alloc (Nat.le_refl _) _)
  have hM0 : Hid (w.heap.size < (w.alloc (.map #[] 0)).heap.size) := Lib.hid (by simp)
  generalize w.alloc (.map #[] 0) = w0 at *
  clear hmm
  refine (ceList _).mono ?_
  rintro e w0a ⟨rfl, r0, b0⟩
  have D0 := Lib.hid r0
  have hD0 : Hid (w0.heap.size < w0a.heap.size) := Lib.hid r0.lt
  have A0a := Lib.hid (A0.out.below b0 hM0.out)
  have hMD0 : Hid (w.heap.size < w0.heap.size) := hM0
  have B0a := Lib.hid (B0.out.trans (b0.mono B0.out.size))
  clear r0 b0 A0 B0
  generalize w0.heap.size = d0 at *
  go_wp2_with fail
  go_loopw [3, 11] (fun _ idx wr => ∃ k : Nat, k ≤ 6 ∧ idx = .int .i64 k ∧ Hid (Row wr d0 228 (listCells ceT)) ∧ Hid (MapAt wr w.heap.size ([] ++ (ceT.take k).map ceE)) ∧ Hid (Below w.heap.size w wr) ∧ Hid (d0 < wr.heap.size)) (fun _ idx _ => 6 - (intOf idx).toNat)
  case atStart => exact ⟨0, by omega, rfl, D0, Lib.hid (by simpa using A0a.out), B0a, hD0⟩
  case round =>
    obtain ⟨k, hk, rfl, Dr, Ar, Br, hDr⟩ := hrel
    by_cases hlt : k < 6
    · obtain ⟨s, a, hT⟩ := ceT_at k hlt
      have hc := ceCells k s a hT
      have c0 : wr.cell? ⟨d0, k * 2, none⟩ = some (.string s) := by rw [Dr.out.cell]; exact hc.1
      have c1 : wr.cell? ⟨d0, k * 2 + 1, none⟩ = some (.bool a) := by rw [Dr.out.cell]; exact hc.2
      have hki : (k : Int) < 6 := by omega
      have HT := Lib.hid hT
      clear hT hc
      have hfr : ∀ x ∈ [] ++ (ceT.take k).map ceE, (s == x.1) = false := fresh_at [] (keT.map (·.1) ++ saT.map (·.1)) ceT ceE (fun _ => rfl) ([]) rfl (by have h := reg_fresh; simpa [regNames] using h) k s _ HT.out
      obtain ⟨L, hL⟩ : ∃ L, [] ++ (ceT.take k).map ceE = L := ⟨_, rfl⟩
      rw [hL] at hfr Ar
      have HL := Lib.hid hL
      clear hL
      have hput := fun (wy : World) (hA : MapAt wy w.heap.size L) => run_mapPut (P := Tryz.prog) 250 9 248 Tryz.underlying250 Tryz.underlying9 w.heap.size L s (.agg #[.int .u8 3, .iface 228 (.agg #[.string s, .bool a]), .bool true]) hfr wy hA
      clear hfr
      go_upto_region 5 with (fail)
      obtain ⟨wx, hwx⟩ : ∃ wx : World, wx = wr.alloc (.cells #[.string s, .bool a] 228) := ⟨_, rfl⟩
      rw [← hwx]
      have Xr : Row wx wr.heap.size 228 [.string s, .bool a] := by rw [hwx]; exact Row.new wr _ _ _ rfl
      have Dx := Lib.hid (show Row wx d0 _ _ by rw [hwx]; exact Dr.out.allocd _)
      have Ax : MapAt wx w.heap.size L := by rw [hwx]; exact Ar.out.below ((Below.refl _ _).alloc (Nat.le_refl _) _) Ar.out.lt
      have Bx := Lib.hid (show Below w.heap.size w wx by rw [hwx]; exact Br.out.trans (((Below.refl _ _).alloc (Nat.le_refl _) _).mono Br.out.size))
      have hX : wr.heap.size < wx.heap.size := Xr.lt
      have hXM : wr.heap.size ≠ w.heap.size := by have := Ar.out.lt; omega
      have hDx : d0 < wx.heap.size := by have := hDr.out; omega
      have hMx : w.heap.size < wx.heap.size := by have := Ar.out.lt; omega
      have x0 : wx.cell? ⟨wr.heap.size, 0, none⟩ = some (.string s) := by rw [Xr.cell]; rfl
      have x1 : wx.cell? ⟨wr.heap.size, 1, none⟩ = some (.bool a) := by rw [Xr.cell]; rfl
      have hpc : ∀ (wy : World) (o : Obj) (j : Nat), ({ wy with heap := wy.heap.setIfInBounds w.heap.size o } : World).cell? ⟨wr.heap.size, j, none⟩ = wy.cell? ⟨wr.heap.size, j, none⟩ := fun wy o j => put_cell o hXM
      clear hwx Xr c0 c1 Dr Ar Br hDr
      generalize wr.heap.size = X at *
      have hDM := hMD0.out
      go_region_held3 (fun w' => w'.cell? ⟨X, 0, none⟩ = some (.string s) ∧ w'.cell? ⟨X, 1, none⟩ = some (.bool a)) (first | go_keep | exact ⟨(b1.cell (p := ⟨X, 0, none⟩) hX).trans x0, (b1.cell (p := ⟨X, 1, none⟩) hX).trans x1⟩) (first | (go_at_call 137; refine (ceStr _ _ _).mono ?_; rintro e wy ⟨rfl, b1⟩; have Ay := (show MapAt wx.drew _ _ from Ax).below b1 hMx; have hu := hput wy Ay; have Ay := Lib.hid Ay))
      obtain ⟨wz, hwz⟩ : ∃ wz : World, wz = { wy with heap := wy.heap.setIfInBounds w.heap.size (.map (ents (L ++ [(s, .agg #[.int .u8 3, .iface 228 (.agg #[.string s, .bool a]), .bool true])]) 0).toArray (L.length + 1)) } := ⟨_, rfl⟩
      rw [← hwz]
      have Az := Lib.hid (show MapAt wz w.heap.size (L ++ [(s, .agg #[.int .u8 3, .iface 228 (.agg #[.string s, .bool a]), .bool true])]) by rw [hwz]; exact Ay.out.put _ _)
      have Oz : Only w.heap.size wy wz := by rw [hwz]; exact only_put _ _ _
      have b2 : Below wx.heap.size wx wy := ⟨b1.os, b1.tape, b1.output, b1.size, b1.block⟩
      have Dz := Lib.hid ((Dx.out.below b2 hDx).only Oz (by omega))
      have Bz := Lib.hid ((Bx.out.trans (b2.mono Bx.out.size)).trans (Oz.below (Nat.le_refl _)))
      have hDz := Lib.hid (show d0 < wz.heap.size by rw [Oz.size]; exact Nat.lt_of_lt_of_le hDx b2.size)
      clear hwz Oz b1 b2 hu hput x0 x1 hpc Ax Dx Bx Ay hX hXM hDx hMx
      go_wp2_with fail
      go_roundw
      case rel =>
        refine ⟨k + 1, by omega, by go_num, Dz, ?_, Bz, hDz⟩
        rw [take_snoc _ _ _ HT.out, List.map_append, ← List.append_assoc, HL.out]
        exact Az
      case measure => simp [intOf]; omega
    · obtain rfl : k = 6 := by omega
      obtain ⟨w1, rfl⟩ : ∃ w1 : World, w1 = wr := ⟨_, rfl⟩
      have A1 : Hid (MapAt w1 w.heap.size (ceT.map ceE)) := Lib.hid (by have h := Ar.out; rw [List.take_of_length_le (by decide +kernel)] at h; exact h)
      have B1 := Br
      have hM1 := Lib.hid Ar.out.lt
      clear Ar Br Dr hDr D0 A0a B0a hD0 hMD0 hM0
      go_wp2_with fail
      refine (keList _).mono ?_
      rintro e w1a ⟨rfl, r1, b1⟩
      have D1 := Lib.hid r1
      have hD1 : Hid (w1.heap.size < w1a.heap.size) := Lib.hid r1.lt
      have A1a := Lib.hid (A1.out.below b1 hM1.out)
      have hMD1 : Hid (w.heap.size < w1.heap.size) := hM1
      have B1a := Lib.hid (B1.out.trans (b1.mono B1.out.size))
      clear r1 b1 A1 B1
      generalize w1.heap.size = d1 at *
      go_wp2_with fail
      go_loopw [5, 24] (fun _ idx wr => ∃ k : Nat, k ≤ 19 ∧ idx = .int .i64 k ∧ Hid (Row wr d1 226 (listCells keT)) ∧ Hid (MapAt wr w.heap.size (ceT.map ceE ++ (keT.take k).map keE)) ∧ Hid (Below w.heap.size w wr) ∧ Hid (d1 < wr.heap.size)) (fun _ idx _ => 19 - (intOf idx).toNat)
      case atStart => exact ⟨0, by omega, rfl, D1, Lib.hid (by simpa using A1a.out), B1a, hD1⟩
      case round =>
        obtain ⟨k, hk, rfl, Dr, Ar, Br, hDr⟩ := hrel
        by_cases hlt : k < 19
        · obtain ⟨s, a, b, hT⟩ := keT_at k hlt
          have hc := keCells k s a b hT
          have c0 : wr.cell? ⟨d1, k * 3, none⟩ = some (.string s) := by rw [Dr.out.cell]; exact hc.1
          have c1 : wr.cell? ⟨d1, k * 3 + 1, none⟩ = some (.bool a) := by rw [Dr.out.cell]; exact hc.2.1
          have c2 : wr.cell? ⟨d1, k * 3 + 2, none⟩ = some (.bool b) := by rw [Dr.out.cell]; exact hc.2.2
          have hki : (k : Int) < 19 := by omega
          have HT := Lib.hid hT
          clear hT hc
          have hfr : ∀ x ∈ ceT.map ceE ++ (keT.take k).map keE, (s == x.1) = false := fresh_at (ceT.map (·.1)) (saT.map (·.1)) keT keE (fun _ => rfl) (ceT.map ceE) (by rw [List.map_map]; rfl) (by have h := reg_fresh; simpa [regNames] using h) k s _ HT.out
          obtain ⟨L, hL⟩ : ∃ L, ceT.map ceE ++ (keT.take k).map keE = L := ⟨_, rfl⟩
          rw [hL] at hfr Ar
          have HL := Lib.hid hL
          clear hL
          have hput := fun (wy : World) (hA : MapAt wy w.heap.size L) => run_mapPut (P := Tryz.prog) 250 9 248 Tryz.underlying250 Tryz.underlying9 w.heap.size L s (.agg #[.int .u8 2, .iface 226 (.agg #[.string s, .bool a, .bool b]), .bool true]) hfr wy hA
          clear hfr
          go_upto_region 10 with (fail)
          obtain ⟨wx, hwx⟩ : ∃ wx : World, wx = wr.alloc (.cells #[.string s, .bool a, .bool b] 226) := ⟨_, rfl⟩
          rw [← hwx]
          have Xr : Row wx wr.heap.size 226 [.string s, .bool a, .bool b] := by rw [hwx]; exact Row.new wr _ _ _ rfl
          have Dx := Lib.hid (show Row wx d1 _ _ by rw [hwx]; exact Dr.out.allocd _)
          have Ax : MapAt wx w.heap.size L := by rw [hwx]; exact Ar.out.below ((Below.refl _ _).alloc (Nat.le_refl _) _) Ar.out.lt
          have Bx := Lib.hid (show Below w.heap.size w wx by rw [hwx]; exact Br.out.trans (((Below.refl _ _).alloc (Nat.le_refl _) _).mono Br.out.size))
          have hX : wr.heap.size < wx.heap.size := Xr.lt
          have hXM : wr.heap.size ≠ w.heap.size := by have := Ar.out.lt; omega
          have hDx : d1 < wx.heap.size := by have := hDr.out; omega
          have hMx : w.heap.size < wx.heap.size := by have := Ar.out.lt; omega
          have x0 : wx.cell? ⟨wr.heap.size, 0, none⟩ = some (.string s) := by rw [Xr.cell]; rfl
          have x1 : wx.cell? ⟨wr.heap.size, 1, none⟩ = some (.bool a) := by rw [Xr.cell]; rfl
          have x2 : wx.cell? ⟨wr.heap.size, 2, none⟩ = some (.bool b) := by rw [Xr.cell]; rfl
          have hpc : ∀ (wy : World) (o : Obj) (j : Nat), ({ wy with heap := wy.heap.setIfInBounds w.heap.size o } : World).cell? ⟨wr.heap.size, j, none⟩ = wy.cell? ⟨wr.heap.size, j, none⟩ := fun wy o j => put_cell o hXM
          clear hwx Xr c0 c1 c2 Dr Ar Br hDr
          generalize wr.heap.size = X at *
          have hDM := hMD1.out
          go_region_held3 (fun w' => w'.cell? ⟨X, 0, none⟩ = some (.string s) ∧ w'.cell? ⟨X, 1, none⟩ = some (.bool a) ∧ w'.cell? ⟨X, 2, none⟩ = some (.bool b)) (first | go_keep | exact ⟨(b1.cell (p := ⟨X, 0, none⟩) hX).trans x0, (b1.cell (p := ⟨X, 1, none⟩) hX).trans x1, (b1.cell (p := ⟨X, 2, none⟩) hX).trans x2⟩) (first | (go_at_call 136; refine (keStr _ _ _ _).mono ?_; rintro e wy ⟨rfl, b1⟩; have Ay := (show MapAt wx.drew _ _ from Ax).below b1 hMx; have hu := hput wy Ay; have Ay := Lib.hid Ay))
          obtain ⟨wz, hwz⟩ : ∃ wz : World, wz = { wy with heap := wy.heap.setIfInBounds w.heap.size (.map (ents (L ++ [(s, .agg #[.int .u8 2, .iface 226 (.agg #[.string s, .bool a, .bool b]), .bool true])]) 0).toArray (L.length + 1)) } := ⟨_, rfl⟩
          rw [← hwz]
          have Az := Lib.hid (show MapAt wz w.heap.size (L ++ [(s, .agg #[.int .u8 2, .iface 226 (.agg #[.string s, .bool a, .bool b]), .bool true])]) by rw [hwz]; exact Ay.out.put _ _)
          have Oz : Only w.heap.size wy wz := by rw [hwz]; exact only_put _ _ _
          have b2 : Below wx.heap.size wx wy := ⟨b1.os, b1.tape, b1.output, b1.size, b1.block⟩
          have Dz := Lib.hid ((Dx.out.below b2 hDx).only Oz (by omega))
          have Bz := Lib.hid ((Bx.out.trans (b2.mono Bx.out.size)).trans (Oz.below (Nat.le_refl _)))
          have hDz := Lib.hid (show d1 < wz.heap.size by rw [Oz.size]; exact Nat.lt_of_lt_of_le hDx b2.size)
          clear hwz Oz b1 b2 hu hput x0 x1 hpc Ax Dx Bx Ay hX hXM hDx hMx x2
          go_wp2_with fail
          go_roundw
          case rel =>
            refine ⟨k + 1, by omega, by go_num, Dz, ?_, Bz, hDz⟩
            rw [take_snoc _ _ _ HT.out, List.map_append, ← List.append_assoc, HL.out]
            exact Az
          case measure => simp [intOf]; omega
        · obtain rfl : k = 19 := by omega
          obtain ⟨w2, rfl⟩ : ∃ w2 : World, w2 = wr := ⟨_, rfl⟩
          have A2 : Hid (MapAt w2 w.heap.size (ceT.map ceE ++ keT.map keE)) := Lib.hid (by have h := Ar.out; rw [List.take_of_length_le (by decide +kernel)] at h; exact h)
          have B2 := Br
          have hM2 := Lib.hid Ar.out.lt
          clear Ar Br Dr hDr D1 A1a B1a hD1 hMD1 hM1
          go_wp2_with fail
          refine (saList _).mono ?_
          rintro e w2a ⟨rfl, r2, b2⟩
          have D2 := Lib.hid r2
          have hD2 : Hid (w2.heap.size < w2a.heap.size) := Lib.hid r2.lt
          have A2a := Lib.hid (A2.out.below b2 hM2.out)
          have hMD2 : Hid (w.heap.size < w2.heap.size) := hM2
          have B2a := Lib.hid (B2.out.trans (b2.mono B2.out.size))
          clear r2 b2 A2 B2
          generalize w2.heap.size = d2 at *
          go_wp2_with fail
          go_loopw [7, 37] (fun _ idx wr => ∃ k : Nat, k ≤ 16 ∧ idx = .int .i64 k ∧ Hid (Row wr d2 112 (listCells saT)) ∧ Hid (MapAt wr w.heap.size (ceT.map ceE ++ keT.map keE ++ (saT.take k).map saE)) ∧ Hid (Below w.heap.size w wr) ∧ Hid (d2 < wr.heap.size)) (fun _ idx _ => 16 - (intOf idx).toNat)
          case atStart => exact ⟨0, by omega, rfl, D2, Lib.hid (by simpa using A2a.out), B2a, hD2⟩
          case round =>
            obtain ⟨k, hk, rfl, Dr, Ar, Br, hDr⟩ := hrel
            by_cases hlt : k < 16
            · obtain ⟨s, a, b, hT⟩ := saT_at k hlt
              have hc := saCells k s a b hT
              have c0 : wr.cell? ⟨d2, k * 3, none⟩ = some (.string s) := by rw [Dr.out.cell]; exact hc.1
              have c1 : wr.cell? ⟨d2, k * 3 + 1, none⟩ = some (.bool a) := by rw [Dr.out.cell]; exact hc.2.1
              have c2 : wr.cell? ⟨d2, k * 3 + 2, none⟩ = some (.bool b) := by rw [Dr.out.cell]; exact hc.2.2
              have hki : (k : Int) < 16 := by omega
              have HT := Lib.hid hT
              clear hT hc
              have hfr : ∀ x ∈ ceT.map ceE ++ keT.map keE ++ (saT.take k).map saE, (s == x.1) = false := fresh_at (ceT.map (·.1) ++ keT.map (·.1)) [] saT saE (fun _ => rfl) (ceT.map ceE ++ keT.map keE) (by rw [List.map_append, List.map_map, List.map_map]; rfl) (by have h := reg_fresh; simpa [regNames] using h) k s _ HT.out
              obtain ⟨L, hL⟩ : ∃ L, ceT.map ceE ++ keT.map keE ++ (saT.take k).map saE = L := ⟨_, rfl⟩
              rw [hL] at hfr Ar
              have HL := Lib.hid hL
              clear hL
              have hput := fun (wy : World) (hA : MapAt wy w.heap.size L) => run_mapPut (P := Tryz.prog) 250 9 248 Tryz.underlying250 Tryz.underlying9 w.heap.size L s (.agg #[.int .u8 1, .iface 112 (.agg #[.string s, .bool a, .bool b]), .bool true]) hfr wy hA
              clear hfr
              go_upto_region 15 with (fail)
              obtain ⟨wx, hwx⟩ : ∃ wx : World, wx = wr.alloc (.cells #[.string s, .bool a, .bool b] 112) := ⟨_, rfl⟩
              rw [← hwx]
              have Xr : Row wx wr.heap.size 112 [.string s, .bool a, .bool b] := by rw [hwx]; exact Row.new wr _ _ _ rfl
              have Dx := Lib.hid (show Row wx d2 _ _ by rw [hwx]; exact Dr.out.allocd _)
              have Ax : MapAt wx w.heap.size L := by rw [hwx]; exact Ar.out.below ((Below.refl _ _).alloc (Nat.le_refl _) _) Ar.out.lt
              have Bx := Lib.hid (show Below w.heap.size w wx by rw [hwx]; exact Br.out.trans (((Below.refl _ _).alloc (Nat.le_refl _) _).mono Br.out.size))
              have hX : wr.heap.size < wx.heap.size := Xr.lt
              have hXM : wr.heap.size ≠ w.heap.size := by have := Ar.out.lt; omega
              have hDx : d2 < wx.heap.size := by have := hDr.out; omega
              have hMx : w.heap.size < wx.heap.size := by have := Ar.out.lt; omega
              have x0 : wx.cell? ⟨wr.heap.size, 0, none⟩ = some (.string s) := by rw [Xr.cell]; rfl
              have x1 : wx.cell? ⟨wr.heap.size, 1, none⟩ = some (.bool a) := by rw [Xr.cell]; rfl
              have x2 : wx.cell? ⟨wr.heap.size, 2, none⟩ = some (.bool b) := by rw [Xr.cell]; rfl
              have hpc : ∀ (wy : World) (o : Obj) (j : Nat), ({ wy with heap := wy.heap.setIfInBounds w.heap.size o } : World).cell? ⟨wr.heap.size, j, none⟩ = wy.cell? ⟨wr.heap.size, j, none⟩ := fun wy o j => put_cell o hXM
              clear hwx Xr c0 c1 c2 Dr Ar Br hDr
              generalize wr.heap.size = X at *
              have hDM := hMD2.out
              go_region_held3 (fun w' => w'.cell? ⟨X, 0, none⟩ = some (.string s) ∧ w'.cell? ⟨X, 1, none⟩ = some (.bool a) ∧ w'.cell? ⟨X, 2, none⟩ = some (.bool b)) (first | go_keep | exact ⟨(b1.cell (p := ⟨X, 0, none⟩) hX).trans x0, (b1.cell (p := ⟨X, 1, none⟩) hX).trans x1, (b1.cell (p := ⟨X, 2, none⟩) hX).trans x2⟩) (first | (go_at_call 135; refine (saStr _ _ _ _).mono ?_; rintro e wy ⟨rfl, b1⟩; have Ay := (show MapAt wx.drew _ _ from Ax).below b1 hMx; have hu := hput wy Ay; have Ay := Lib.hid Ay))
              obtain ⟨wz, hwz⟩ : ∃ wz : World, wz = { wy with heap := wy.heap.setIfInBounds w.heap.size (.map (ents (L ++ [(s, .agg #[.int .u8 1, .iface 112 (.agg #[.string s, .bool a, .bool b]), .bool true])]) 0).toArray (L.length + 1)) } := ⟨_, rfl⟩
              rw [← hwz]
              have Az := Lib.hid (show MapAt wz w.heap.size (L ++ [(s, .agg #[.int .u8 1, .iface 112 (.agg #[.string s, .bool a, .bool b]), .bool true])]) by rw [hwz]; exact Ay.out.put _ _)
              have Oz : Only w.heap.size wy wz := by rw [hwz]; exact only_put _ _ _
              have b2 : Below wx.heap.size wx wy := ⟨b1.os, b1.tape, b1.output, b1.size, b1.block⟩
              have Dz := Lib.hid ((Dx.out.below b2 hDx).only Oz (by omega))
              have Bz := Lib.hid ((Bx.out.trans (b2.mono Bx.out.size)).trans (Oz.below (Nat.le_refl _)))
              have hDz := Lib.hid (show d2 < wz.heap.size by rw [Oz.size]; exact Nat.lt_of_lt_of_le hDx b2.size)
              clear hwz Oz b1 b2 hu hput x0 x1 hpc Ax Dx Bx Ay hX hXM hDx hMx x2
              go_wp2_with fail
              go_roundw
              case rel =>
                refine ⟨k + 1, by omega, by go_num, Dz, ?_, Bz, hDz⟩
                rw [take_snoc _ _ _ HT.out, List.map_append, ← List.append_assoc, HL.out]
                exact Az
              case measure => simp [intOf]; omega
            · obtain rfl : k = 16 := by omega
              obtain ⟨w3, rfl⟩ : ∃ w3 : World, w3 = wr := ⟨_, rfl⟩
              have A3 : Hid (MapAt w3 w.heap.size (ceT.map ceE ++ keT.map keE ++ saT.map saE)) := Lib.hid (by have h := Ar.out; rw [List.take_of_length_le (by decide +kernel)] at h; exact h)
              have B3 := Br
              have hM3 := Lib.hid Ar.out.lt
              clear Ar Br Dr hDr D2 A2a B2a hD2 hMD2 hM2
              go_wp2_with fail
              go_ret
              exact ⟨rfl, A3.out, B3.out⟩
end Go.Proofs.YtaemdppihpefnaaGreatDoor

/- The algorithms HS256, HS384, HS512 out of the registry. -/
namespace Go.Proofs.YtaemdppihpefnaaGreatDoor
open Go.RowKit
set_option linter.unusedVariables false

/-- A name that is registered as a symmetric signature's. -/
def HsName (s : ByteArray) : Prop := ∃ l r, regT = l ++ (s, saE (s, [false, true]) |>.2) :: r ∧ (∀ x ∈ l, (s == x.1) = false) ∧ (s == s) = true
def hsName (n : Nat) : ByteArray := if n = 0 then ⟨#[72, 83, 50, 53, 54]⟩ else if n = 1 then ⟨#[72, 83, 51, 56, 52]⟩ else ⟨#[72, 83, 53, 49, 50]⟩
theorem hs_at (i : Nat) (s : ByteArray) (hi : regNames[i]? = some s) (he : regT = regT.take i ++ (s, (saE (s, [false, true])).2) :: regT.drop (i + 1)) (hs : (s == s) = true) : HsName s := by
  refine ⟨regT.take i, regT.drop (i + 1), he, ?_, hs⟩
  have hn : regNames = regT.map (·.1) := rfl
  intro x hx
  refine fresh_spec regNames reg_fresh i s hi x.1 ?_
  rw [hn, ← List.map_take]
  exact List.mem_map_of_mem hx
theorem hs0 : HsName ⟨#[72, 83, 50, 53, 54]⟩ := hs_at 31 _ (by decide +kernel) (by kernel_rfl) (by decide +kernel)
theorem hs1 : HsName ⟨#[72, 83, 51, 56, 52]⟩ := hs_at 32 _ (by decide +kernel) (by kernel_rfl) (by decide +kernel)
theorem hs2 : HsName ⟨#[72, 83, 53, 49, 50]⟩ := hs_at 33 _ (by decide +kernel) (by kernel_rfl) (by decide +kernel)

/-- Two results, of which the first lies in a row. -/
theorem results_cell_tmp {P : Program} {fn : Func} {p q : Tmp} {ty : TypeId} (h : fn.results = #[.cell p ty, .tmp q]) (tmps : Array Value) (w : World) (g : Nat) (t : TypeId) (cs : Array Value) (fr : Nat × Nat) (d : TypeDesc) {v : Value}
    (hp : tmps.getD p undef = .pointer (some ⟨g, 0, none⟩)) (hg : w.heap[g]? = some (.cells cs t fr))
    (hu : P.underlying ty = some d) (hd : (match d with | .struct _ | .array _ _ => true | _ => false) = true) (hi : (P.info? ty).map (·.size) = some cs.size) (hq : tmps.getD q undef = v) :
    (results fn tmps).run P w = .ok (.tuple #[.agg cs, v]) w := by
  have hp' : tmps[p]?.getD undef = .pointer (some ⟨g, 0, none⟩) := by simpa using hp
  have hq' : tmps[q]?.getD undef = v := by simpa using hq
  simp [results, h, hp', hq', asAddr, run_loadVar_row w g t ty cs fr d hg hu hd hi]

set_option maxRecDepth 100000 in
set_option maxHeartbeats 1000000 in
theorem lookAlg (s : ByteArray) (h : HsName s) (w : World) :
    Calls Tryz.prog 84 #[.int .u8 1, .string s] w fun e w' => e = .returned (.tuple #[.iface 112 (.agg #[.string s, .bool false, .bool true]), .bool true]) ∧ Below w.heap.size w w' := by
  obtain ⟨l, r, hreg, hfr, hss⟩ := h
  have hget := fun (wy : World) (hA : MapAt wy w.heap.size regT) => run_mapGet (P := Tryz.prog) 250 9 248 Tryz.underlying250 Tryz.underlying9 w.heap.size l r s (.agg #[.int .u8 1, .iface 112 (.agg #[.string s, .bool false, .bool true]), .bool true]) hfr hss wy (by rw [hreg] at hA; exact hA)
  have Hget := Lib.hid hget
  clear hget hfr hss hreg
  go_enter Tryz.func84, Tryz.ntmps84
  go_wp2_with (go_at_call 115; refine (registry _).mono ?_; rintro e w1 ⟨rfl, m1, b1⟩; have hg := Hget.out w1 m1; have b1 := Lib.hid b1; clear m1)
  go_ret2
  refine ⟨rfl, b1.out.trans ((Below.refl _ _).alloc ?_ _)⟩
  exact b1.out.size

set_option maxRecDepth 100000 in
set_option maxHeartbeats 1000000 in
theorem lookBuiltin (s : ByteArray) (h : HsName s) (w : World) :
    Calls Tryz.prog 116 #[.string s] w fun e w' => e = .returned (.agg #[.string s, .bool false, .bool true]) ∧ Below w.heap.size w w' := by
  have G := fun wx => Lib.hid (lookAlg s h wx)
  have dn : ∀ (b : Bool) (wx : World), (Op.unary .not (.bool b)).run Tryz.prog wx = .ok (.bool (!b)) wx := fun _ _ => rfl
  have hta : ∀ wx, (Instr.typeAssert (.iface 112 (.agg #[.string s, .bool false, .bool true])) 201 112 false).run Tryz.prog wx = .ok (.agg #[.string s, .bool false, .bool true]) wx := fun _ => by kernel_rfl
  have hi : (Tryz.prog.info? 112).map (·.size) = some 3 := by kernel_rfl
  have hi := Lib.hid hi
  go_enter Tryz.func116, Tryz.ntmps116
  go_wp2_with (first | (go_at_call 84; refine (G _).out.mono ?_; rintro e w1 ⟨rfl, b1⟩; have b1 := Lib.hid b1; have r1 := Lib.hid (Row.below (Row.new w _ _ _ rfl) b1.out (by simp))) | (refine wpl_store_row rfl 112 (.tmp 2) (.tmp 14) rfl [.string s, .bool false, .bool true] rfl w.heap.size rfl 112 _ r1.out rfl hi.out (one_sb3 _ _ _) ?_; intro w2 r2 o2; have r2 := Lib.hid r2; have o2 := Lib.hid o2))
  refine bodyPost_ret (v := .agg #[.string s, .bool false, .bool true]) (results_cell_row rfl _ _ w.heap.size 112 _ (0, 0) _ rfl r2.out Tryz.underlying112 rfl hi.out) rfl ⟨rfl, ((((Below.refl _ _).alloc (Nat.le_refl _) _).trans (b1.out.mono (by simp))).trans (o2.out.below (Nat.le_refl _)))⟩

set_option maxRecDepth 100000 in
set_option maxHeartbeats 1000000 in
theorem lookSig (s : ByteArray) (h : HsName s) (w : World) :
    Calls Tryz.prog 66 #[.string s] w fun e w' => e = .returned (.tuple #[.agg #[.string s, .bool false, .bool true], .bool true]) ∧ Below w.heap.size w w' := by
  have G := fun wx => Lib.hid (lookAlg s h wx)
  have hta : ∀ wx, (Instr.typeAssert (.iface 112 (.agg #[.string s, .bool false, .bool true])) 201 112 false).run Tryz.prog wx = .ok (.agg #[.string s, .bool false, .bool true]) wx := fun _ => by kernel_rfl
  have hi : (Tryz.prog.info? 112).map (·.size) = some 3 := by kernel_rfl
  have hi := Lib.hid hi
  go_enter Tryz.func66, Tryz.ntmps66
  go_wp2_with (first | (go_at_call 84; refine (G _).out.mono ?_; rintro e w1 ⟨rfl, b1⟩; have b1 := Lib.hid b1; have r1 := Lib.hid (Row.below (Row.new w _ _ _ rfl) b1.out (by simp))) | (refine wpl_store_row rfl 112 (.tmp 2) (.tmp 14) rfl [.string s, .bool false, .bool true] rfl w.heap.size rfl 112 _ r1.out rfl hi.out (one_sb3 _ _ _) ?_; intro w2 r2 o2; have r2 := Lib.hid r2; have o2 := Lib.hid o2))
  refine bodyPost_ret (v := .tuple #[.agg #[.string s, .bool false, .bool true], .bool true]) (results_cell_tmp rfl _ _ w.heap.size 112 _ (0, 0) _ rfl r2.out Tryz.underlying112 rfl hi.out rfl) rfl ⟨rfl, ((((Below.refl _ _).alloc (Nat.le_refl _) _).trans (b1.out.mono (by simp))).trans (o2.out.below (Nat.le_refl _)))⟩

set_option maxRecDepth 100000 in
set_option maxHeartbeats 1000000 in
theorem alg0 (w : World) :
    Calls Tryz.prog 85 #[] w fun e w' => e = .returned (.agg #[.string ⟨#[72, 83, 50, 53, 54]⟩, .bool false, .bool true]) ∧ Below w.heap.size w w' := by
  have G := fun wx => Lib.hid (lookBuiltin ⟨#[72, 83, 50, 53, 54]⟩ hs0 wx)
  have hi : (Tryz.prog.info? 112).map (·.size) = some 3 := by kernel_rfl
  have hi := Lib.hid hi
  go_enter Tryz.func85, Tryz.ntmps85
  go_wp2_with (first | (go_at_call 116; refine (G _).out.mono ?_; rintro e w1 ⟨rfl, b1⟩; have b1 := Lib.hid b1; have r1 := Lib.hid (Row.below (Row.new w _ _ _ rfl) b1.out (by simp))) | (refine wpl_store_row rfl 112 (.tmp 0) (.tmp 1) rfl [.string ⟨#[72, 83, 50, 53, 54]⟩, .bool false, .bool true] rfl w.heap.size rfl 112 _ r1.out rfl hi.out (one_sb3 _ _ _) ?_; intro w2 r2 o2; have r2 := Lib.hid r2; have o2 := Lib.hid o2))
  refine bodyPost_ret (v := .agg #[.string ⟨#[72, 83, 50, 53, 54]⟩, .bool false, .bool true]) (results_cell_row rfl _ _ w.heap.size 112 _ (0, 0) _ rfl r2.out Tryz.underlying112 rfl hi.out) rfl ⟨rfl, ((((Below.refl _ _).alloc (Nat.le_refl _) _).trans (b1.out.mono (by simp))).trans (o2.out.below (Nat.le_refl _)))⟩

set_option maxRecDepth 100000 in
set_option maxHeartbeats 1000000 in
theorem hmacOf0 (w : World) :
    Calls Tryz.prog 43 #[.string ⟨#[72, 83, 50, 53, 54]⟩] w fun e w' => e = .returned (.tuple #[.agg #[.string ⟨#[72, 83, 50, 53, 54]⟩, .bool false, .bool true], .bool true]) ∧ Below w.heap.size w w' := by
  have G := fun wx => Lib.hid (lookSig ⟨#[72, 83, 50, 53, 54]⟩ hs0 wx)
  have hi : (Tryz.prog.info? 112).map (·.size) = some 3 := by kernel_rfl
  have hi := Lib.hid hi
  go_enter Tryz.func43, Tryz.ntmps43
  go_wp2_with (first | (go_at_call 66; refine (G _).out.mono ?_; rintro e w1 ⟨rfl, b1⟩; have b1 := Lib.hid b1; have r1 := Lib.hid (Row.below (Row.new w _ _ _ rfl) b1.out (by simp))) | (refine wpl_store_row rfl 112 (.tmp 2) (.tmp 11) rfl [.string ⟨#[72, 83, 50, 53, 54]⟩, .bool false, .bool true] rfl w.heap.size rfl 112 _ r1.out rfl hi.out (one_sb3 _ _ _) ?_; intro w2 r2 o2; have r2 := Lib.hid r2; have o2 := Lib.hid o2))
  refine bodyPost_ret (v := .tuple #[.agg #[.string ⟨#[72, 83, 50, 53, 54]⟩, .bool false, .bool true], .bool true]) (results_cell_tmp rfl _ _ w.heap.size 112 _ (0, 0) _ rfl r2.out Tryz.underlying112 rfl hi.out rfl) rfl ⟨rfl, ((((Below.refl _ _).alloc (Nat.le_refl _) _).trans (b1.out.mono (by simp))).trans (o2.out.below (Nat.le_refl _)))⟩

set_option maxRecDepth 100000 in
set_option maxHeartbeats 1000000 in
theorem alg1 (w : World) :
    Calls Tryz.prog 89 #[] w fun e w' => e = .returned (.agg #[.string ⟨#[72, 83, 51, 56, 52]⟩, .bool false, .bool true]) ∧ Below w.heap.size w w' := by
  have G := fun wx => Lib.hid (lookBuiltin ⟨#[72, 83, 51, 56, 52]⟩ hs1 wx)
  have hi : (Tryz.prog.info? 112).map (·.size) = some 3 := by kernel_rfl
  have hi := Lib.hid hi
  go_enter Tryz.func89, Tryz.ntmps89
  go_wp2_with (first | (go_at_call 116; refine (G _).out.mono ?_; rintro e w1 ⟨rfl, b1⟩; have b1 := Lib.hid b1; have r1 := Lib.hid (Row.below (Row.new w _ _ _ rfl) b1.out (by simp))) | (refine wpl_store_row rfl 112 (.tmp 0) (.tmp 1) rfl [.string ⟨#[72, 83, 51, 56, 52]⟩, .bool false, .bool true] rfl w.heap.size rfl 112 _ r1.out rfl hi.out (one_sb3 _ _ _) ?_; intro w2 r2 o2; have r2 := Lib.hid r2; have o2 := Lib.hid o2))
  refine bodyPost_ret (v := .agg #[.string ⟨#[72, 83, 51, 56, 52]⟩, .bool false, .bool true]) (results_cell_row rfl _ _ w.heap.size 112 _ (0, 0) _ rfl r2.out Tryz.underlying112 rfl hi.out) rfl ⟨rfl, ((((Below.refl _ _).alloc (Nat.le_refl _) _).trans (b1.out.mono (by simp))).trans (o2.out.below (Nat.le_refl _)))⟩

set_option maxRecDepth 100000 in
set_option maxHeartbeats 1000000 in
theorem hmacOf1 (w : World) :
    Calls Tryz.prog 43 #[.string ⟨#[72, 83, 51, 56, 52]⟩] w fun e w' => e = .returned (.tuple #[.agg #[.string ⟨#[72, 83, 51, 56, 52]⟩, .bool false, .bool true], .bool true]) ∧ Below w.heap.size w w' := by
  have G := fun wx => Lib.hid (lookSig ⟨#[72, 83, 51, 56, 52]⟩ hs1 wx)
  have hi : (Tryz.prog.info? 112).map (·.size) = some 3 := by kernel_rfl
  have hi := Lib.hid hi
  go_enter Tryz.func43, Tryz.ntmps43
  go_wp2_with (first | (go_at_call 66; refine (G _).out.mono ?_; rintro e w1 ⟨rfl, b1⟩; have b1 := Lib.hid b1; have r1 := Lib.hid (Row.below (Row.new w _ _ _ rfl) b1.out (by simp))) | (refine wpl_store_row rfl 112 (.tmp 2) (.tmp 11) rfl [.string ⟨#[72, 83, 51, 56, 52]⟩, .bool false, .bool true] rfl w.heap.size rfl 112 _ r1.out rfl hi.out (one_sb3 _ _ _) ?_; intro w2 r2 o2; have r2 := Lib.hid r2; have o2 := Lib.hid o2))
  refine bodyPost_ret (v := .tuple #[.agg #[.string ⟨#[72, 83, 51, 56, 52]⟩, .bool false, .bool true], .bool true]) (results_cell_tmp rfl _ _ w.heap.size 112 _ (0, 0) _ rfl r2.out Tryz.underlying112 rfl hi.out rfl) rfl ⟨rfl, ((((Below.refl _ _).alloc (Nat.le_refl _) _).trans (b1.out.mono (by simp))).trans (o2.out.below (Nat.le_refl _)))⟩

set_option maxRecDepth 100000 in
set_option maxHeartbeats 1000000 in
theorem alg2 (w : World) :
    Calls Tryz.prog 92 #[] w fun e w' => e = .returned (.agg #[.string ⟨#[72, 83, 53, 49, 50]⟩, .bool false, .bool true]) ∧ Below w.heap.size w w' := by
  have G := fun wx => Lib.hid (lookBuiltin ⟨#[72, 83, 53, 49, 50]⟩ hs2 wx)
  have hi : (Tryz.prog.info? 112).map (·.size) = some 3 := by kernel_rfl
  have hi := Lib.hid hi
  go_enter Tryz.func92, Tryz.ntmps92
  go_wp2_with (first | (go_at_call 116; refine (G _).out.mono ?_; rintro e w1 ⟨rfl, b1⟩; have b1 := Lib.hid b1; have r1 := Lib.hid (Row.below (Row.new w _ _ _ rfl) b1.out (by simp))) | (refine wpl_store_row rfl 112 (.tmp 0) (.tmp 1) rfl [.string ⟨#[72, 83, 53, 49, 50]⟩, .bool false, .bool true] rfl w.heap.size rfl 112 _ r1.out rfl hi.out (one_sb3 _ _ _) ?_; intro w2 r2 o2; have r2 := Lib.hid r2; have o2 := Lib.hid o2))
  refine bodyPost_ret (v := .agg #[.string ⟨#[72, 83, 53, 49, 50]⟩, .bool false, .bool true]) (results_cell_row rfl _ _ w.heap.size 112 _ (0, 0) _ rfl r2.out Tryz.underlying112 rfl hi.out) rfl ⟨rfl, ((((Below.refl _ _).alloc (Nat.le_refl _) _).trans (b1.out.mono (by simp))).trans (o2.out.below (Nat.le_refl _)))⟩

set_option maxRecDepth 100000 in
set_option maxHeartbeats 1000000 in
theorem hmacOf2 (w : World) :
    Calls Tryz.prog 43 #[.string ⟨#[72, 83, 53, 49, 50]⟩] w fun e w' => e = .returned (.tuple #[.agg #[.string ⟨#[72, 83, 53, 49, 50]⟩, .bool false, .bool true], .bool true]) ∧ Below w.heap.size w w' := by
  have G := fun wx => Lib.hid (lookSig ⟨#[72, 83, 53, 49, 50]⟩ hs2 wx)
  have hi : (Tryz.prog.info? 112).map (·.size) = some 3 := by kernel_rfl
  have hi := Lib.hid hi
  go_enter Tryz.func43, Tryz.ntmps43
  go_wp2_with (first | (go_at_call 66; refine (G _).out.mono ?_; rintro e w1 ⟨rfl, b1⟩; have b1 := Lib.hid b1; have r1 := Lib.hid (Row.below (Row.new w _ _ _ rfl) b1.out (by simp))) | (refine wpl_store_row rfl 112 (.tmp 2) (.tmp 11) rfl [.string ⟨#[72, 83, 53, 49, 50]⟩, .bool false, .bool true] rfl w.heap.size rfl 112 _ r1.out rfl hi.out (one_sb3 _ _ _) ?_; intro w2 r2 o2; have r2 := Lib.hid r2; have o2 := Lib.hid o2))
  refine bodyPost_ret (v := .tuple #[.agg #[.string ⟨#[72, 83, 53, 49, 50]⟩, .bool false, .bool true], .bool true]) (results_cell_tmp rfl _ _ w.heap.size 112 _ (0, 0) _ rfl r2.out Tryz.underlying112 rfl hi.out rfl) rfl ⟨rfl, ((((Below.refl _ _).alloc (Nat.le_refl _) _).trans (b1.out.mono (by simp))).trans (o2.out.below (Nat.le_refl _)))⟩
end Go.Proofs.YtaemdppihpefnaaGreatDoor

/- NewHMACSigner: what lies behind a signer. -/
namespace Go.Proofs.YtaemdppihpefnaaGreatDoor
open Go.RowKit
set_option linter.unusedVariables false

set_option maxRecDepth 100000 in
theorem makeSign (f : FuncId) (w : World) :
    Calls Tryz.prog 86 #[.func (.func f) #[] #[]] w fun e w' => e = .returned (.func (.func 117) #[] #[.pointer (some ⟨w.heap.size, 0, none⟩)]) ∧ Row w' w.heap.size 210 [.func (.func f) #[] #[]] ∧ Below w.heap.size w w' := by
  have hmf : ∀ (fn : Fn) (first cap : Array Value) (w : World), (Instr.makeFunc fn first cap).run Tryz.prog w = .ok (.func fn first cap) w := fun _ _ _ _ => rfl
  go_enter Tryz.func86, Tryz.ntmps86
  go_wp2
  go_ret
  exact ⟨rfl, Row.alloc w _ _, (Below.refl _ _).alloc (Nat.le_refl _) _⟩
/-- A signer lies at block g: its algorithm's name, the function that signs. -/
structure SignerAt (f : FuncId) (nm : ByteArray) (base g : Nat) (w : World) : Prop where
  ex : ∃ c, Row w g 158 [.string nm, .bool false, .bool true, .func (.func 117) #[] #[.pointer (some ⟨c, 0, none⟩)]] ∧ Row w c 210 [.func (.func f) #[] #[]] ∧ base ≤ c
  base : base ≤ g
theorem SignerAt.below {f : FuncId} {nm : ByteArray} {base g : Nat} {w w' : World} (h : SignerAt f nm base g w) (hb : Below w.heap.size w w') : SignerAt f nm base g w' := by
  obtain ⟨⟨c, h1, h2, h3⟩, h4⟩ := h
  exact ⟨⟨c, h1.below hb h1.lt, h2.below hb h2.lt, h3⟩, h4⟩
theorem SignerAt.mono {f : FuncId} {nm : ByteArray} {base b' g : Nat} {w : World} (h : SignerAt f nm base g w) (hb : b' ≤ base) : SignerAt f nm b' g w := by
  obtain ⟨⟨c, h1, h2, h3⟩, h4⟩ := h
  exact ⟨⟨c, h1, h2, by omega⟩, by omega⟩

set_option maxRecDepth 100000 in
set_option maxHeartbeats 2000000 in
theorem funcs0 (w : World) :
    Calls Tryz.prog 68 #[.agg #[.string ⟨#[72, 83, 50, 53, 54]⟩, .bool false, .bool true]] w fun e w' => ∃ c, e = .returned (.func (.func 117) #[] #[.pointer (some ⟨c, 0, none⟩)]) ∧ Row w' c 210 [.func (.func 87) #[] #[]] ∧ w.heap.size ≤ c ∧ Below w.heap.size w w' := by
  go_enter Tryz.func68, Tryz.ntmps68
  go_wp2_with (first | (go_at_call 85; refine (alg0 _).mono ?_; rintro e w1 ⟨rfl, b1⟩; have b1 := Lib.hid b1))
  have hb := (((Below.refl _ _).alloc (Nat.le_refl _) _).trans (b1.out.mono (Below.size ((Below.refl _ _).alloc (Nat.le_refl _) _))))
  have hb := Lib.hid hb
  refine (makeSign _ _).mono ?_
  rintro e wz ⟨rfl, rz, bz⟩
  have rz := Lib.hid rz
  have bz := Lib.hid bz
  go_wp2_with fail
  go_ret
  exact ⟨_, rfl, rz.out, hb.out.size, hb.out.trans (bz.out.mono hb.out.size)⟩

set_option maxRecDepth 100000 in
set_option maxHeartbeats 2000000 in
theorem newSigner0 (w : World) :
    Calls Tryz.prog 44 #[.agg #[.string ⟨#[72, 83, 50, 53, 54]⟩, .bool false, .bool true]] w fun e w' => ∃ g, e = .returned (.iface 153 (.pointer (some ⟨g, 0, none⟩))) ∧ SignerAt 87 ⟨#[72, 83, 50, 53, 54]⟩ w.heap.size g w' ∧ Below w.heap.size w w' := by
  go_enter Tryz.func44, Tryz.ntmps44
  go_wp2_with fail
  obtain ⟨w1, hw1⟩ : ∃ w1 : World, w1 = w.alloc (.cells #[.string ⟨#[72, 83, 50, 53, 54]⟩, .bool false, .bool true] 112) := ⟨_, rfl⟩
  rw [← hw1]
  have R1 : Row w1 w.heap.size 112 [.string ⟨#[72, 83, 50, 53, 54]⟩, .bool false, .bool true] := by rw [hw1]; exact Row.new w _ _ _ rfl
  have B1 := Lib.hid (show Below w.heap.size w w1 by rw [hw1]; exact (Below.refl _ _).alloc (Nat.le_refl _) _)
  have hX : w.heap.size < w1.heap.size := R1.lt
  have c0 : w1.cell? ⟨w.heap.size, 0, none⟩ = some (.string ⟨#[72, 83, 50, 53, 54]⟩) := by rw [R1.cell]; rfl
  have c1 : w1.cell? ⟨w.heap.size, 1, none⟩ = some (.bool false) := by rw [R1.cell]; rfl
  have c2 : w1.cell? ⟨w.heap.size, 2, none⟩ = some (.bool true) := by rw [R1.cell]; rfl
  clear hw1 R1
  generalize hB : w.heap.size = B at *
  have HB := Lib.hid hB
  clear hB
  go_region_held3 (fun w' => w'.cell? ⟨B, 0, none⟩ = some (.string ⟨#[72, 83, 50, 53, 54]⟩) ∧ w'.cell? ⟨B, 1, none⟩ = some (.bool false) ∧ w'.cell? ⟨B, 2, none⟩ = some (.bool true))
    (first | go_keep | exact ⟨(b2.cell (p := ⟨B, 0, none⟩) hX).trans c0, (b2.cell (p := ⟨B, 1, none⟩) hX).trans c1, (b2.cell (p := ⟨B, 2, none⟩) hX).trans c2⟩)
    (first | (go_at_call 68; refine (funcs0 _).mono ?_; rintro e w2 ⟨c, rfl, r2, hc2, b2⟩))
  obtain ⟨w3, hw3⟩ : ∃ w3 : World, w3 = w2.alloc (.cells #[.string ⟨#[72, 83, 50, 53, 54]⟩, .bool false, .bool true, .func (.func 117) #[] #[.pointer (some ⟨c, 0, none⟩)]] 158) := ⟨_, rfl⟩
  rw [← hw3]
  have hs2 : w1.heap.size ≤ w2.heap.size := b2.size
  have hc2' : w1.heap.size ≤ c := hc2
  have S3 := Lib.hid (show SignerAt 87 ⟨#[72, 83, 50, 53, 54]⟩ B w2.heap.size w3 by rw [hw3]; exact ⟨⟨c, Row.new w2 _ _ _ rfl, r2.allocd _, by omega⟩, by omega⟩)
  have b2' : Below w1.heap.size w1 w2 := ⟨b2.os, b2.tape, b2.output, b2.size, b2.block⟩
  have B3 := Lib.hid (show Below B w w3 by rw [hw3]; exact (B1.out.trans (b2'.mono (by omega))).trans (((Below.refl _ _).alloc (Nat.le_refl _) _).mono (by omega)))
  clear hw3 b2 b2' r2 hc2 hc2' hs2
  go_wp2_with fail
  go_ret
  rw [HB.out]
  exact ⟨_, rfl, S3.out, B3.out⟩

set_option maxRecDepth 100000 in
set_option maxHeartbeats 2000000 in
theorem newVerifier0 (w : World) :
    Calls Tryz.prog 45 #[.agg #[.string ⟨#[72, 83, 50, 53, 54]⟩, .bool false, .bool true]] w fun e w' => ∃ g h, e = .returned (.iface 159 (.pointer (some ⟨h, 0, none⟩))) ∧ Row w' h 161 [.iface 153 (.pointer (some ⟨g, 0, none⟩))] ∧ SignerAt 87 ⟨#[72, 83, 50, 53, 54]⟩ w.heap.size g w' ∧ Below w.heap.size w w' := by
  go_enter Tryz.func45, Tryz.ntmps45
  go_wp2_with fail
  refine (newSigner0 _).mono ?_
  rintro e w2 ⟨g, rfl, s2, b2⟩
  have hb : Below w.heap.size w w2 := ((Below.refl _ _).alloc (Nat.le_refl _) _).trans (b2.mono (by simp))
  have S2 := Lib.hid (s2.mono (b' := w.heap.size) (by simp))
  have B2 := Lib.hid hb
  clear s2 b2 hb
  go_wp2_with fail
  go_ret
  exact ⟨g, w2.heap.size, rfl, Row.new w2 _ _ _ rfl, S2.out.below ((Below.refl _ _).alloc (Nat.le_refl _) _), B2.out.trans (((Below.refl _ _).alloc (Nat.le_refl _) _).mono B2.out.size)⟩

set_option maxRecDepth 100000 in
set_option maxHeartbeats 2000000 in
theorem funcs1 (w : World) :
    Calls Tryz.prog 68 #[.agg #[.string ⟨#[72, 83, 51, 56, 52]⟩, .bool false, .bool true]] w fun e w' => ∃ c, e = .returned (.func (.func 117) #[] #[.pointer (some ⟨c, 0, none⟩)]) ∧ Row w' c 210 [.func (.func 90) #[] #[]] ∧ w.heap.size ≤ c ∧ Below w.heap.size w w' := by
  go_enter Tryz.func68, Tryz.ntmps68
  go_wp2_with (first | (go_at_call 85; refine (alg0 _).mono ?_; rintro e w1 ⟨rfl, b1⟩; have b1 := Lib.hid b1) | (go_at_call 89; refine (alg1 _).mono ?_; rintro e w2 ⟨rfl, b2⟩; have b2 := Lib.hid b2))
  have hb := ((((Below.refl _ _).alloc (Nat.le_refl _) _).trans (b1.out.mono (Below.size ((Below.refl _ _).alloc (Nat.le_refl _) _)))).trans (b2.out.mono (Below.size (((Below.refl _ _).alloc (Nat.le_refl _) _).trans (b1.out.mono (Below.size ((Below.refl _ _).alloc (Nat.le_refl _) _)))))))
  have hb := Lib.hid hb
  refine (makeSign _ _).mono ?_
  rintro e wz ⟨rfl, rz, bz⟩
  have rz := Lib.hid rz
  have bz := Lib.hid bz
  go_wp2_with fail
  go_ret
  exact ⟨_, rfl, rz.out, hb.out.size, hb.out.trans (bz.out.mono hb.out.size)⟩

set_option maxRecDepth 100000 in
set_option maxHeartbeats 2000000 in
theorem newSigner1 (w : World) :
    Calls Tryz.prog 44 #[.agg #[.string ⟨#[72, 83, 51, 56, 52]⟩, .bool false, .bool true]] w fun e w' => ∃ g, e = .returned (.iface 153 (.pointer (some ⟨g, 0, none⟩))) ∧ SignerAt 90 ⟨#[72, 83, 51, 56, 52]⟩ w.heap.size g w' ∧ Below w.heap.size w w' := by
  go_enter Tryz.func44, Tryz.ntmps44
  go_wp2_with fail
  obtain ⟨w1, hw1⟩ : ∃ w1 : World, w1 = w.alloc (.cells #[.string ⟨#[72, 83, 51, 56, 52]⟩, .bool false, .bool true] 112) := ⟨_, rfl⟩
  rw [← hw1]
  have R1 : Row w1 w.heap.size 112 [.string ⟨#[72, 83, 51, 56, 52]⟩, .bool false, .bool true] := by rw [hw1]; exact Row.new w _ _ _ rfl
  have B1 := Lib.hid (show Below w.heap.size w w1 by rw [hw1]; exact (Below.refl _ _).alloc (Nat.le_refl _) _)
  have hX : w.heap.size < w1.heap.size := R1.lt
  have c0 : w1.cell? ⟨w.heap.size, 0, none⟩ = some (.string ⟨#[72, 83, 51, 56, 52]⟩) := by rw [R1.cell]; rfl
  have c1 : w1.cell? ⟨w.heap.size, 1, none⟩ = some (.bool false) := by rw [R1.cell]; rfl
  have c2 : w1.cell? ⟨w.heap.size, 2, none⟩ = some (.bool true) := by rw [R1.cell]; rfl
  clear hw1 R1
  generalize hB : w.heap.size = B at *
  have HB := Lib.hid hB
  clear hB
  go_region_held3 (fun w' => w'.cell? ⟨B, 0, none⟩ = some (.string ⟨#[72, 83, 51, 56, 52]⟩) ∧ w'.cell? ⟨B, 1, none⟩ = some (.bool false) ∧ w'.cell? ⟨B, 2, none⟩ = some (.bool true))
    (first | go_keep | exact ⟨(b2.cell (p := ⟨B, 0, none⟩) hX).trans c0, (b2.cell (p := ⟨B, 1, none⟩) hX).trans c1, (b2.cell (p := ⟨B, 2, none⟩) hX).trans c2⟩)
    (first | (go_at_call 68; refine (funcs1 _).mono ?_; rintro e w2 ⟨c, rfl, r2, hc2, b2⟩))
  obtain ⟨w3, hw3⟩ : ∃ w3 : World, w3 = w2.alloc (.cells #[.string ⟨#[72, 83, 51, 56, 52]⟩, .bool false, .bool true, .func (.func 117) #[] #[.pointer (some ⟨c, 0, none⟩)]] 158) := ⟨_, rfl⟩
  rw [← hw3]
  have hs2 : w1.heap.size ≤ w2.heap.size := b2.size
  have hc2' : w1.heap.size ≤ c := hc2
  have S3 := Lib.hid (show SignerAt 90 ⟨#[72, 83, 51, 56, 52]⟩ B w2.heap.size w3 by rw [hw3]; exact ⟨⟨c, Row.new w2 _ _ _ rfl, r2.allocd _, by omega⟩, by omega⟩)
  have b2' : Below w1.heap.size w1 w2 := ⟨b2.os, b2.tape, b2.output, b2.size, b2.block⟩
  have B3 := Lib.hid (show Below B w w3 by rw [hw3]; exact (B1.out.trans (b2'.mono (by omega))).trans (((Below.refl _ _).alloc (Nat.le_refl _) _).mono (by omega)))
  clear hw3 b2 b2' r2 hc2 hc2' hs2
  go_wp2_with fail
  go_ret
  rw [HB.out]
  exact ⟨_, rfl, S3.out, B3.out⟩

set_option maxRecDepth 100000 in
set_option maxHeartbeats 2000000 in
theorem newVerifier1 (w : World) :
    Calls Tryz.prog 45 #[.agg #[.string ⟨#[72, 83, 51, 56, 52]⟩, .bool false, .bool true]] w fun e w' => ∃ g h, e = .returned (.iface 159 (.pointer (some ⟨h, 0, none⟩))) ∧ Row w' h 161 [.iface 153 (.pointer (some ⟨g, 0, none⟩))] ∧ SignerAt 90 ⟨#[72, 83, 51, 56, 52]⟩ w.heap.size g w' ∧ Below w.heap.size w w' := by
  go_enter Tryz.func45, Tryz.ntmps45
  go_wp2_with fail
  refine (newSigner1 _).mono ?_
  rintro e w2 ⟨g, rfl, s2, b2⟩
  have hb : Below w.heap.size w w2 := ((Below.refl _ _).alloc (Nat.le_refl _) _).trans (b2.mono (by simp))
  have S2 := Lib.hid (s2.mono (b' := w.heap.size) (by simp))
  have B2 := Lib.hid hb
  clear s2 b2 hb
  go_wp2_with fail
  go_ret
  exact ⟨g, w2.heap.size, rfl, Row.new w2 _ _ _ rfl, S2.out.below ((Below.refl _ _).alloc (Nat.le_refl _) _), B2.out.trans (((Below.refl _ _).alloc (Nat.le_refl _) _).mono B2.out.size)⟩

set_option maxRecDepth 100000 in
set_option maxHeartbeats 2000000 in
theorem funcs2 (w : World) :
    Calls Tryz.prog 68 #[.agg #[.string ⟨#[72, 83, 53, 49, 50]⟩, .bool false, .bool true]] w fun e w' => ∃ c, e = .returned (.func (.func 117) #[] #[.pointer (some ⟨c, 0, none⟩)]) ∧ Row w' c 210 [.func (.func 93) #[] #[]] ∧ w.heap.size ≤ c ∧ Below w.heap.size w w' := by
  go_enter Tryz.func68, Tryz.ntmps68
  go_wp2_with (first | (go_at_call 85; refine (alg0 _).mono ?_; rintro e w1 ⟨rfl, b1⟩; have b1 := Lib.hid b1) | (go_at_call 89; refine (alg1 _).mono ?_; rintro e w2 ⟨rfl, b2⟩; have b2 := Lib.hid b2) | (go_at_call 92; refine (alg2 _).mono ?_; rintro e w3 ⟨rfl, b3⟩; have b3 := Lib.hid b3))
  have hb := (((((Below.refl _ _).alloc (Nat.le_refl _) _).trans (b1.out.mono (Below.size ((Below.refl _ _).alloc (Nat.le_refl _) _)))).trans (b2.out.mono (Below.size (((Below.refl _ _).alloc (Nat.le_refl _) _).trans (b1.out.mono (Below.size ((Below.refl _ _).alloc (Nat.le_refl _) _))))))).trans (b3.out.mono (Below.size ((((Below.refl _ _).alloc (Nat.le_refl _) _).trans (b1.out.mono (Below.size ((Below.refl _ _).alloc (Nat.le_refl _) _)))).trans (b2.out.mono (Below.size (((Below.refl _ _).alloc (Nat.le_refl _) _).trans (b1.out.mono (Below.size ((Below.refl _ _).alloc (Nat.le_refl _) _))))))))))
  have hb := Lib.hid hb
  refine (makeSign _ _).mono ?_
  rintro e wz ⟨rfl, rz, bz⟩
  have rz := Lib.hid rz
  have bz := Lib.hid bz
  go_wp2_with fail
  go_ret
  exact ⟨_, rfl, rz.out, hb.out.size, hb.out.trans (bz.out.mono hb.out.size)⟩

set_option maxRecDepth 100000 in
set_option maxHeartbeats 2000000 in
theorem newSigner2 (w : World) :
    Calls Tryz.prog 44 #[.agg #[.string ⟨#[72, 83, 53, 49, 50]⟩, .bool false, .bool true]] w fun e w' => ∃ g, e = .returned (.iface 153 (.pointer (some ⟨g, 0, none⟩))) ∧ SignerAt 93 ⟨#[72, 83, 53, 49, 50]⟩ w.heap.size g w' ∧ Below w.heap.size w w' := by
  go_enter Tryz.func44, Tryz.ntmps44
  go_wp2_with fail
  obtain ⟨w1, hw1⟩ : ∃ w1 : World, w1 = w.alloc (.cells #[.string ⟨#[72, 83, 53, 49, 50]⟩, .bool false, .bool true] 112) := ⟨_, rfl⟩
  rw [← hw1]
  have R1 : Row w1 w.heap.size 112 [.string ⟨#[72, 83, 53, 49, 50]⟩, .bool false, .bool true] := by rw [hw1]; exact Row.new w _ _ _ rfl
  have B1 := Lib.hid (show Below w.heap.size w w1 by rw [hw1]; exact (Below.refl _ _).alloc (Nat.le_refl _) _)
  have hX : w.heap.size < w1.heap.size := R1.lt
  have c0 : w1.cell? ⟨w.heap.size, 0, none⟩ = some (.string ⟨#[72, 83, 53, 49, 50]⟩) := by rw [R1.cell]; rfl
  have c1 : w1.cell? ⟨w.heap.size, 1, none⟩ = some (.bool false) := by rw [R1.cell]; rfl
  have c2 : w1.cell? ⟨w.heap.size, 2, none⟩ = some (.bool true) := by rw [R1.cell]; rfl
  clear hw1 R1
  generalize hB : w.heap.size = B at *
  have HB := Lib.hid hB
  clear hB
  go_region_held3 (fun w' => w'.cell? ⟨B, 0, none⟩ = some (.string ⟨#[72, 83, 53, 49, 50]⟩) ∧ w'.cell? ⟨B, 1, none⟩ = some (.bool false) ∧ w'.cell? ⟨B, 2, none⟩ = some (.bool true))
    (first | go_keep | exact ⟨(b2.cell (p := ⟨B, 0, none⟩) hX).trans c0, (b2.cell (p := ⟨B, 1, none⟩) hX).trans c1, (b2.cell (p := ⟨B, 2, none⟩) hX).trans c2⟩)
    (first | (go_at_call 68; refine (funcs2 _).mono ?_; rintro e w2 ⟨c, rfl, r2, hc2, b2⟩))
  obtain ⟨w3, hw3⟩ : ∃ w3 : World, w3 = w2.alloc (.cells #[.string ⟨#[72, 83, 53, 49, 50]⟩, .bool false, .bool true, .func (.func 117) #[] #[.pointer (some ⟨c, 0, none⟩)]] 158) := ⟨_, rfl⟩
  rw [← hw3]
  have hs2 : w1.heap.size ≤ w2.heap.size := b2.size
  have hc2' : w1.heap.size ≤ c := hc2
  have S3 := Lib.hid (show SignerAt 93 ⟨#[72, 83, 53, 49, 50]⟩ B w2.heap.size w3 by rw [hw3]; exact ⟨⟨c, Row.new w2 _ _ _ rfl, r2.allocd _, by omega⟩, by omega⟩)
  have b2' : Below w1.heap.size w1 w2 := ⟨b2.os, b2.tape, b2.output, b2.size, b2.block⟩
  have B3 := Lib.hid (show Below B w w3 by rw [hw3]; exact (B1.out.trans (b2'.mono (by omega))).trans (((Below.refl _ _).alloc (Nat.le_refl _) _).mono (by omega)))
  clear hw3 b2 b2' r2 hc2 hc2' hs2
  go_wp2_with fail
  go_ret
  rw [HB.out]
  exact ⟨_, rfl, S3.out, B3.out⟩

set_option maxRecDepth 100000 in
set_option maxHeartbeats 2000000 in
theorem newVerifier2 (w : World) :
    Calls Tryz.prog 45 #[.agg #[.string ⟨#[72, 83, 53, 49, 50]⟩, .bool false, .bool true]] w fun e w' => ∃ g h, e = .returned (.iface 159 (.pointer (some ⟨h, 0, none⟩))) ∧ Row w' h 161 [.iface 153 (.pointer (some ⟨g, 0, none⟩))] ∧ SignerAt 93 ⟨#[72, 83, 53, 49, 50]⟩ w.heap.size g w' ∧ Below w.heap.size w w' := by
  go_enter Tryz.func45, Tryz.ntmps45
  go_wp2_with fail
  refine (newSigner2 _).mono ?_
  rintro e w2 ⟨g, rfl, s2, b2⟩
  have hb : Below w.heap.size w w2 := ((Below.refl _ _).alloc (Nat.le_refl _) _).trans (b2.mono (by simp))
  have S2 := Lib.hid (s2.mono (b' := w.heap.size) (by simp))
  have B2 := Lib.hid hb
  clear s2 b2 hb
  go_wp2_with fail
  go_ret
  exact ⟨g, w2.heap.size, rfl, Row.new w2 _ _ _ rfl, S2.out.below ((Below.refl _ _).alloc (Nat.le_refl _) _), B2.out.trans (((Below.refl _ _).alloc (Nat.le_refl _) _).mono B2.out.size)⟩
end Go.Proofs.YtaemdppihpefnaaGreatDoor

/- crypto/subtle.ConstantTimeCompare at equal bytes. -/
namespace Go.Proofs.YtaemdppihpefnaaGreatDoor
open Go.RowKit
set_option linter.unusedVariables false

theorem xor_self8 (z : Int) (h : 0 ≤ z ∧ z < 256) : bits .or .u8 0 (bits .xor .u8 z z) = 0 := by
  have h1 := u8_xor z z h.1 h.2 h.1 h.2
  rw [h1, Nat.xor_self]
  rfl

set_option maxRecDepth 100000 in
set_option maxHeartbeats 1000000 in
theorem byteEq (w : World) :
    Calls Tryz.prog 252 #[.int .u8 0, .int .u8 0] w fun e w' => e = .returned (.int .i64 1) ∧ w = w' := by
  have hb : (callFunc 253 #[.bool true]).run Tryz.prog w = .ok (.value (.int .u8 1)) w := by
    have h : (Extern.find Tryz.f253).isSome = true := by kernel_rfl
    rw [run_callFunc_extern Tryz.func253 (by kernel_rfl) (by kernel_rfl) (by kernel_rfl) (Option.some_get h).symm]
    have e : ((Extern.find Tryz.f253).get h #[.bool true]).run Tryz.prog w = .ok (.int .u8 1) w := by kernel_rfl
    rw [e]; rfl
  go_enter Tryz.func252, Tryz.ntmps252
  go_wp2_with fail
  go_ret
  exact ⟨rfl, rfl⟩

set_option maxRecDepth 100000 in
set_option maxHeartbeats 4000000 in
theorem ctc71 (v1 v2 : Value) (xs : List Int) (w : World) (h1 : Bs w v1 xs) (h2 : Bs w v2 xs) (hb : Byt xs) (hl : xs.length ≤ 65536) :
    Calls Tryz.prog 251 #[v1, v2] w fun e w' => e = .returned (.int .i64 1) ∧ ∃ n, w' = w.drewN n := by
  obtain ⟨p, c, rfl, _, _, hx⟩ := id h1
  obtain ⟨q, d, rfl, _, _, hy⟩ := id h2
  have Hx := Lib.hid hx
  have Hy := Lib.hid hy
  have Hb := Lib.hid hb
  clear h1 h2 hx hy hb
  go_enter Tryz.func251, Tryz.ntmps251
  go_wp2_with fail
  go_loopw [5, 6] (fun v i wr => ∃ k n : Nat, k ≤ xs.length ∧ v = .int .u8 0 ∧ i = .int .i64 k ∧ wr = w.drewN n) (fun _ i _ => xs.length - (intOf i).toNat)
  case atStart => exact ⟨0, 0, by omega, rfl, rfl, rfl⟩
  case round =>
    obtain ⟨k, n, hk, rfl, rfl, rfl⟩ := hrel
    by_cases hlt : k < xs.length
    · obtain ⟨b1, o1, rfl, hx⟩ := Hx.out (by omega)
      obtain ⟨b2, o2, rfl, hy⟩ := Hy.out (by omega)
      have c1 : (w.drewN n).cell? ⟨b1, o1 + k, none⟩ = some (.int .u8 (xs.getD k 0)) := hx k hlt
      have c2 : (w.drewN n).cell? ⟨b2, o2 + k, none⟩ = some (.int .u8 (xs.getD k 0)) := hy k hlt
      have hxor := xor_self8 (xs.getD k 0) (Hb.out.at hlt)
      have hki : (k : Int) < xs.length := by omega
      clear hx hy
      generalize xs.getD k 0 = z at *
      generalize hwn : w.drewN n = wn at *
      have Hwn := Lib.hid hwn
      clear hwn
      go_wp2_with fail
      go_quiet (fail)
      go_wp2_with fail
      refine ⟨⟨k + 1, n + nq, by omega, rfl, by go_num, ?_⟩, by simp [intOf]; omega⟩
      rw [← Hwn.out]
      simp only [World.drewN, Nat.add_assoc]
    · obtain rfl : k = xs.length := by omega
      go_wp2_with (go_at_call 252; refine (byteEq _).mono ?_; rintro e w' ⟨rfl, rfl⟩)
      go_ret
      exact ⟨rfl, n, rfl⟩

set_option maxRecDepth 100000 in
theorem ctc (v1 v2 : Value) (xs : List Int) (w : World) (h1 : Bs w v1 xs) (h2 : Bs w v2 xs) (hb : Byt xs) (hl : xs.length ≤ 65536) :
    Calls Tryz.prog 250 #[v1, v2] w fun e w' => e = .returned (.int .i64 1) ∧ ∃ n, w' = w.drewN n := by
  have G := Lib.hid (ctc71 v1 v2 xs w h1 h2 hb hl)
  clear h1 h2 hb
  go_enter Tryz.func250, Tryz.ntmps250
  go_wp2_with (go_at_call 251; refine G.out.mono ?_; rintro e w' ⟨rfl, n, rfl⟩)
  go_ret
  exact ⟨rfl, n, rfl⟩
end Go.Proofs.YtaemdppihpefnaaGreatDoor
