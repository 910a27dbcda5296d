/- The built-in algorithms of pub/jwx/jwa: what the three lists hold. -/
import Derived.Test.YtaemdppihpefnaaGreatDoorMapLaw
import Derived.Test.YtaemdppihpefnaaGreatDoorProg
import Derived.Deep.DeepCutAuto
import Derived.Outline
namespace Go.Proofs.YtaemdppihpefnaaGreatDoor
open Go.RowKit
set_option linter.unusedVariables false

/-- The algorithms of content encryption: names, and flags. -/
def ceT : List (ByteArray × List Bool) := [
  (⟨#[65, 49, 50, 56, 67, 66, 67, 45, 72, 83, 50, 53, 54]⟩, [false]),
  (⟨#[65, 49, 50, 56, 71, 67, 77]⟩, [false]),
  (⟨#[65, 49, 57, 50, 67, 66, 67, 45, 72, 83, 51, 56, 52]⟩, [false]),
  (⟨#[65, 49, 57, 50, 71, 67, 77]⟩, [false]),
  (⟨#[65, 50, 53, 54, 67, 66, 67, 45, 72, 83, 53, 49, 50]⟩, [false]),
  (⟨#[65, 50, 53, 54, 71, 67, 77]⟩, [false])]
/-- The algorithms of key encryption: names, and flags. -/
def keT : List (ByteArray × List Bool) := [
  (⟨#[65, 49, 50, 56, 71, 67, 77, 75, 87]⟩, [false, true]),
  (⟨#[65, 49, 50, 56, 75, 87]⟩, [false, true]),
  (⟨#[65, 49, 57, 50, 71, 67, 77, 75, 87]⟩, [false, true]),
  (⟨#[65, 49, 57, 50, 75, 87]⟩, [false, true]),
  (⟨#[65, 50, 53, 54, 71, 67, 77, 75, 87]⟩, [false, true]),
  (⟨#[65, 50, 53, 54, 75, 87]⟩, [false, true]),
  (⟨#[100, 105, 114]⟩, [false, true]),
  (⟨#[69, 67, 68, 72, 45, 69, 83]⟩, [false, false]),
  (⟨#[69, 67, 68, 72, 45, 69, 83, 43, 65, 49, 50, 56, 75, 87]⟩, [false, false]),
  (⟨#[69, 67, 68, 72, 45, 69, 83, 43, 65, 49, 57, 50, 75, 87]⟩, [false, false]),
  (⟨#[69, 67, 68, 72, 45, 69, 83, 43, 65, 50, 53, 54, 75, 87]⟩, [false, false]),
  (⟨#[80, 66, 69, 83, 50, 45, 72, 83, 50, 53, 54, 43, 65, 49, 50, 56, 75, 87]⟩, [false, true]),
  (⟨#[80, 66, 69, 83, 50, 45, 72, 83, 51, 56, 52, 43, 65, 49, 57, 50, 75, 87]⟩, [false, true]),
  (⟨#[80, 66, 69, 83, 50, 45, 72, 83, 53, 49, 50, 43, 65, 50, 53, 54, 75, 87]⟩, [false, true]),
  (⟨#[82, 83, 65, 49, 95, 53]⟩, [true, false]),
  (⟨#[82, 83, 65, 45, 79, 65, 69, 80]⟩, [false, false]),
  (⟨#[82, 83, 65, 45, 79, 65, 69, 80, 45, 50, 53, 54]⟩, [false, false]),
  (⟨#[82, 83, 65, 45, 79, 65, 69, 80, 45, 51, 56, 52]⟩, [false, false]),
  (⟨#[82, 83, 65, 45, 79, 65, 69, 80, 45, 53, 49, 50]⟩, [false, false])]
/-- The algorithms of signature: names, and flags. -/
def saT : List (ByteArray × List Bool) := [
  (⟨#[69, 83, 50, 53, 54]⟩, [false, false]),
  (⟨#[69, 83, 50, 53, 54, 75]⟩, [false, false]),
  (⟨#[69, 83, 51, 56, 52]⟩, [false, false]),
  (⟨#[69, 83, 53, 49, 50]⟩, [false, false]),
  (⟨#[69, 100, 68, 83, 65]⟩, [true, false]),
  (⟨#[69, 100, 50, 53, 53, 49, 57]⟩, [false, false]),
  (⟨#[72, 83, 50, 53, 54]⟩, [false, true]),
  (⟨#[72, 83, 51, 56, 52]⟩, [false, true]),
  (⟨#[72, 83, 53, 49, 50]⟩, [false, true]),
  (⟨#[110, 111, 110, 101]⟩, [false, false]),
  (⟨#[80, 83, 50, 53, 54]⟩, [false, false]),
  (⟨#[80, 83, 51, 56, 52]⟩, [false, false]),
  (⟨#[80, 83, 53, 49, 50]⟩, [false, false]),
  (⟨#[82, 83, 50, 53, 54]⟩, [false, false]),
  (⟨#[82, 83, 51, 56, 52]⟩, [false, false]),
  (⟨#[82, 83, 53, 49, 50]⟩, [false, false])]
/-- The cells of such an algorithm; of a list of them. -/
def algCells (x : ByteArray × List Bool) : List Value := .string x.1 :: x.2.map Value.bool
def listCells (l : List (ByteArray × List Bool)) : List Value := l.flatMap algCells
def ceZ : List Value := listCells (List.replicate 6 (⟨#[]⟩, [false]))
def keZ : List Value := listCells (List.replicate 19 (⟨#[]⟩, [false, false]))
def saZ : List Value := listCells (List.replicate 16 (⟨#[]⟩, [false, false]))
theorem one_sb2 (s : ByteArray) (a : Bool) : ∀ v ∈ [Value.string s, .bool a], v.oneCell' = true := by
  intro v hv; simp only [List.mem_cons, List.not_mem_nil, or_false] at hv; rcases hv with rfl | rfl <;> rfl
theorem one_sb3 (s : ByteArray) (a b : Bool) : ∀ v ∈ [Value.string s, .bool a, .bool b], v.oneCell' = true := by
  intro v hv; simp only [List.mem_cons, List.not_mem_nil, or_false] at hv; rcases hv with rfl | rfl | rfl <;> rfl
/-- A row of so many cells. -/
def RowN (w : World) (g : Nat) (t : TypeId) (cur : List Value) (n : Nat) : Prop := Row w g t cur ∧ cur.length = n
theorem RowN.splice {w' : World} {g : Nat} {t : TypeId} {cur cs : List Value} {n off : Nat} (h : cur.length = n) (r : Row w' g t (_root_.Go.splice cur off cs)) (hl : off + cs.length ≤ n) : RowN w' g t (_root_.Go.splice cur off cs) n :=
  ⟨r, by rw [length_splice _ _ _ (by omega)]; exact h⟩

set_option maxRecDepth 100000 in
theorem ceNew (s : ByteArray) (w : World) :
    Calls Tryz.prog 168 #[.string s] w fun e w' => e = .returned (.agg #[.string s, .bool false]) ∧ Below w.heap.size w w' := by
  go_enter Tryz.func168, Tryz.ntmps168
  go_wp2
  refine bodyPost_ret (v := .agg #[.string s, .bool false]) (by simp [results, Tryz.results168, go_sem]) rfl ⟨rfl, ?_⟩
  exact (Below.refl _ _).alloc (Nat.le_refl _) _

set_option maxRecDepth 100000 in
set_option maxHeartbeats 4000000 in
theorem ceList (w : World) :
    Calls Tryz.prog 144 #[] w fun e w' => e = .returned (.slice (some ⟨w.heap.size, 0, none⟩) 6 6) ∧ Row w' w.heap.size 228 (listCells ceT) ∧ Below w.heap.size w w' := by
  have hmk : ∀ wx : World, (Instr.makeSlice 286 (.int .i64 6) (.int .i64 6)).run Tryz.prog wx = .ok (.slice (some ⟨wx.heap.size, 0, none⟩) 6 6) (wx.alloc (.cells ceZ.toArray 228)) := fun _ => by kernel_rfl
  have hi : (Tryz.prog.info? 228).map (·.size) = some 2 := by kernel_rfl
  have hi := Lib.hid hi
  go_enter Tryz.func144, Tryz.ntmps144
  go_upto_region 2 with (fail)
  have R : Hid (RowN (w.alloc (.cells ceZ.toArray 228)) w.heap.size 228 ceZ 12) := Lib.hid ⟨Row.alloc w _ _, by kernel_rfl⟩
  have B : Hid (Below w.heap.size w (w.alloc (.cells ceZ.toArray 228))) := Lib.hid ((Below.refl _ _).alloc (Nat.le_refl _) _)
  generalize w.alloc (.cells ceZ.toArray 228) = w1 at *
  clear hmk
  go_wp2_with (first | (go_at_call 168; refine (ceNew _ _).mono ?_; rintro e wn ⟨rfl, bn⟩; have Rn := Lib.hid (⟨R.out.1.below bn R.out.1.lt, R.out.2⟩ : RowN _ _ _ _ _); have Bn := Lib.hid (B.out.trans (bn.mono B.out.size)); clear R B bn; have R := Rn; have B := Bn; clear Rn Bn) | (refine wpl_store_part rfl _ _ _ rfl _ rfl w.heap.size _ rfl 228 _ R.out.1 (by rw [R.out.2]; decide) hi.out (one_sb2 _ _) ?_; intro wn rn on; have Rn := Lib.hid (RowN.splice R.out.2 rn (by decide)); have Bn := Lib.hid (B.out.trans (on.below (Nat.le_refl _))); clear R B rn on; have R := Rn; have B := Bn; clear Rn Bn))
  go_ret
  refine ⟨rfl, ?_, B.out⟩
  have r := R.out.1
  refine Eq.mp ?_ r
  exact congrArg (Row _ _ _) (by kernel_rfl)

set_option maxRecDepth 100000 in
theorem keNew (s : ByteArray) (w : World) :
    Calls Tryz.prog 169 #[.string s] w fun e w' => e = .returned (.agg #[.string s, .bool false, .bool false]) ∧ Below w.heap.size w w' := by
  go_enter Tryz.func169, Tryz.ntmps169
  go_wp2
  refine bodyPost_ret (v := .agg #[.string s, .bool false, .bool false]) (by simp [results, Tryz.results169, go_sem]) rfl ⟨rfl, ?_⟩
  exact (Below.refl _ _).alloc (Nat.le_refl _) _

set_option maxRecDepth 100000 in
set_option maxHeartbeats 4000000 in
theorem keList (w : World) :
    Calls Tryz.prog 145 #[] w fun e w' => e = .returned (.slice (some ⟨w.heap.size, 0, none⟩) 19 19) ∧ Row w' w.heap.size 226 (listCells keT) ∧ Below w.heap.size w w' := by
  have hmk : ∀ wx : World, (Instr.makeSlice 288 (.int .i64 19) (.int .i64 19)).run Tryz.prog wx = .ok (.slice (some ⟨wx.heap.size, 0, none⟩) 19 19) (wx.alloc (.cells keZ.toArray 226)) := fun _ => by kernel_rfl
  have hi : (Tryz.prog.info? 226).map (·.size) = some 3 := by kernel_rfl
  have hi := Lib.hid hi
  go_enter Tryz.func145, Tryz.ntmps145
  go_upto_region 2 with (fail)
  have R : Hid (RowN (w.alloc (.cells keZ.toArray 226)) w.heap.size 226 keZ 57) := Lib.hid ⟨Row.alloc w _ _, by kernel_rfl⟩
  have B : Hid (Below w.heap.size w (w.alloc (.cells keZ.toArray 226))) := Lib.hid ((Below.refl _ _).alloc (Nat.le_refl _) _)
  generalize w.alloc (.cells keZ.toArray 226) = w1 at *
  clear hmk
  go_wp2_with (first | (go_at_call 169; refine (keNew _ _).mono ?_; rintro e wn ⟨rfl, bn⟩; have Rn := Lib.hid (⟨R.out.1.below bn R.out.1.lt, R.out.2⟩ : RowN _ _ _ _ _); have Bn := Lib.hid (B.out.trans (bn.mono B.out.size)); clear R B bn; have R := Rn; have B := Bn; clear Rn Bn) | (refine wpl_store_part rfl _ _ _ rfl _ rfl w.heap.size _ rfl 226 _ R.out.1 (by rw [R.out.2]; decide) hi.out (one_sb3 _ _ _) ?_; intro wn rn on; have Rn := Lib.hid (RowN.splice R.out.2 rn (by decide)); have Bn := Lib.hid (B.out.trans (on.below (Nat.le_refl _))); clear R B rn on; have R := Rn; have B := Bn; clear Rn Bn))
  go_ret
  refine ⟨rfl, ?_, B.out⟩
  have r := R.out.1
  refine Eq.mp ?_ r
  exact congrArg (Row _ _ _) (by kernel_rfl)

set_option maxRecDepth 100000 in
theorem saNew (s : ByteArray) (w : World) :
    Calls Tryz.prog 170 #[.string s] w fun e w' => e = .returned (.agg #[.string s, .bool false, .bool false]) ∧ Below w.heap.size w w' := by
  go_enter Tryz.func170, Tryz.ntmps170
  go_wp2
  refine bodyPost_ret (v := .agg #[.string s, .bool false, .bool false]) (by simp [results, Tryz.results170, go_sem]) rfl ⟨rfl, ?_⟩
  exact (Below.refl _ _).alloc (Nat.le_refl _) _

set_option maxRecDepth 100000 in
set_option maxHeartbeats 4000000 in
theorem saList (w : World) :
    Calls Tryz.prog 146 #[] w fun e w' => e = .returned (.slice (some ⟨w.heap.size, 0, none⟩) 16 16) ∧ Row w' w.heap.size 112 (listCells saT) ∧ Below w.heap.size w w' := by
  have hmk : ∀ wx : World, (Instr.makeSlice 290 (.int .i64 16) (.int .i64 16)).run Tryz.prog wx = .ok (.slice (some ⟨wx.heap.size, 0, none⟩) 16 16) (wx.alloc (.cells saZ.toArray 112)) := fun _ => by kernel_rfl
  have hi : (Tryz.prog.info? 112).map (·.size) = some 3 := by kernel_rfl
  have hi := Lib.hid hi
  go_enter Tryz.func146, Tryz.ntmps146
  go_upto_region 2 with (fail)
  have R : Hid (RowN (w.alloc (.cells saZ.toArray 112)) w.heap.size 112 saZ 48) := Lib.hid ⟨Row.alloc w _ _, by kernel_rfl⟩
  have B : Hid (Below w.heap.size w (w.alloc (.cells saZ.toArray 112))) := Lib.hid ((Below.refl _ _).alloc (Nat.le_refl _) _)
  generalize w.alloc (.cells saZ.toArray 112) = w1 at *
  clear hmk
  go_wp2_with (first | (go_at_call 170; refine (saNew _ _).mono ?_; rintro e wn ⟨rfl, bn⟩; have Rn := Lib.hid (⟨R.out.1.below bn R.out.1.lt, R.out.2⟩ : RowN _ _ _ _ _); have Bn := Lib.hid (B.out.trans (bn.mono B.out.size)); clear R B bn; have R := Rn; have B := Bn; clear Rn Bn) | (refine wpl_store_part rfl _ _ _ rfl _ rfl w.heap.size _ rfl 112 _ R.out.1 (by rw [R.out.2]; decide) hi.out (one_sb3 _ _ _) ?_; intro wn rn on; have Rn := Lib.hid (RowN.splice R.out.2 rn (by decide)); have Bn := Lib.hid (B.out.trans (on.below (Nat.le_refl _))); clear R B rn on; have R := Rn; have B := Bn; clear Rn Bn))
  go_ret
  refine ⟨rfl, ?_, B.out⟩
  have r := R.out.1
  refine Eq.mp ?_ r
  exact congrArg (Row _ _ _) (by kernel_rfl)
end Go.Proofs.YtaemdppihpefnaaGreatDoor
