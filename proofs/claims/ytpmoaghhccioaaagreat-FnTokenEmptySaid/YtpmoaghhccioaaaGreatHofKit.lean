/- What the walks of spec.HashOf want. -/
import Derived.Test.YtpmoaghhccioaaaGreatRoot
import Derived.Test.YtpmoaghhccioaaaGreatPrimes
import Derived.Test.YtpmoaghhccioaaaGreatBlkKit
namespace Go.Proofs.YtpmoaghhccioaaaGreat
open Go.RowKit
set_option linter.unusedVariables false

/-- The cells of a Hash, its eight words as a list. -/
def hcl (sz bl : Int) (wd : Bool) (kv : Value) (V : List Int) : List Value := .int .i64 sz :: .int .i64 bl :: .bool wd :: kv :: cs64 V
theorem hcl_eq (sz bl : Int) (wd : Bool) (kv : Value) (s : S8) : hcl sz bl wd kv (words8 s) = hc sz bl wd kv s := rfl
theorem hcl_word {sz bl : Int} {wd : Bool} {kv : Value} {V : List Int} {j : Nat} (hj : j < V.length) : (hcl sz bl wd kv V)[4 + j]? = some (.int .u64 (V.getD j 0)) := by
  rw [Nat.add_comm]; exact get_cs64 V j hj
theorem hcl_set (sz bl : Int) (wd : Bool) (kv : Value) (V : List Int) (j : Nat) (z : Int) : (hcl sz bl wd kv V).set (4 + j) (.int .u64 z) = hcl sz bl wd kv (V.set j z) := by
  rw [Nat.add_comm]; simp [hcl, cs64, List.map_set]

/-- A Hash whose keys are n words. -/
def HashOk (w : World) (sz bl : Int) (wd : Bool) (nk : Nat) (e : Ending) : Prop :=
  ∃ (g c : Nat) (s : S8) (zk : Nat → Int), e = .returned (hv sz bl wd (.slice (some ⟨g, 0, none⟩) nk c) s) ∧ g < w.heap.size ∧ ∀ i, i < nk → w.cell? ⟨g, i, none⟩ = some (.int .u64 (zk i))

/-- A word of eight, by its number. -/
theorem index8 (t : S8) (k : Nat) (hk : k < 8) : ∃ x : Int, ∀ wx, (Instr.index 49 (.agg #[.int .u64 t.a, .int .u64 t.b, .int .u64 t.c, .int .u64 t.d, .int .u64 t.e, .int .u64 t.f, .int .u64 t.g, .int .u64 t.h]) (.int .i64 k)).run Tryz.prog wx = .ok (.int .u64 x) wx := by
  have h : k = 0 ∨ k = 1 ∨ k = 2 ∨ k = 3 ∨ k = 4 ∨ k = 5 ∨ k = 6 ∨ k = 7 := by omega
  rcases h with rfl | rfl | rfl | rfl | rfl | rfl | rfl | rfl
  · exact ⟨t.a, fun wx => by kernel_rfl⟩
  · exact ⟨t.b, fun wx => by kernel_rfl⟩
  · exact ⟨t.c, fun wx => by kernel_rfl⟩
  · exact ⟨t.d, fun wx => by kernel_rfl⟩
  · exact ⟨t.e, fun wx => by kernel_rfl⟩
  · exact ⟨t.f, fun wx => by kernel_rfl⟩
  · exact ⟨t.g, fun wx => by kernel_rfl⟩
  · exact ⟨t.h, fun wx => by kernel_rfl⟩

theorem prime_cell {n : Nat} (hn : n < 80) : ∃ p : Int, (csP 408)[n]? = some (.int .u32 p) := by
  have h : n < (found 408).length := by rw [found_all]; exact hn
  exact ⟨((found 408)[n] : Nat), by simp [csP, h]⟩

theorem cs64_snoc {Ks : List Int} {u : Int} : cs64 Ks ++ [Value.int .u64 u] = cs64 (Ks ++ [u]) := by simp [cs64]

theorem set12p {w : World} {g : Nat} {T : TypeId} {c0 c1 c2 c3 c4 c5 c6 c7 c8 c9 c10 c11 : Value} (h : Row w g T [c0, c1, c2, c3, c4, c5, c6, c7, c8, c9, c10, c11]) (y0 y1 y2 y3 y4 y5 y6 y7 y8 y9 y10 y11 : Value) :
    Row ((((((((((((w.setCell ⟨g, 0, none⟩ y0).setCell ⟨g, 1, none⟩ y1).setCell ⟨g, 2, none⟩ y2).setCell ⟨g, 3, none⟩ y3).setCell ⟨g, 4, none⟩ y4).setCell ⟨g, 5, none⟩ y5).setCell ⟨g, 6, none⟩ y6).setCell ⟨g, 7, none⟩ y7).setCell ⟨g, 8, none⟩ y8).setCell ⟨g, 9, none⟩ y9).setCell ⟨g, 10, none⟩ y10).setCell ⟨g, 11, none⟩ y11) g T [y0, y1, y2, y3, y4, y5, y6, y7, y8, y9, y10, y11] :=
  (((((((((((h.set 0 y0).set 1 y1).set 2 y2).set 3 y3).set 4 y4).set 5 y5).set 6 y6).set 7 y7).set 8 y8).set 9 y9).set 10 y10).set 11 y11
theorem but12 (w : World) (g : Nat) (y0 y1 y2 y3 y4 y5 y6 y7 y8 y9 y10 y11 : Value) :
    But g w ((((((((((((w.setCell ⟨g, 0, none⟩ y0).setCell ⟨g, 1, none⟩ y1).setCell ⟨g, 2, none⟩ y2).setCell ⟨g, 3, none⟩ y3).setCell ⟨g, 4, none⟩ y4).setCell ⟨g, 5, none⟩ y5).setCell ⟨g, 6, none⟩ y6).setCell ⟨g, 7, none⟩ y7).setCell ⟨g, 8, none⟩ y8).setCell ⟨g, 9, none⟩ y9).setCell ⟨g, 10, none⟩ y10).setCell ⟨g, 11, none⟩ y11) :=
  (((((((((((But.of_only (Only.set w g 0 y0)).trans (But.of_only (Only.set _ g 1 y1))).trans (But.of_only (Only.set _ g 2 y2))).trans (But.of_only (Only.set _ g 3 y3))).trans (But.of_only (Only.set _ g 4 y4))).trans (But.of_only (Only.set _ g 5 y5))).trans (But.of_only (Only.set _ g 6 y6))).trans (But.of_only (Only.set _ g 7 y7))).trans (But.of_only (Only.set _ g 8 y8))).trans (But.of_only (Only.set _ g 9 y9))).trans (But.of_only (Only.set _ g 10 y10))).trans (But.of_only (Only.set _ g 11 y11))
theorem below12 {B g : Nat} {a w : World} (h : Below B a w) (hg : B ≤ g) (y0 y1 y2 y3 y4 y5 y6 y7 y8 y9 y10 y11 : Value) :
    Below B a ((((((((((((w.setCell ⟨g, 0, none⟩ y0).setCell ⟨g, 1, none⟩ y1).setCell ⟨g, 2, none⟩ y2).setCell ⟨g, 3, none⟩ y3).setCell ⟨g, 4, none⟩ y4).setCell ⟨g, 5, none⟩ y5).setCell ⟨g, 6, none⟩ y6).setCell ⟨g, 7, none⟩ y7).setCell ⟨g, 8, none⟩ y8).setCell ⟨g, 9, none⟩ y9).setCell ⟨g, 10, none⟩ y10).setCell ⟨g, 11, none⟩ y11) :=
  (((((((((((h.setCell hg _).setCell hg _).setCell hg _).setCell hg _).setCell hg _).setCell hg _).setCell hg _).setCell hg _).setCell hg _).setCell hg _).setCell hg _).setCell hg _
end Go.Proofs.YtpmoaghhccioaaaGreat
