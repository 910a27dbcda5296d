/- What the walk of spec.Hash's block reads. -/
import Derived.Test.YtpmoaghhccioaaaGreatMixed
import Derived.StillTailTactics
import Derived.IntWalk
import Derived.Deep.LoopGhost
namespace Go.Proofs.YtpmoaghhccioaaaGreat
open Go.RowKit
set_option linter.unusedVariables false

def v8 (t : S8) : Value := .agg #[.int .u64 t.a, .int .u64 t.b, .int .u64 t.c, .int .u64 t.d, .int .u64 t.e, .int .u64 t.f, .int .u64 t.g, .int .u64 t.h]
def AnyEight (e : Ending) : Prop := ∃ t, e = .returned (v8 t)

theorem cells8 {w : World} {X : Nat} {T : TypeId} {t : S8} (h : Row w X T (cs64 (words8 t))) : w.cell? ⟨X, 0, none⟩ = some (.int .u64 t.a) ∧ w.cell? ⟨X, 1, none⟩ = some (.int .u64 t.b) ∧ w.cell? ⟨X, 2, none⟩ = some (.int .u64 t.c) ∧ w.cell? ⟨X, 3, none⟩ = some (.int .u64 t.d) ∧ w.cell? ⟨X, 4, none⟩ = some (.int .u64 t.e) ∧ w.cell? ⟨X, 5, none⟩ = some (.int .u64 t.f) ∧ w.cell? ⟨X, 6, none⟩ = some (.int .u64 t.g) ∧ w.cell? ⟨X, 7, none⟩ = some (.int .u64 t.h) := by
  refine ⟨?_, ?_, ?_, ?_, ?_, ?_, ?_, ?_⟩ <;> (rw [h.cell]; rfl)

theorem set64p {w : World} {g : Nat} {t : TypeId} {Y : List Int} (h : Row w g t (cs64 Y)) (k : Nat) (z : Int) : Row (w.setCell ⟨g, k, none⟩ (.int .u64 z)) g t (cs64 (Y.set k z)) := by
  have := h.set k (.int .u64 z)
  simpa [cs64, List.map_set] using this
theorem cellRow64 {w : World} {g : Nat} {T : TypeId} {Y : List Int} (h : Row w g T (cs64 Y)) {m : Nat} (hm : m < Y.length) : w.cell? ⟨g, m, none⟩ = some (.int .u64 (Y.getD m 0)) := by rw [h.cell, get_cs64 _ _ hm]
/-- What the first region of block reads. -/
theorem cellsR11 {w : World} {X A B G : Nat} {T T3 T4 TG : TypeId} {sz bl : Int} {wd : Bool} {kv : Value} {s : S8} {a0 a1 a2 b0 b1 b2 : Value} {Y : List Int} {p q r u : Nat} (h : Row w X T (hc sz bl wd kv s)) (hA : Row w A T3 [a0, a1, a2]) (hB : Row w B T4 [b0, b1, b2]) (hG : Row w G TG (cs64 Y)) (hp : p < Y.length) (hq : q < Y.length) (hr : r < Y.length) (hu : u < Y.length) :
    w.cell? ⟨X, 0, none⟩ = some (.int .i64 sz) ∧ w.cell? ⟨X, 1, none⟩ = some (.int .i64 bl) ∧ w.cell? ⟨X, 2, none⟩ = some (.bool wd) ∧ w.cell? ⟨X, 3, none⟩ = some (kv) ∧ w.cell? ⟨X, 4, none⟩ = some (.int .u64 s.a) ∧ w.cell? ⟨X, 5, none⟩ = some (.int .u64 s.b) ∧ w.cell? ⟨X, 6, none⟩ = some (.int .u64 s.c) ∧ w.cell? ⟨X, 7, none⟩ = some (.int .u64 s.d) ∧ w.cell? ⟨X, 8, none⟩ = some (.int .u64 s.e) ∧ w.cell? ⟨X, 9, none⟩ = some (.int .u64 s.f) ∧ w.cell? ⟨X, 10, none⟩ = some (.int .u64 s.g) ∧ w.cell? ⟨X, 11, none⟩ = some (.int .u64 s.h) ∧ w.cell? ⟨A, 0, none⟩ = some a0 ∧ w.cell? ⟨A, 1, none⟩ = some a1 ∧ w.cell? ⟨A, 2, none⟩ = some a2 ∧ w.cell? ⟨B, 0, none⟩ = some b0 ∧ w.cell? ⟨B, 1, none⟩ = some b1 ∧ w.cell? ⟨B, 2, none⟩ = some b2 ∧
      w.cell? ⟨G, p, none⟩ = some (.int .u64 (Y.getD p 0)) ∧ w.cell? ⟨G, q, none⟩ = some (.int .u64 (Y.getD q 0)) ∧ w.cell? ⟨G, r, none⟩ = some (.int .u64 (Y.getD r 0)) ∧ w.cell? ⟨G, u, none⟩ = some (.int .u64 (Y.getD u 0)) := by
  refine ⟨?_, ?_, ?_, ?_, ?_, ?_, ?_, ?_, ?_, ?_, ?_, ?_, ?_, ?_, ?_, ?_, ?_, ?_, ?_, ?_, ?_, ?_⟩
  · rw [h.cell]; rfl
  · rw [h.cell]; rfl
  · rw [h.cell]; rfl
  · rw [h.cell]; rfl
  · rw [h.cell]; rfl
  · rw [h.cell]; rfl
  · rw [h.cell]; rfl
  · rw [h.cell]; rfl
  · rw [h.cell]; rfl
  · rw [h.cell]; rfl
  · rw [h.cell]; rfl
  · rw [h.cell]; rfl
  · rw [hA.cell]; rfl
  · rw [hA.cell]; rfl
  · rw [hA.cell]; rfl
  · rw [hB.cell]; rfl
  · rw [hB.cell]; rfl
  · rw [hB.cell]; rfl
  · rw [hG.cell, get_cs64 _ _ hp]
  · rw [hG.cell, get_cs64 _ _ hq]
  · rw [hG.cell, get_cs64 _ _ hr]
  · rw [hG.cell, get_cs64 _ _ hu]

/-- The same behind a store into the row. -/
theorem cellsR11s {w : World} {X A B G : Nat} {T T3 T4 TG : TypeId} {sz bl : Int} {wd : Bool} {kv : Value} {s : S8} {a0 a1 a2 b0 b1 b2 : Value} {Y : List Int} {p q r u m : Nat} {z : Value} (h : Row w X T (hc sz bl wd kv s)) (hA : Row w A T3 [a0, a1, a2]) (hB : Row w B T4 [b0, b1, b2]) (hG : Row w G TG (cs64 Y)) (hp : p < Y.length) (hq : q < Y.length) (hr : r < Y.length) (hu : u < Y.length)
    (hX : X < G) (hAG : A < G) (hBG : B < G) (np : m ≠ p) (nq : m ≠ q) (nr : m ≠ r) (nu : m ≠ u) :
    (w.setCell ⟨G, m, none⟩ z).cell? ⟨X, 0, none⟩ = some (.int .i64 sz) ∧ (w.setCell ⟨G, m, none⟩ z).cell? ⟨X, 1, none⟩ = some (.int .i64 bl) ∧ (w.setCell ⟨G, m, none⟩ z).cell? ⟨X, 2, none⟩ = some (.bool wd) ∧ (w.setCell ⟨G, m, none⟩ z).cell? ⟨X, 3, none⟩ = some (kv) ∧ (w.setCell ⟨G, m, none⟩ z).cell? ⟨X, 4, none⟩ = some (.int .u64 s.a) ∧ (w.setCell ⟨G, m, none⟩ z).cell? ⟨X, 5, none⟩ = some (.int .u64 s.b) ∧ (w.setCell ⟨G, m, none⟩ z).cell? ⟨X, 6, none⟩ = some (.int .u64 s.c) ∧ (w.setCell ⟨G, m, none⟩ z).cell? ⟨X, 7, none⟩ = some (.int .u64 s.d) ∧ (w.setCell ⟨G, m, none⟩ z).cell? ⟨X, 8, none⟩ = some (.int .u64 s.e) ∧ (w.setCell ⟨G, m, none⟩ z).cell? ⟨X, 9, none⟩ = some (.int .u64 s.f) ∧ (w.setCell ⟨G, m, none⟩ z).cell? ⟨X, 10, none⟩ = some (.int .u64 s.g) ∧ (w.setCell ⟨G, m, none⟩ z).cell? ⟨X, 11, none⟩ = some (.int .u64 s.h) ∧ (w.setCell ⟨G, m, none⟩ z).cell? ⟨A, 0, none⟩ = some a0 ∧ (w.setCell ⟨G, m, none⟩ z).cell? ⟨A, 1, none⟩ = some a1 ∧ (w.setCell ⟨G, m, none⟩ z).cell? ⟨A, 2, none⟩ = some a2 ∧ (w.setCell ⟨G, m, none⟩ z).cell? ⟨B, 0, none⟩ = some b0 ∧ (w.setCell ⟨G, m, none⟩ z).cell? ⟨B, 1, none⟩ = some b1 ∧ (w.setCell ⟨G, m, none⟩ z).cell? ⟨B, 2, none⟩ = some b2 ∧
      (w.setCell ⟨G, m, none⟩ z).cell? ⟨G, p, none⟩ = some (.int .u64 (Y.getD p 0)) ∧ (w.setCell ⟨G, m, none⟩ z).cell? ⟨G, q, none⟩ = some (.int .u64 (Y.getD q 0)) ∧ (w.setCell ⟨G, m, none⟩ z).cell? ⟨G, r, none⟩ = some (.int .u64 (Y.getD r 0)) ∧ (w.setCell ⟨G, m, none⟩ z).cell? ⟨G, u, none⟩ = some (.int .u64 (Y.getD u 0)) := by
  have hb : Below G w (w.setCell ⟨G, m, none⟩ z) := (Below.refl G w).setCell (Nat.le_refl _) _
  have h' := h.below hb hX
  have hA' := hA.below hb hAG
  have hB' := hB.below hb hBG
  have hG' := hG.set m z
  refine ⟨?_, ?_, ?_, ?_, ?_, ?_, ?_, ?_, ?_, ?_, ?_, ?_, ?_, ?_, ?_, ?_, ?_, ?_, ?_, ?_, ?_, ?_⟩
  · rw [h'.cell]; rfl
  · rw [h'.cell]; rfl
  · rw [h'.cell]; rfl
  · rw [h'.cell]; rfl
  · rw [h'.cell]; rfl
  · rw [h'.cell]; rfl
  · rw [h'.cell]; rfl
  · rw [h'.cell]; rfl
  · rw [h'.cell]; rfl
  · rw [h'.cell]; rfl
  · rw [h'.cell]; rfl
  · rw [h'.cell]; rfl
  · rw [hA'.cell]; rfl
  · rw [hA'.cell]; rfl
  · rw [hA'.cell]; rfl
  · rw [hB'.cell]; rfl
  · rw [hB'.cell]; rfl
  · rw [hB'.cell]; rfl
  · rw [hG'.cell, List.getElem?_set_ne np, get_cs64 _ _ hp]
  · rw [hG'.cell, List.getElem?_set_ne nq, get_cs64 _ _ hq]
  · rw [hG'.cell, List.getElem?_set_ne nr, get_cs64 _ _ hr]
  · rw [hG'.cell, List.getElem?_set_ne nu, get_cs64 _ _ hu]

/-- What the two regions of a round read. -/
theorem cellsR23 {w : World} {X A E G : Nat} {T T3 TE TG : TypeId} {sz bl : Int} {wd : Bool} {kv : Value} {s x : S8} {a0 a1 a2 : Value} {Y : List Int} {p : Nat} (h : Row w X T (hc sz bl wd kv s)) (hA : Row w A T3 [a0, a1, a2]) (hE : Row w E TE (cs64 (words8 x))) (hG : Row w G TG (cs64 Y)) (hp : p < Y.length) :
    w.cell? ⟨X, 0, none⟩ = some (.int .i64 sz) ∧ w.cell? ⟨X, 1, none⟩ = some (.int .i64 bl) ∧ w.cell? ⟨X, 2, none⟩ = some (.bool wd) ∧ w.cell? ⟨X, 3, none⟩ = some (kv) ∧ w.cell? ⟨X, 4, none⟩ = some (.int .u64 s.a) ∧ w.cell? ⟨X, 5, none⟩ = some (.int .u64 s.b) ∧ w.cell? ⟨X, 6, none⟩ = some (.int .u64 s.c) ∧ w.cell? ⟨X, 7, none⟩ = some (.int .u64 s.d) ∧ w.cell? ⟨X, 8, none⟩ = some (.int .u64 s.e) ∧ w.cell? ⟨X, 9, none⟩ = some (.int .u64 s.f) ∧ w.cell? ⟨X, 10, none⟩ = some (.int .u64 s.g) ∧ w.cell? ⟨X, 11, none⟩ = some (.int .u64 s.h) ∧ w.cell? ⟨A, 0, none⟩ = some a0 ∧ w.cell? ⟨A, 1, none⟩ = some a1 ∧ w.cell? ⟨A, 2, none⟩ = some a2 ∧ w.cell? ⟨E, 7, none⟩ = some (.int .u64 x.h) ∧ w.cell? ⟨E, 5, none⟩ = some (.int .u64 x.f) ∧ w.cell? ⟨E, 6, none⟩ = some (.int .u64 x.g) ∧ w.cell? ⟨G, p, none⟩ = some (.int .u64 (Y.getD p 0)) := by
  refine ⟨?_, ?_, ?_, ?_, ?_, ?_, ?_, ?_, ?_, ?_, ?_, ?_, ?_, ?_, ?_, ?_, ?_, ?_, ?_⟩
  · rw [h.cell]; rfl
  · rw [h.cell]; rfl
  · rw [h.cell]; rfl
  · rw [h.cell]; rfl
  · rw [h.cell]; rfl
  · rw [h.cell]; rfl
  · rw [h.cell]; rfl
  · rw [h.cell]; rfl
  · rw [h.cell]; rfl
  · rw [h.cell]; rfl
  · rw [h.cell]; rfl
  · rw [h.cell]; rfl
  · rw [hA.cell]; rfl
  · rw [hA.cell]; rfl
  · rw [hA.cell]; rfl
  · rw [hE.cell]; rfl
  · rw [hE.cell]; rfl
  · rw [hE.cell]; rfl
  · rw [hG.cell, get_cs64 _ _ hp]

theorem cellsR24 {w : World} {X A E : Nat} {T T3 TE : TypeId} {sz bl : Int} {wd : Bool} {kv : Value} {s x : S8} {a0 a1 a2 : Value} (h : Row w X T (hc sz bl wd kv s)) (hA : Row w A T3 [a0, a1, a2]) (hE : Row w E TE (cs64 (words8 x))) :
    w.cell? ⟨X, 0, none⟩ = some (.int .i64 sz) ∧ w.cell? ⟨X, 1, none⟩ = some (.int .i64 bl) ∧ w.cell? ⟨X, 2, none⟩ = some (.bool wd) ∧ w.cell? ⟨X, 3, none⟩ = some (kv) ∧ w.cell? ⟨X, 4, none⟩ = some (.int .u64 s.a) ∧ w.cell? ⟨X, 5, none⟩ = some (.int .u64 s.b) ∧ w.cell? ⟨X, 6, none⟩ = some (.int .u64 s.c) ∧ w.cell? ⟨X, 7, none⟩ = some (.int .u64 s.d) ∧ w.cell? ⟨X, 8, none⟩ = some (.int .u64 s.e) ∧ w.cell? ⟨X, 9, none⟩ = some (.int .u64 s.f) ∧ w.cell? ⟨X, 10, none⟩ = some (.int .u64 s.g) ∧ w.cell? ⟨X, 11, none⟩ = some (.int .u64 s.h) ∧ w.cell? ⟨A, 0, none⟩ = some a0 ∧ w.cell? ⟨A, 1, none⟩ = some a1 ∧ w.cell? ⟨A, 2, none⟩ = some a2 ∧ w.cell? ⟨E, 1, none⟩ = some (.int .u64 x.b) ∧ w.cell? ⟨E, 2, none⟩ = some (.int .u64 x.c) := by
  refine ⟨?_, ?_, ?_, ?_, ?_, ?_, ?_, ?_, ?_, ?_, ?_, ?_, ?_, ?_, ?_, ?_, ?_⟩
  · rw [h.cell]; rfl
  · rw [h.cell]; rfl
  · rw [h.cell]; rfl
  · rw [h.cell]; rfl
  · rw [h.cell]; rfl
  · rw [h.cell]; rfl
  · rw [h.cell]; rfl
  · rw [h.cell]; rfl
  · rw [h.cell]; rfl
  · rw [h.cell]; rfl
  · rw [h.cell]; rfl
  · rw [h.cell]; rfl
  · rw [hA.cell]; rfl
  · rw [hA.cell]; rfl
  · rw [hA.cell]; rfl
  · rw [hE.cell]; rfl
  · rw [hE.cell]; rfl

theorem set8p {w : World} {g : Nat} {T : TypeId} {t : S8} (h : Row w g T (cs64 (words8 t))) (y0 y1 y2 y3 y4 y5 y6 y7 : Int) :
    Row ((((((((w.setCell ⟨g, 0, none⟩ (.int .u64 y0)).setCell ⟨g, 1, none⟩ (.int .u64 y1)).setCell ⟨g, 2, none⟩ (.int .u64 y2)).setCell ⟨g, 3, none⟩ (.int .u64 y3)).setCell ⟨g, 4, none⟩ (.int .u64 y4)).setCell ⟨g, 5, none⟩ (.int .u64 y5)).setCell ⟨g, 6, none⟩ (.int .u64 y6)).setCell ⟨g, 7, none⟩ (.int .u64 y7)) g T (cs64 (words8 ⟨y0, y1, y2, y3, y4, y5, y6, y7⟩)) :=
  set64p (set64p (set64p (set64p (set64p (set64p (set64p (set64p h 0 y0) 1 y1) 2 y2) 3 y3) 4 y4) 5 y5) 6 y6) 7 y7
theorem below8 {B g : Nat} {a w : World} (h : Below B a w) (hg : B ≤ g) (y0 y1 y2 y3 y4 y5 y6 y7 : Value) :
    Below B a ((((((((w.setCell ⟨g, 0, none⟩ y0).setCell ⟨g, 1, none⟩ y1).setCell ⟨g, 2, none⟩ y2).setCell ⟨g, 3, none⟩ y3).setCell ⟨g, 4, none⟩ y4).setCell ⟨g, 5, none⟩ y5).setCell ⟨g, 6, none⟩ y6).setCell ⟨g, 7, none⟩ y7) :=
  (((((((h.setCell hg _).setCell hg _).setCell hg _).setCell hg _).setCell hg _).setCell hg _).setCell hg _).setCell hg _
theorem eight_of (V : List Int) (h : V.length = 8) : ∃ t, V = words8 t := by
  match V, h with
  | [a, b, c, d, e, f, g, i], _ => exact ⟨⟨a, b, c, d, e, f, g, i⟩, rfl⟩
end Go.Proofs.YtpmoaghhccioaaaGreat
