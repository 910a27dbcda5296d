/- spec.Hash's mixed returns a word; new memory only. -/
import Derived.Test.YtpmoaghhccioaaaGreatSpecTurn
import Derived.Test.YtpmoaghhccioaaaGreatSpecKit
import Derived.Test.YtpmoaghhccioaaaGreatOff
import Derived.Deep.RegionHeld3
namespace Go.Proofs.YtpmoaghhccioaaaGreat
open Go.RowKit
set_option linter.unusedVariables false

/-- The cells of a Hash. -/
def hc (sz bl : Int) (wd : Bool) (kv : Value) (s : S8) : List Value := [.int .i64 sz, .int .i64 bl, .bool wd, kv, .int .u64 s.a, .int .u64 s.b, .int .u64 s.c, .int .u64 s.d, .int .u64 s.e, .int .u64 s.f, .int .u64 s.g, .int .u64 s.h]

/-- How far words are turned. -/
def Far (wd : Bool) (n : Int) : Prop := 0 ≤ n ∧ (n ≤ 32 ∨ (wd = true ∧ n ≤ 64))

theorem cells12 {w : World} {X : Nat} {T : TypeId} {sz bl : Int} {wd : Bool} {kv : Value} {s : S8} (h : Row w X T (hc sz bl wd kv s)) :
    w.cell? ⟨X, 0, none⟩ = some (.int .i64 sz) ∧ w.cell? ⟨X, 1, none⟩ = some (.int .i64 bl) ∧ w.cell? ⟨X, 2, none⟩ = some (.bool wd) ∧ w.cell? ⟨X, 3, none⟩ = some kv ∧ w.cell? ⟨X, 4, none⟩ = some (.int .u64 s.a) ∧ w.cell? ⟨X, 5, none⟩ = some (.int .u64 s.b) ∧ w.cell? ⟨X, 6, none⟩ = some (.int .u64 s.c) ∧ w.cell? ⟨X, 7, none⟩ = some (.int .u64 s.d) ∧ w.cell? ⟨X, 8, none⟩ = some (.int .u64 s.e) ∧ w.cell? ⟨X, 9, none⟩ = some (.int .u64 s.f) ∧ w.cell? ⟨X, 10, none⟩ = some (.int .u64 s.g) ∧ w.cell? ⟨X, 11, none⟩ = some (.int .u64 s.h) := by
  refine ⟨?_, ?_, ?_, ?_, ?_, ?_, ?_, ?_, ?_, ?_, ?_, ?_⟩ <;> (rw [h.cell]; rfl)

set_option maxRecDepth 100000 in
set_option maxHeartbeats 4000000 in
theorem mixed (sz bl : Int) (wd : Bool) (kv : Value) (s : S8) (x a b c : Int) (mv : Bool) (w : World) (ha : Far wd a) (hb : Far wd b) (hc0 : Far wd c) :
    Calls Tryz.prog 45 #[hv sz bl wd kv s, .int .u64 x, .int .i64 a, .int .i64 b, .int .i64 c, .bool mv] w fun e w' => AnyWord e ∧ Below w.heap.size w w' := by
  have Ft : ∀ n, Far wd n → ∀ wx : World, Calls Tryz.prog 54 #[hv sz bl wd kv s, .int .u64 x, .int .i64 n] wx fun e w' => AnyWord e ∧ Below wx.heap.size wx w' := fun n h wx => turn sz bl wd kv s x n wx h.1 h.2
  have FT := Lib.hid Ft
  clear Ft
  unfold hv at *
  have hcc : 0 ≤ c := hc0.1
  cases mv
  all_goals
    go_enter Tryz.func45, Tryz.ntmps45
    go_wp2_with fail
    generalize hw2 : w.alloc _ = w2
    have X2 : Row w2 w.heap.size 51 (hc sz bl wd kv s) := by rw [← hw2]; exact Row.new w _ _ _ rfl
    have I := Lib.hid (show Below w.heap.size w w2.drew by rw [← hw2]; exact below_drewd ((Below.refl _ _).alloc (Nat.le_refl _) _))
    have Hr := Lib.hid (show Row w2.drew w.heap.size 51 (hc sz bl wd kv s) from X2)
    clear hw2 X2
    have hq := cells12 Hr.out
    go_region_held3 (fun w' => w'.cell? ⟨w.heap.size, 0, none⟩ = some (.int .i64 sz) ∧ w'.cell? ⟨w.heap.size, 1, none⟩ = some (.int .i64 bl) ∧ w'.cell? ⟨w.heap.size, 2, none⟩ = some (.bool wd) ∧ w'.cell? ⟨w.heap.size, 3, none⟩ = some (kv) ∧ w'.cell? ⟨w.heap.size, 4, none⟩ = some (.int .u64 s.a) ∧ w'.cell? ⟨w.heap.size, 5, none⟩ = some (.int .u64 s.b) ∧ w'.cell? ⟨w.heap.size, 6, none⟩ = some (.int .u64 s.c) ∧ w'.cell? ⟨w.heap.size, 7, none⟩ = some (.int .u64 s.d) ∧ w'.cell? ⟨w.heap.size, 8, none⟩ = some (.int .u64 s.e) ∧ w'.cell? ⟨w.heap.size, 9, none⟩ = some (.int .u64 s.f) ∧ w'.cell? ⟨w.heap.size, 10, none⟩ = some (.int .u64 s.g) ∧ w'.cell? ⟨w.heap.size, 11, none⟩ = some (.int .u64 s.h))
      (first | go_keep | exact cells12 Hr.out)
      (first
        | (go_at_call 54; refine (FT.out _ (by assumption) _).mono ?_; rintro e wn ⟨⟨y, rfl⟩, bn⟩; have I := Lib.hid (I.out.trans (bn.mono I.out.size)); have Hr := Lib.hid (Hr.out.below bn Hr.out.lt); clear bn))
    all_goals (go_wp2_with fail; go_ret; exact ⟨⟨_, rfl⟩, I.out⟩)
end Go.Proofs.YtpmoaghhccioaaaGreat
