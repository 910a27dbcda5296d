/- spec's own hash: TokenKind, turn. -/
import Derived.Test.YtpmoaghhccioaaaGreatBlockKit
import Derived.Test.YtpmoaghhccioaaaGreatBytes
import Derived.Test.YtpmoaghhccioaaaGreatTimes
import Derived.Deep.QuietTactic
import Derived.BigQuiet
import Derived.Outline
import Derived.IntWalk
namespace Go.Proofs.YtpmoaghhccioaaaGreat
open Go.RowKit
set_option linter.unusedVariables false

theorem kind0 (w : World) : Calls Tryz.prog 14 #[.string ⟨#[72, 83, 50, 53, 54]⟩] w fun e w' => e = .returned (.int .i64 0) ∧ w = w' := by
  go_enter Tryz.func14, Tryz.ntmps14
  go_wp2_with fail
  go_ret
  exact ⟨rfl, rfl⟩
theorem kind1 (w : World) : Calls Tryz.prog 14 #[.string ⟨#[72, 83, 51, 56, 52]⟩] w fun e w' => e = .returned (.int .i64 1) ∧ w = w' := by
  go_enter Tryz.func14, Tryz.ntmps14
  go_wp2_with fail
  go_ret
  exact ⟨rfl, rfl⟩
theorem kind2 (w : World) : Calls Tryz.prog 14 #[.string ⟨#[72, 83, 53, 49, 50]⟩] w fun e w' => e = .returned (.int .i64 2) ∧ w = w' := by
  go_enter Tryz.func14, Tryz.ntmps14
  go_wp2_with fail
  go_ret
  exact ⟨rfl, rfl⟩

/-- spec's hash, as a value. -/
def hv (sz bl : Int) (wd : Bool) (kv : Value) (s : S8) : Value := .agg #[.int .i64 sz, .int .i64 bl, .bool wd, kv, .int .u64 s.a, .int .u64 s.b, .int .u64 s.c, .int .u64 s.d, .int .u64 s.e, .int .u64 s.f, .int .u64 s.g, .int .u64 s.h]
def AnyWord (e : Ending) : Prop := ∃ y, e = .returned (.int .u64 y)

set_option maxRecDepth 100000 in
set_option maxHeartbeats 4000000 in
theorem turn (sz bl : Int) (wd : Bool) (kv : Value) (s : S8) (x n : Int) (w : World) (h0 : 0 ≤ n) (h1 : n ≤ 32 ∨ (wd = true ∧ n ≤ 64)) :
    Calls Tryz.prog 54 #[hv sz bl wd kv s, .int .u64 x, .int .i64 n] w fun e w' => AnyWord e ∧ Below w.heap.size w w' := by
  unfold hv
  cases wd
  · have h2 : n ≤ 32 := by rcases h1 with h1 | h1; exact h1; cases h1.1
    have h3 : 0 ≤ 32 - n := by omega
    go_enter Tryz.func54, Tryz.ntmps54
    go_wp2_with fail
    have HB := Lib.hid (fun o => (Below.refl w.heap.size w).alloc (Nat.le_refl _) o)
    generalize hw : w.alloc _ = w1
    have HB1 : Hid (Below w.heap.size w w1) := Lib.hid (by rw [← hw]; exact HB.out _)
    clear hw HB
    have hwr : IntKind.i64.wrap (32 - n) = 32 - n := IntWalk.i64_in _ (by omega)
    go_quiet (fail)
    have HB2 := Lib.hid (below_drewN HB1.out nq)
    generalize w1.drewN nq = w2 at *
    go_wp2_with fail
    go_ret
    exact ⟨⟨_, rfl⟩, HB2.out⟩
  · have h2 : n ≤ 64 := by rcases h1 with h1 | h1; omega; exact h1.2
    have h3 : 0 ≤ 64 - n := by omega
    go_enter Tryz.func54, Tryz.ntmps54
    go_wp2_with fail
    have HB := Lib.hid (fun o => (Below.refl w.heap.size w).alloc (Nat.le_refl _) o)
    generalize hw : w.alloc _ = w1
    have HB1 : Hid (Below w.heap.size w w1) := Lib.hid (by rw [← hw]; exact HB.out _)
    clear hw HB
    have hwr : IntKind.i64.wrap (64 - n) = 64 - n := IntWalk.i64_in _ (by omega)
    go_quiet (fail)
    have HB2 := Lib.hid (below_drewN HB1.out nq)
    generalize w1.drewN nq = w2 at *
    go_wp2_with fail
    go_ret
    exact ⟨⟨_, rfl⟩, HB2.out⟩
end Go.Proofs.YtpmoaghhccioaaaGreat
