/- The lengths of a content cipher's key and tag, and the law's own look at it. -/
import Derived.Test.YtamakjdeejokpaaGreatPad
import Derived.Deep.QuietTactic
import Derived.BigQuiet
import Derived.Deep.RegionWith
namespace Go.Proofs.YtamakjdeejokpaaGreat
open Go.RowKit
set_option linter.unusedVariables false

set_option maxRecDepth 100000 in
set_option maxHeartbeats 1000000 in
theorem newAES (w : World) :
    Calls Tryz.prog 12 #[.string ⟨#[65, 50, 53, 54, 67, 66, 67, 45, 72, 83, 53, 49, 50]⟩] w fun e w' => 
      ∃ g o, e = .returned (.tuple #[.pointer (some ⟨g, 0, none⟩), .nilIface]) ∧ w.heap.size ≤ g ∧ Row w' g 46 [.nilFunc, o, .int .i64 64, .int .i64 32] ∧ Below w.heap.size w w' := by
  go_enter Tryz.func12, Tryz.ntmps12
  go_wp2
  go_ret2
  exact ⟨w.heap.size + 1, _, rfl, by omega, Row.new _ _ _ _ (by simp), ((Below.refl _ _).alloc (Nat.le_refl _) _).alloc (by simp) _⟩

theorem keySize (a b : Value) (k t : Int) (w : World) :
    Calls Tryz.prog 13 #[.agg #[a, b, .int .i64 k, .int .i64 t]] w fun e w' => e = .returned (.int .i64 k) ∧ w.alloc (.cells #[a, b, .int .i64 k, .int .i64 t] 46) = w' := by
  go_enter Tryz.func13, Tryz.ntmps13
  go_wp2
  go_ret
  exact ⟨rfl, rfl⟩
theorem tagSize (a b : Value) (k t : Int) (w : World) :
    Calls Tryz.prog 14 #[.agg #[a, b, .int .i64 k, .int .i64 t]] w fun e w' => e = .returned (.int .i64 t) ∧ w.alloc (.cells #[a, b, .int .i64 k, .int .i64 t] 46) = w' := by
  go_enter Tryz.func14, Tryz.ntmps14
  go_wp2
  go_ret
  exact ⟨rfl, rfl⟩

set_option maxRecDepth 100000 in
set_option maxHeartbeats 1000000 in
theorem sealSizes (w : World) :
    Calls Tryz.prog 5 #[.string ⟨#[65, 50, 53, 54, 67, 66, 67, 45, 72, 83, 53, 49, 50]⟩] w fun e w' => 
      e = .returned (.tuple #[.int .i64 64, .int .i64 32, .bool true]) ∧ Below w.heap.size w w' := by
  have q1 := fun (w : World) => run_neq_nil_nil (P := Tryz.prog) w 37 Tryz.underlying37
  go_enter Tryz.func5, Tryz.ntmps5
  go_wp2_with (go_at_call 12; refine (newAES _).mono ?_; rintro e w1 ⟨g, o, rfl, hg, hrow, hb1⟩)
  have hc0 : w1.cell? ⟨g, 0, none⟩ = some .nilFunc := by rw [hrow.cell]; rfl
  have hc1 : w1.cell? ⟨g, 1, none⟩ = some o := by rw [hrow.cell]; rfl
  have hc2 : w1.cell? ⟨g, 2, none⟩ = some (.int .i64 64) := by rw [hrow.cell]; rfl
  have hc3 : w1.cell? ⟨g, 3, none⟩ = some (.int .i64 32) := by rw [hrow.cell]; rfl
  have hgl := hrow.lt
  have Hrow := Lib.hid hrow
  clear hrow
  go_region_with (first
    | (go_at_call 13; refine (keySize _ _ _ _ _).mono ?_; rintro e w' ⟨rfl, rfl⟩)
    | (go_at_call 14; refine (tagSize _ _ _ _ _).mono ?_; rintro e w' ⟨rfl, rfl⟩))
  all_goals (try go_wp2)
  all_goals go_ret3
  all_goals exact ⟨rfl, by repeat (first | exact hb1 | refine below_alloc ?_ _ | refine Below.drew ?_)⟩

theorem padW (v : Value) (xs : List Int) (n : Nat) (w : World) (h : Bs w v xs) (h1 : 1 ≤ n) (h2 : n ≤ 255) (hl : xs.length ≤ 1000000) :
   Calls Tryz.prog 19 #[v, .int .i64 n] w fun e w' => ∃ v', e = .returned v' ∧ Bs w' v' (padR xs (n - xs.length % n)) ∧ Below w.heap.size w w' := by
  have Hpad := Lib.hid (pad v xs n w h h1 h2 hl)
  clear h h1 h2 hl
  go_enter Tryz.func19, Tryz.ntmps19
  go_wp2_with (go_at_call 23; refine Hpad.out.mono ?_; rintro e w2 ⟨v2, rfl, hbs, hb2⟩)
  go_ret
  exact ⟨_, rfl, hbs, hb2⟩

set_option maxRecDepth 100000 in
set_option maxHeartbeats 1000000 in
/-- impl.Padded. -/
theorem padded (v : Value) (xs : List Int) (n : Nat) (w : World) (h : Bs w v xs) (h1 : 1 ≤ n) (h2 : n ≤ 255) (hl : xs.length ≤ 100000) :
   Calls Tryz.prog 11 #[v, .int .i64 n] w fun e w' => ∃ v', e = .returned v' ∧ Bs w' v' (padR xs (n - xs.length % n)) ∧ Below w.heap.size w w' := by
  have hcl := clone v xs w h (by omega)
  obtain ⟨p, c, rfl, hc, hn, hx⟩ := id h
  have t1 : decide ((n : Int) < 1) = false := by simp; omega
  have t2 : decide ((255 : Int) < n) = false := by simp; omega
  have Hcl := Lib.hid hcl
  clear hn hx h hcl
  go_enter Tryz.func11, Tryz.ntmps11
  go_wp2_with (go_at_call 16; refine Hcl.out.mono ?_; rintro e w1 ⟨v1, rfl, hown, hb1⟩)
  have Hpad := Lib.hid (padW v1 xs n w1 (Bs.own hown) h1 h2 (by omega))
  clear hown
  go_wp2_with (go_at_call 19; refine Hpad.out.mono ?_; rintro e w2 ⟨v2, rfl, hbs, hb2⟩)
  go_ret
  exact ⟨_, rfl, hbs, hb1.trans (hb2.mono hb1.size)⟩

set_option maxRecDepth 100000 in
set_option maxHeartbeats 1000000 in
/-- The law's own look: the lengths of one cipher, and one padding. -/
theorem awake (w : World) : Calls Tryz.prog 4 #[] w fun e w' => e = .returned (.bool true) ∧ Below w.heap.size w w' := by
  go_enter Tryz.func4, Tryz.ntmps4
  go_wp2_with (go_at_call 5; refine (sealSizes _).mono ?_; rintro e w1 ⟨rfl, hb1⟩)
  have hr1 := Row.new w1 #[.int .u8 7] 5 _ rfl
  have Hp := Lib.hid (padded (.slice (some ⟨w1.heap.size, 0, none⟩) 1 1) [7] 2 _ (Bs.row hr1 0 1 [7] (by decide) (fun i hi => by
    obtain rfl : i = 0 := by simpa using hi
    rfl)) (by decide) (by decide) (by decide))
  have hb2 := below_alloc hb1 (.cells #[.int .u8 7] 5)
  clear hr1
  refine Hp.out.mono ?_
  rintro e w2 ⟨v2, rfl, hbs, hb3⟩
  have hb4 := hb2.trans (hb3.mono hb2.size)
  have hb5 := below_alloc hb4 (.cells #[.int .u8 7, .int .u8 1] 5)
  have hr2 := Row.new w2 #[.int .u8 7, .int .u8 1] 5 _ rfl
  have Hq := Lib.hid (equal v2 (.slice (some ⟨w2.heap.size, 0, none⟩) 2 2) [7, 1] [7, 1] _ (hbs.below (below_alloc (Below.refl _ _) _)) (Bs.row hr2 0 2 [7, 1] (by decide) (fun i hi => by
    have : i = 0 ∨ i = 1 := by simp at hi; omega
    rcases this with rfl | rfl <;> rfl)) (by intro x hx; simp at hx; omega) (by intro x hx; simp at hx; omega))
  clear hr2 Hp hbs hb1 hb2 hb3 hb4
  go_wp2_with (go_at_call 10; refine Hq.out.mono ?_; rintro e w3 ⟨rfl, rfl⟩)
  go_ret
  exact ⟨rfl, hb5⟩
end Go.Proofs.YtamakjdeejokpaaGreat
