/- laws.tokenFits, tokenAlg. -/
import Derived.Test.YtaemdppihpefnaaGreatDoorRegKit
import Derived.LoopTactic
import Derived.Deep.LoopGhost
import Derived.Outline
namespace Go.Proofs.YtaemdppihpefnaaGreatDoor
open Go.RowKit
set_option linter.unusedVariables false

/-- The name of an algorithm by a small number. -/
theorem tokenAlg (a : Int) (w : World) (h0 : 0 ≤ a) (h1 : a < 256) :
    Calls Tryz.prog 8 #[.int .u8 a] w fun e w' => e = .returned (.string (hsName (a % 3).toNat)) ∧ Below w.heap.size w w' := by
  have hr : a % 3 = 0 ∨ a % 3 = 1 ∨ a % 3 = 2 := by omega
  rcases hr with hr | hr | hr
  all_goals
    (have hm : a.tmod 3 = a % 3 := Int.tmod_eq_emod_of_nonneg h0
     have Hr := Lib.hid hr
     rw [hr] at hm
     go_enter Tryz.func8, Tryz.ntmps8
     go_wp2
     go_ret
     rw [Hr.out]
     exact ⟨rfl, (Below.refl _ _).alloc (Nat.le_refl _) _⟩)

/-- A key that is not empty and not long. -/
def keyB (n : Nat) : Bool := decide (0 < n) && decide (n ≤ 300)

set_option maxRecDepth 100000 in
set_option maxHeartbeats 1000000 in
theorem keyBad (v : Value) (xs : List Int) (w : World) (h : Bs w v xs) :
    Calls Tryz.prog 23 #[v] w fun e w' => e = .returned (.bool (!keyB xs.length)) ∧ w = w' := by
  obtain ⟨p, c, rfl, _, _, _⟩ := h
  by_cases h0 : xs.length = 0
  · have hb : ((xs.length : Int) == 0) = true := by simp [h0]
    have hk : keyB xs.length = false := by simp [keyB, h0]
    rw [hk]
    clear hk
    have h0 := Lib.hid h0
    go_enter Tryz.func23, Tryz.ntmps23
    go_wp2
    go_ret
    exact ⟨rfl, rfl⟩
  · have hb : ((xs.length : Int) == 0) = false := by rw [beq_eq_false_iff_ne]; omega
    by_cases h1 : xs.length ≤ 300
    · have h2 : ¬ (300 : Int) < xs.length := by omega
      have hk : keyB xs.length = true := by simp [keyB, h1]; omega
      rw [hk]
      clear hk
      go_enter Tryz.func23, Tryz.ntmps23
      go_wp2
      go_ret
      exact ⟨rfl, rfl⟩
    · have h2 : (300 : Int) < xs.length := by omega
      have hk : keyB xs.length = false := by simp [keyB, h1]
      rw [hk]
      clear hk
      go_enter Tryz.func23, Tryz.ntmps23
      go_wp2
      go_ret
      exact ⟨rfl, rfl⟩

set_option maxRecDepth 100000 in
set_option maxHeartbeats 1000000 in
theorem index1 (g : Nat) (v : Value) (xs : List Int) (w : World) (h : Bs w v xs) (hc : w.cell? ⟨g, 0, none⟩ = some v) :
    Calls Tryz.prog 42 #[.slice (some ⟨g, 0, none⟩) 1 1, .func (.func 23) #[] #[]] w fun e w' => e = .returned (.int .i64 (if keyB xs.length then -1 else 0)) ∧ w = w' := by
  have G := Lib.hid (keyBad v xs w h)
  obtain ⟨kb, hkb⟩ : ∃ kb, keyB xs.length = kb := ⟨_, rfl⟩
  rw [hkb] at G ⊢
  clear hkb
  have hv : ∃ p n c, v = .slice p n c := by obtain ⟨p, c, rfl, _⟩ := h; exact ⟨_, _, _, rfl⟩
  obtain ⟨p, n, c, rfl⟩ := hv
  clear h
  cases kb
  · go_enter Tryz.func42, Tryz.ntmps42
    go_wp2_with fail
    refine wp_loop_rounds 1 ?_
    rw [rounds_succ]
    go_wp2_with (go_at_call 23; refine G.out.mono ?_; rintro e w' ⟨rfl, rfl⟩)
    go_ret
    exact ⟨rfl, rfl⟩
  · go_enter Tryz.func42, Tryz.ntmps42
    go_wp2_with fail
    refine wp_loop_rounds 2 ?_
    rw [rounds_succ]
    go_wp2_with (go_at_call 23; refine G.out.mono ?_; rintro e w' ⟨rfl, rfl⟩)
    rw [rounds_succ]
    go_wp2_with fail
    go_ret
    exact ⟨rfl, rfl⟩

theorem contains1 (g : Nat) (v : Value) (xs : List Int) (w : World) (h : Bs w v xs) (hc : w.cell? ⟨g, 0, none⟩ = some v) :
    Calls Tryz.prog 22 #[.slice (some ⟨g, 0, none⟩) 1 1, .func (.func 23) #[] #[]] w fun e w' => e = .returned (.bool (!keyB xs.length)) ∧ w = w' := by
  have G := Lib.hid (index1 g v xs w h hc)
  obtain ⟨kb, hkb⟩ : ∃ kb, keyB xs.length = kb := ⟨_, rfl⟩
  rw [hkb] at G ⊢
  clear hkb h
  cases kb
  all_goals
    (go_enter Tryz.func22, Tryz.ntmps22
     go_wp2_with (go_at_call 42; refine G.out.mono ?_; rintro e w' ⟨rfl, rfl⟩)
     go_ret
     exact ⟨rfl, rfl⟩)

/-- tokenFits of bytes and one key. -/
theorem fits1 (g : Nat) (vb v : Value) (b xs : List Int) (w : World) (hb : Bs w vb b) (h : Bs w v xs) (hc : w.cell? ⟨g, 0, none⟩ = some v) :
    Calls Tryz.prog 5 #[vb, .slice (some ⟨g, 0, none⟩) 1 1] w fun e w' => e = .returned (.bool (decide (b.length ≤ 1000) && keyB xs.length)) ∧ w = w' := by
  have G := Lib.hid (contains1 g v xs w h hc)
  have dn : ∀ (b : Bool) (wx : World), (Op.unary .not (.bool b)).run Tryz.prog wx = .ok (.bool (!b)) wx := fun _ _ => rfl
  obtain ⟨kb, hkb⟩ : ∃ kb, keyB xs.length = kb := ⟨_, rfl⟩
  rw [hkb] at G ⊢
  obtain ⟨p, c, rfl, _, _, _⟩ := hb
  clear hkb h hc
  by_cases h1 : b.length ≤ 1000
  · have h2 : (b.length : Int) ≤ 1000 := by omega
    rw [show decide (b.length ≤ 1000) = true by simpa using h1, Bool.true_and]
    cases kb
    all_goals
      (go_enter Tryz.func5, Tryz.ntmps5
       go_wp2_with (go_at_call 22; refine G.out.mono ?_; rintro e w' ⟨rfl, rfl⟩)
       go_ret
       exact ⟨rfl, rfl⟩)
  · have h2 : ¬ (b.length : Int) ≤ 1000 := by omega
    rw [show decide (b.length ≤ 1000) = false by simpa using h1, Bool.false_and]
    go_enter Tryz.func5, Tryz.ntmps5
    go_wp2_with fail
    go_ret
    exact ⟨rfl, rfl⟩
end Go.Proofs.YtaemdppihpefnaaGreatDoor
