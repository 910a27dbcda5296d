/- jwsbb.zzCut, SplitCompact, impl.Split: they cut a text at its dots. -/
import Derived.Test.YtpmoaghhccioaaaGreatDoorDotLaw
import Derived.Test.YtpmoaghhccioaaaGreatDoorBytes
import Derived.Deep.QuietTactic
import Derived.BigQuiet
import Derived.LoopTactic
import Derived.Deep.LoopGhost
import Derived.Outline
import Derived.IntWalk
namespace Go.Proofs.YtpmoaghhccioaaaGreatDoor
open Go.RowKit
set_option linter.unusedVariables false

set_option maxRecDepth 100000 in
set_option maxHeartbeats 1000000 in
theorem zzcut (v : Value) (xs : List Int) (w : World) (h : Bs w v xs) (hl : xs.length ≤ 65536) :
    Calls Tryz.prog 20 #[v] w fun e w' => (∃ v1 v2, e = .returned (.tuple #[v1, v2, .bool (cutB xs).2.2]) ∧ Bs w' v1 (cutB xs).1 ∧ Bs w' v2 (cutB xs).2.1) ∧ Below w.heap.size w w' := by
  obtain ⟨p, c, rfl, hc, -, -⟩ := id h
  have H := Lib.hid h
  clear h
  go_enter Tryz.func20, Tryz.ntmps20
  go_wp2_with fail
  go_loopw [9] (fun i wr => ∃ k : Nat, k ≤ xs.length ∧ i = .int .i64 k ∧ wr = w ∧ Hid (∀ i, i < k → xs.getD i 0 ≠ 46)) (fun i _ => xs.length - (intOf i).toNat)
  case atStart => exact ⟨0, by omega, rfl, rfl, Lib.hid (fun i hi => by omega)⟩
  case round =>
    obtain ⟨k, hk, rfl, rfl, hS⟩ := hrel
    by_cases hkn : k < xs.length
    · obtain ⟨b, o, rfl, hcell⟩ := H.out.at (by omega)
      obtain ⟨y, hy⟩ : ∃ y, y = xs.getD k 0 := ⟨_, rfl⟩
      have c0 := hcell k hkn
      rw [← hy] at c0
      clear hcell
      have hkI : (k : Int) < xs.length := by omega
      have HY := Lib.hid hy
      clear hy
      by_cases h46 : y = 46
      · subst h46
        have EC := Lib.hid (cutB_at xs k hkn hS.out HY.out.symm)
        have h1 : Bs wr (.slice (some ⟨b, o, none⟩) k c) (xs.take k) := by
          have := H.out.cut 0 k (Nat.zero_le _) (by omega)
          simpa [cutA, Go.WideShapes.add_plain] using this
        have h2 : Bs wr (.slice (if c = k + 1 then some ⟨b, o, none⟩ else some ⟨b, o + (k + 1), none⟩) (xs.length - (k + 1)) (c - (k + 1))) (xs.drop (k + 1)) := by
          have := H.out.cut (k + 1) xs.length (by omega) (Nat.le_refl _)
          rw [List.take_length] at this
          simpa [cutA, Go.WideShapes.add_plain] using this
        have H1 := Lib.hid h1
        have H2 := Lib.hid h2
        clear h1 h2
        have hkc : (k : Int) ≤ c := by omega
        have hkc2 : (k : Int) + 1 ≤ xs.length := by omega
        have hkc3 : (xs.length : Int) ≤ c := by omega
        have hk0 : (0 : Int) ≤ (k : Int) + 1 := by omega
        have hkw : IntKind.i64.wrap ((k : Int) + 1) = (k : Int) + 1 := IntWalk.i64_in _ (by omega)
        go_wp2_with fail
        go_quiet (fail)
        generalize hv2 : Value.slice (if c = k + 1 then _ else _) _ _ = v2 at H2 ⊢
        clear hv2
        go_wp2_with fail
        go_ret3
        rw [EC.out]
        exact ⟨⟨_, _, rfl, H1.out, H2.out⟩, (Below.refl _ _).trans (below_drewN (Below.refl _ _) nq)⟩
      · go_wp2_with fail
        refine ⟨⟨k + 1, by omega, by go_num, trivial, Lib.hid (fun i hi => ?_)⟩, by simp [intOf]; omega⟩
        rcases Nat.lt_or_ge i k with h | h
        · exact hS.out i h
        · obtain rfl : i = k := by omega
          rw [← HY.out]; exact h46
    · obtain rfl : k = xs.length := by omega
      have EC := Lib.hid (cutB_none xs hS.out)
      go_wp2_with fail
      go_ret3
      rw [EC.out]
      exact ⟨⟨_, _, rfl, H.out, Bs.nil _⟩, Below.refl _ _⟩

/-- The error variable of jwsbb. -/
def Ev (w : World) : Prop := ∃ T a, w.cell? ⟨0, 0, none⟩ = some (.iface T (.pointer (some a)))
theorem Ev.below {w w' : World} (h : Ev w) (hb : Below w.heap.size w w') : Ev w' := by
  obtain ⟨T, a, h⟩ := h
  exact ⟨T, a, by rw [hb.cell (World.block_lt_of_cell? w _ h)]; exact h⟩

theorem segErr (w : World) (T : TypeId) (a : Addr) (h : w.cell? ⟨0, 0, none⟩ = some (.iface T (.pointer (some a)))) :
    Calls Tryz.prog 21 #[] w fun e w' => e = .returned (.iface T (.pointer (some a))) ∧ w' = w := by
  go_enter Tryz.func21, Tryz.ntmps21
  go_wp2_with fail
  go_ret
  exact ⟨rfl, rfl⟩

/-- What SplitCompact returns. -/
def Cut3 (w : World) (xs : List Int) (e : Ending) : Prop :=
  if spOk xs then ∃ v1 v2 v3, e = .returned (.tuple #[v1, v2, v3, Value.nilIface]) ∧ Bs w v1 (sp1 xs) ∧ Bs w v2 (sp2 xs) ∧ Bs w v3 (sp3 xs)
  else ∃ T a, e = .returned (.tuple #[.slice none 0 0, .slice none 0 0, .slice none 0 0, .iface T (.pointer (some a))])

theorem cutB_len (xs : List Int) : (cutB xs).2.1.length ≤ xs.length ∧ (cutB xs).1.length ≤ xs.length := by
  induction xs with
  | nil => simp [cutB]
  | cons x xs ih =>
    by_cases h : x = 46
    · simp [cutB, h]
    · simp [cutB, h]; omega

set_option maxRecDepth 100000 in
set_option maxHeartbeats 1000000 in
theorem splitC (v : Value) (xs : List Int) (w : World) (h : Bs w v xs) (hl : xs.length ≤ 65536) (he : Ev w) :
    Calls Tryz.prog 15 #[v] w fun e w' => Cut3 w' xs e ∧ Below w.heap.size w w' := by
  have H := Lib.hid h
  have HE := Lib.hid he
  clear h he
  have dn : ∀ (b : Bool) (wx : World), (Op.unary .not (.bool b)).run Tryz.prog wx = .ok (.bool (!b)) wx := fun _ _ => rfl
  have l1 := cutB_len xs
  have l2 := cutB_len (cutB xs).2.1
  go_enter Tryz.func15, Tryz.ntmps15
  go_wp2_with fail
  go_at_call 20
  refine (zzcut v xs _ H.out hl).mono ?_
  rintro e w1 ⟨⟨v1, s1, rfl, h1, hs1⟩, b1⟩
  have H1 := Lib.hid h1
  have S1 := Lib.hid hs1
  have E1 := Lib.hid (HE.out.below b1)
  have B1 := Lib.hid b1
  clear h1 hs1 b1
  obtain ⟨f1, hf1⟩ : ∃ f, (cutB xs).2.2 = f := ⟨_, rfl⟩
  rw [hf1]
  have F1 := Lib.hid hf1
  clear hf1
  cases f1
  · obtain ⟨T, a, hE⟩ := E1.out
    go_wp2_with (go_at_call 21; refine (segErr _ T a hE).mono ?_; rintro e w' ⟨rfl, rfl⟩)
    (try simp only [Exit.inBlock, Exit.then])
    refine bodyPost_ret (results_tmp4 rfl _ _ _) rfl ?_
    refine ⟨?_, B1.out⟩
    unfold Cut3 spOk
    rw [F1.out]
    exact ⟨T, a, rfl⟩
  · go_wp2_with fail
    go_at_call 20
    refine (zzcut s1 _ _ S1.out (by omega)).mono ?_
    rintro e w2 ⟨⟨v2, s2, rfl, h2, hs2⟩, b2⟩
    have H2 := Lib.hid h2
    have S2 := Lib.hid hs2
    have H1 := Lib.hid (H1.out.below b2)
    have E2 := Lib.hid (E1.out.below b2)
    have B2 := Lib.hid (B1.out.trans (b2.mono B1.out.size))
    clear h2 hs2 b2
    obtain ⟨f2, hf2⟩ : ∃ f, (cutB (cutB xs).2.1).2.2 = f := ⟨_, rfl⟩
    rw [hf2]
    have F2 := Lib.hid hf2
    clear hf2
    cases f2
    · obtain ⟨T, a, hE⟩ := E2.out
      go_wp2_with (go_at_call 21; refine (segErr _ T a hE).mono ?_; rintro e w' ⟨rfl, rfl⟩)
      (try simp only [Exit.inBlock, Exit.then])
      refine bodyPost_ret (results_tmp4 rfl _ _ _) rfl ?_
      refine ⟨?_, B2.out⟩
      unfold Cut3 spOk
      rw [F1.out, F2.out]
      exact ⟨T, a, rfl⟩
    · go_wp2_with fail
      go_at_call 20
      refine (zzcut s2 _ _ S2.out (by omega)).mono ?_
      rintro e w3 ⟨⟨v3, s3, rfl, h3, hs3⟩, b3⟩
      have H3 := Lib.hid h3
      have H2 := Lib.hid (H2.out.below b3)
      have H1 := Lib.hid (H1.out.below b3)
      have E3 := Lib.hid (E2.out.below b3)
      have B3 := Lib.hid (B2.out.trans (b3.mono B2.out.size))
      clear h3 hs3 b3
      obtain ⟨f3, hf3⟩ : ∃ f, (cutB (cutB (cutB xs).2.1).2.1).2.2 = f := ⟨_, rfl⟩
      rw [hf3]
      have F3 := Lib.hid hf3
      clear hf3
      cases f3
      · go_wp2_with fail
        (try simp only [Exit.inBlock, Exit.then])
        refine bodyPost_ret (results_tmp4 rfl _ _ _) rfl ?_
        refine ⟨?_, B3.out⟩
        unfold Cut3 spOk
        rw [F1.out, F2.out, F3.out]
        exact ⟨_, _, _, rfl, H1.out, H2.out, H3.out⟩
      · obtain ⟨T, a, hE⟩ := E3.out
        go_wp2_with (go_at_call 21; refine (segErr _ T a hE).mono ?_; rintro e w' ⟨rfl, rfl⟩)
        (try simp only [Exit.inBlock, Exit.then])
        refine bodyPost_ret (results_tmp4 rfl _ _ _) rfl ?_
        refine ⟨?_, B3.out⟩
        unfold Cut3 spOk
        rw [F1.out, F2.out, F3.out]
        exact ⟨T, a, rfl⟩

/-- What impl.Split returns. -/
def Split4 (w : World) (xs : List Int) (e : Ending) : Prop :=
  if spOk xs then ∃ v1 v2 v3, e = .returned (.tuple #[v1, v2, v3, .bool true]) ∧ Bs w v1 (sp1 xs) ∧ Bs w v2 (sp2 xs) ∧ Bs w v3 (sp3 xs)
  else e = .returned (.tuple #[.slice none 0 0, .slice none 0 0, .slice none 0 0, .bool false])

set_option maxRecDepth 100000 in
set_option maxHeartbeats 1000000 in
theorem split (v : Value) (xs : List Int) (w : World) (h : Bs w v xs) (hl : xs.length ≤ 65536) (he : Ev w) :
    Calls Tryz.prog 8 #[v] w fun e w' => Split4 w' xs e ∧ Below w.heap.size w w' := by
  have H := Lib.hid h
  have HE := Lib.hid he
  clear h he
  have l1 := cutB_len xs
  have l2 := cutB_len (cutB xs).2.1
  have l3 := cutB_len (cutB (cutB xs).2.1).2.1
  have n1 := Lib.hid (show (sp1 xs).length ≤ 65536 by unfold sp1; omega)
  have n2 := Lib.hid (show (sp2 xs).length ≤ 65536 by unfold sp2; omega)
  have n3 := Lib.hid (show (sp3 xs).length ≤ 65536 by unfold sp3; omega)
  clear l1 l2 l3
  go_enter Tryz.func8, Tryz.ntmps8
  go_wp2_with fail
  go_at_call 9
  refine (clone v xs _ H.out (by omega)).mono ?_
  rintro e w1 ⟨x, rfl, o1, b1⟩
  have X1 := Lib.hid (Bs.own o1)
  have E1 := Lib.hid (HE.out.below b1)
  have B1 := Lib.hid b1
  clear o1 b1
  go_wp2_with fail
  go_at_call 15
  refine (splitC x xs _ X1.out hl E1.out).mono ?_
  rintro e w2 ⟨hc, b2⟩
  have B2 := Lib.hid (B1.out.trans (b2.mono B1.out.size))
  clear b2
  unfold Cut3 at hc
  obtain ⟨f, hf⟩ : ∃ f, spOk xs = f := ⟨_, rfl⟩
  rw [hf] at hc
  have F := Lib.hid hf
  clear hf
  cases f
  · obtain ⟨T, a, rfl⟩ := hc
    go_wp2_with fail
    (try simp only [Exit.inBlock, Exit.then])
    refine bodyPost_ret (results_tmp4 rfl _ _ _) rfl ?_
    refine ⟨?_, B2.out⟩
    unfold Split4
    rw [F.out]
    rfl
  · obtain ⟨v1, v2, v3, rfl, h1, h2, h3⟩ := hc
    have H1 := Lib.hid h1
    have H2 := Lib.hid h2
    have H3 := Lib.hid h3
    clear h1 h2 h3
    go_wp2_with fail
    go_at_call 9
    refine (clone v1 _ _ H1.out (by have := n1.out; omega)).mono ?_
    rintro e w3 ⟨y1, rfl, o3, b3⟩
    have Y1 := Lib.hid (Bs.own o3)
    have H2 := Lib.hid (H2.out.below b3)
    have H3 := Lib.hid (H3.out.below b3)
    have B3 := Lib.hid (B2.out.trans (b3.mono B2.out.size))
    clear o3 b3
    go_wp2_with fail
    go_at_call 9
    refine (clone v2 _ _ H2.out (by have := n2.out; omega)).mono ?_
    rintro e w4 ⟨y2, rfl, o4, b4⟩
    have Y2 := Lib.hid (Bs.own o4)
    have Y1 := Lib.hid (Y1.out.below b4)
    have H3 := Lib.hid (H3.out.below b4)
    have B4 := Lib.hid (B3.out.trans (b4.mono B3.out.size))
    clear o4 b4
    go_wp2_with fail
    go_at_call 9
    refine (clone v3 _ _ H3.out (by have := n3.out; omega)).mono ?_
    rintro e w5 ⟨y3, rfl, o5, b5⟩
    have Y3 := Lib.hid (Bs.own o5)
    have Y1 := Lib.hid (Y1.out.below b5)
    have Y2 := Lib.hid (Y2.out.below b5)
    have B5 := Lib.hid (B4.out.trans (b5.mono B4.out.size))
    clear o5 b5
    go_wp2_with fail
    (try simp only [Exit.inBlock, Exit.then])
    refine bodyPost_ret (results_tmp4 rfl _ _ _) rfl ?_
    refine ⟨?_, B5.out⟩
    unfold Split4
    rw [F.out]
    exact ⟨_, _, _, rfl, Y1.out, Y2.out, Y3.out⟩
end Go.Proofs.YtpmoaghhccioaaaGreatDoor
