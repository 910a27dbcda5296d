/- Texts of parts with dots between them, and how they are cut. No program is in sight. -/
import Derived.Test.YtaemdppihpefnaaGreatDoorBase
import Derived.Test.YtaemdppihpefnaaGreatDoorHashKit
import Derived.Deep.QuietTactic
import Derived.BigQuiet
import Derived.LoopTactic
import Derived.Deep.LoopGhost
import Derived.Outline
import Derived.IntWalk
import Derived.Test.YtaemdppihpefnaaGreatDoorProg
import Derived.Lib.AppendZeros
namespace Go.Proofs.YtaemdppihpefnaaGreatDoor
set_option linter.unusedVariables false

/-- Cut at the first dot: what stands ahead of it, what stands behind it, whether there is one. -/
def cutB : List Int → List Int × List Int × Bool
  | [] => ([], [], false)
  | x :: xs => if x = 46 then ([], xs, true) else (x :: (cutB xs).1, (cutB xs).2.1, (cutB xs).2.2)

theorem cutB_no : ∀ (q : List Int), (∀ x ∈ q, x ≠ 46) → cutB q = (q, [], false)
  | [], _ => rfl
  | x :: q, h => by
    have ih := cutB_no q (fun y hy => h y (List.mem_cons_of_mem _ hy))
    have hx : x ≠ 46 := h x (by simp)
    simp [cutB, hx, ih]
theorem cutB_dot : ∀ (q r : List Int), (∀ x ∈ q, x ≠ 46) → cutB (q ++ 46 :: r) = (q, r, true)
  | [], _, _ => by simp [cutB]
  | x :: q, r, h => by
    have ih := cutB_dot q r (fun y hy => h y (List.mem_cons_of_mem _ hy))
    have hx : x ≠ 46 := h x (by simp)
    simp [cutB, hx, ih]
theorem cutB_at (xs : List Int) (k : Nat) (hk : k < xs.length) (h : ∀ i, i < k → xs.getD i 0 ≠ 46) (h46 : xs.getD k 0 = 46) : cutB xs = (xs.take k, xs.drop (k + 1), true) := by
  have e : xs = xs.take k ++ 46 :: xs.drop (k + 1) := by
    have h1 : xs[k] = 46 := by simpa [List.getD, hk] using h46
    rw [← h1, List.getElem_cons_drop, List.take_append_drop]
  have hq : ∀ x ∈ xs.take k, x ≠ 46 := by
    intro x hx
    obtain ⟨i, hi, rfl⟩ := List.mem_iff_getElem.1 hx
    have hik : i < k := by simp at hi; omega
    have := h i hik
    rw [List.getElem_take]
    simpa [List.getD, Nat.lt_trans hik hk] using this
  have := cutB_dot (xs.take k) (xs.drop (k + 1)) hq
  rw [← e] at this
  exact this
theorem cutB_none (xs : List Int) (h : ∀ i, i < xs.length → xs.getD i 0 ≠ 46) : cutB xs = (xs, [], false) := by
  refine cutB_no xs fun x hx => ?_
  obtain ⟨i, hi, rfl⟩ := List.mem_iff_getElem.1 hx
  have := h i hi
  simpa [List.getD, hi] using this

/-- The first k parts, dots between them. -/
def tx (P : Nat → List Int) : Nat → List Int
  | 0 => []
  | k + 1 => tx P k ++ ((if 0 < k then [46] else []) ++ P k)

/-- What SplitCompact finds. -/
def sp1 (xs : List Int) : List Int := (cutB xs).1
def sp2 (xs : List Int) : List Int := (cutB (cutB xs).2.1).1
def sp3 (xs : List Int) : List Int := (cutB (cutB (cutB xs).2.1).2.1).1
def spOk (xs : List Int) : Bool := (cutB xs).2.2 && (cutB (cutB xs).2.1).2.2 && !(cutB (cutB (cutB xs).2.1).2.1).2.2

theorem tx_four (P : Nat → List Int) : ∀ n, ∃ r, tx P (n + 4) = P 0 ++ 46 :: (P 1 ++ 46 :: (P 2 ++ 46 :: r))
  | 0 => ⟨P 3, by simp [tx]⟩
  | n + 1 => by
    obtain ⟨r, hr⟩ := tx_four P n
    refine ⟨r ++ 46 :: P (n + 4), ?_⟩
    show tx P (n + 4) ++ ((if 0 < n + 4 then [46] else []) ++ P (n + 4)) = _
    rw [hr]
    simp

theorem split_text (P : Nat → List Int) (n : Nat) (hn : 0 < n) (hP : ∀ k, ∀ x ∈ P k, x ≠ 46) :
    spOk (tx P n) = decide (n = 3) ∧ (n = 3 → sp1 (tx P n) ++ ([46] ++ (sp2 (tx P n) ++ ([46] ++ sp3 (tx P n)))) = tx P n) := by
  have h0 := hP 0
  have h1 := hP 1
  have h2 := hP 2
  match n, hn with
  | 1, _ =>
    have e : tx P 1 = P 0 := by simp [tx]
    rw [e]
    simp [spOk, cutB_no _ h0]
  | 2, _ =>
    have e : tx P 2 = P 0 ++ 46 :: P 1 := by simp [tx]
    rw [e]
    simp [spOk, cutB_dot _ _ h0, cutB_no _ h1]
  | 3, _ =>
    have e : tx P 3 = P 0 ++ 46 :: (P 1 ++ 46 :: P 2) := by simp [tx]
    rw [e]
    simp [spOk, sp1, sp2, sp3, cutB_dot _ _ h0, cutB_dot _ _ h1, cutB_no _ h2]
  | n + 4, _ =>
    obtain ⟨r, hr⟩ := tx_four P n
    rw [hr]
    have h3 : ¬ (n + 4 = 3) := by omega
    simp [spOk, cutB_dot _ _ h0, cutB_dot _ _ h1, cutB_dot _ _ h2]

/-- The letters. -/
def abc : List Int := [65, 66, 67, 68, 69, 70, 71, 72, 97, 98, 99, 100, 101, 102, 103, 104, 48, 49, 50, 51, 52, 53, 54, 55, 45, 95]
def ab (x : Int) : Int := abc.getD (x.toNat % 26) 0
theorem ab_ne (x : Int) : ab x ≠ 46 := by
  have h : (abc.all fun y => decide (y ≠ 46)) = true := by decide
  have hl : x.toNat % 26 < abc.length := Nat.mod_lt _ (by decide)
  have e : ab x = abc[x.toNat % 26] := by simp [ab, List.getD, hl]
  have := List.all_eq_true.1 h _ (List.getElem_mem hl)
  rw [e]; simpa using this
theorem ab_byt (x : Int) : 0 ≤ ab x ∧ ab x < 256 := by
  have h : (abc.all fun y => decide (0 ≤ y ∧ y < 256)) = true := by decide
  have hl : x.toNat % 26 < abc.length := Nat.mod_lt _ (by decide)
  have e : ab x = abc[x.toNat % 26] := by simp [ab, List.getD, hl]
  have := List.all_eq_true.1 h _ (List.getElem_mem hl)
  rw [e]; simpa using this
theorem tx_byt (P : Nat → List Int) (hP : ∀ k, ∀ x ∈ P k, 0 ≤ x ∧ x < 256) : ∀ n, Byt (tx P n)
  | 0 => fun x hx => by cases hx
  | n + 1 => fun x hx => by
    rcases List.mem_append.1 hx with h | h
    · exact tx_byt P hP n x h
    · rcases List.mem_append.1 h with h | h
      · split at h
        · simp at h; subst h; omega
        · cases h
      · exact hP n x h
theorem tx_len (P : Nat → List Int) (m : Nat) (hP : ∀ k, (P k).length ≤ m) : ∀ n, (tx P n).length ≤ n * (m + 1)
  | 0 => by simp [tx]
  | n + 1 => by
    have ih := tx_len P m hP n
    have h := hP n
    simp only [tx, List.length_append]
    rw [Nat.add_mul]
    split <;> simp <;> omega
end Go.Proofs.YtaemdppihpefnaaGreatDoor

/- jwsbb.zzCut, SplitCompact, impl.Split: they cut a text at its dots. -/
namespace Go.Proofs.YtaemdppihpefnaaGreatDoor
open Go.RowKit
set_option linter.unusedVariables false

set_option maxRecDepth 100000 in
set_option maxHeartbeats 1000000 in
theorem zzcut (v : Value) (xs : List Int) (w : World) (h : Bs w v xs) (hl : xs.length ≤ 65536) :
    Calls Tryz.prog 55 #[v] w fun e w' => (∃ v1 v2, e = .returned (.tuple #[v1, v2, .bool (cutB xs).2.2]) ∧ Bs w' v1 (cutB xs).1 ∧ Bs w' v2 (cutB xs).2.1) ∧ Below w.heap.size w w' := by
  obtain ⟨p, c, rfl, hc, -, -⟩ := id h
  have H := Lib.hid h
  clear h
  go_enter Tryz.func55, Tryz.ntmps55
  go_wp2_with fail
  go_loopw [9] (fun i wr => ∃ k : Nat, k ≤ xs.length ∧ i = .int .i64 k ∧ wr = w ∧ Hid (∀ i, i < k → xs.getD i 0 ≠ 46)) (fun i _ => xs.length - (intOf i).toNat)
  case atStart => exact ⟨0, by omega, rfl, rfl, Lib.hid (fun i hi => by omega)⟩
  case round =>
    obtain ⟨k, hk, rfl, rfl, hS⟩ := hrel
    by_cases hkn : k < xs.length
    · obtain ⟨b, o, rfl, hcell⟩ := H.out.at (by omega)
      obtain ⟨y, hy⟩ : ∃ y, y = xs.getD k 0 := ⟨_, rfl⟩
      have c0 := hcell k hkn
      rw [← hy] at c0
      clear hcell
      have hkI : (k : Int) < xs.length := by omega
      have HY := Lib.hid hy
      clear hy
      by_cases h46 : y = 46
      · subst h46
        have EC := Lib.hid (cutB_at xs k hkn hS.out HY.out.symm)
        have h1 : Bs wr (.slice (some ⟨b, o, none⟩) k c) (xs.take k) := by
          have := H.out.cut 0 k (Nat.zero_le _) (by omega)
          simpa [cutA, Go.WideShapes.add_plain] using this
        have h2 : Bs wr (.slice (if c = k + 1 then some ⟨b, o, none⟩ else some ⟨b, o + (k + 1), none⟩) (xs.length - (k + 1)) (c - (k + 1))) (xs.drop (k + 1)) := by
          have := H.out.cut (k + 1) xs.length (by omega) (Nat.le_refl _)
          rw [List.take_length] at this
          simpa [cutA, Go.WideShapes.add_plain] using this
        have H1 := Lib.hid h1
        have H2 := Lib.hid h2
        clear h1 h2
        have hkc : (k : Int) ≤ c := by omega
        have hkc2 : (k : Int) + 1 ≤ xs.length := by omega
        have hkc3 : (xs.length : Int) ≤ c := by omega
        have hk0 : (0 : Int) ≤ (k : Int) + 1 := by omega
        have hkw : IntKind.i64.wrap ((k : Int) + 1) = (k : Int) + 1 := IntWalk.i64_in _ (by omega)
        go_wp2_with fail
        go_quiet (fail)
        generalize hv2 : Value.slice (if c = k + 1 then _ else _) _ _ = v2 at H2 ⊢
        clear hv2
        go_wp2_with fail
        go_ret3
        rw [EC.out]
        exact ⟨⟨_, _, rfl, H1.out, H2.out⟩, (Below.refl _ _).trans (below_drewN (Below.refl _ _) nq)⟩
      · go_wp2_with fail
        refine ⟨⟨k + 1, by omega, by go_num, trivial, Lib.hid (fun i hi => ?_)⟩, by simp [intOf]; omega⟩
        rcases Nat.lt_or_ge i k with h | h
        · exact hS.out i h
        · obtain rfl : i = k := by omega
          rw [← HY.out]; exact h46
    · obtain rfl : k = xs.length := by omega
      have EC := Lib.hid (cutB_none xs hS.out)
      go_wp2_with fail
      go_ret3
      rw [EC.out]
      exact ⟨⟨_, _, rfl, H.out, Bs.nil _⟩, Below.refl _ _⟩

/-- The error variable of jwsbb. -/
def Ev (w : World) : Prop := ∃ T a, w.cell? ⟨0, 0, none⟩ = some (.iface T (.pointer (some a)))
theorem Ev.below {w w' : World} (h : Ev w) (hb : Below w.heap.size w w') : Ev w' := by
  obtain ⟨T, a, h⟩ := h
  exact ⟨T, a, by rw [hb.cell (World.block_lt_of_cell? w _ h)]; exact h⟩

theorem segErr (w : World) (T : TypeId) (a : Addr) (h : w.cell? ⟨0, 0, none⟩ = some (.iface T (.pointer (some a)))) :
    Calls Tryz.prog 56 #[] w fun e w' => e = .returned (.iface T (.pointer (some a))) ∧ w' = w := by
  go_enter Tryz.func56, Tryz.ntmps56
  go_wp2_with fail
  go_ret
  exact ⟨rfl, rfl⟩

/-- What SplitCompact returns. -/
def Cut3 (w : World) (xs : List Int) (e : Ending) : Prop :=
  if spOk xs then ∃ v1 v2 v3, e = .returned (.tuple #[v1, v2, v3, Value.nilIface]) ∧ Bs w v1 (sp1 xs) ∧ Bs w v2 (sp2 xs) ∧ Bs w v3 (sp3 xs)
  else ∃ T a, e = .returned (.tuple #[.slice none 0 0, .slice none 0 0, .slice none 0 0, .iface T (.pointer (some a))])

theorem cutB_len (xs : List Int) : (cutB xs).2.1.length ≤ xs.length ∧ (cutB xs).1.length ≤ xs.length := by
  induction xs with
  | nil => simp [cutB]
  | cons x xs ih =>
    by_cases h : x = 46
    · simp [cutB, h]
    · simp [cutB, h]; omega

set_option maxRecDepth 100000 in
set_option maxHeartbeats 1000000 in
theorem splitC (v : Value) (xs : List Int) (w : World) (h : Bs w v xs) (hl : xs.length ≤ 65536) (he : Ev w) :
    Calls Tryz.prog 34 #[v] w fun e w' => Cut3 w' xs e ∧ Below w.heap.size w w' := by
  have H := Lib.hid h
  have HE := Lib.hid he
  clear h he
  have dn : ∀ (b : Bool) (wx : World), (Op.unary .not (.bool b)).run Tryz.prog wx = .ok (.bool (!b)) wx := fun _ _ => rfl
  have l1 := cutB_len xs
  have l2 := cutB_len (cutB xs).2.1
  go_enter Tryz.func34, Tryz.ntmps34
  go_wp2_with fail
  go_at_call 55
  refine (zzcut v xs _ H.out hl).mono ?_
  rintro e w1 ⟨⟨v1, s1, rfl, h1, hs1⟩, b1⟩
  have H1 := Lib.hid h1
  have S1 := Lib.hid hs1
  have E1 := Lib.hid (HE.out.below b1)
  have B1 := Lib.hid b1
  clear h1 hs1 b1
  obtain ⟨f1, hf1⟩ : ∃ f, (cutB xs).2.2 = f := ⟨_, rfl⟩
  rw [hf1]
  have F1 := Lib.hid hf1
  clear hf1
  cases f1
  · obtain ⟨T, a, hE⟩ := E1.out
    go_wp2_with (go_at_call 56; refine (segErr _ T a hE).mono ?_; rintro e w' ⟨rfl, rfl⟩)
    (try simp only [Exit.inBlock, Exit.then])
    refine bodyPost_ret (results_tmp4 rfl _ _ _) rfl ?_
    refine ⟨?_, B1.out⟩
    unfold Cut3 spOk
    rw [F1.out]
    exact ⟨T, a, rfl⟩
  · go_wp2_with fail
    go_at_call 55
    refine (zzcut s1 _ _ S1.out (by omega)).mono ?_
    rintro e w2 ⟨⟨v2, s2, rfl, h2, hs2⟩, b2⟩
    have H2 := Lib.hid h2
    have S2 := Lib.hid hs2
    have H1 := Lib.hid (H1.out.below b2)
    have E2 := Lib.hid (E1.out.below b2)
    have B2 := Lib.hid (B1.out.trans (b2.mono B1.out.size))
    clear h2 hs2 b2
    obtain ⟨f2, hf2⟩ : ∃ f, (cutB (cutB xs).2.1).2.2 = f := ⟨_, rfl⟩
    rw [hf2]
    have F2 := Lib.hid hf2
    clear hf2
    cases f2
    · obtain ⟨T, a, hE⟩ := E2.out
      go_wp2_with (go_at_call 56; refine (segErr _ T a hE).mono ?_; rintro e w' ⟨rfl, rfl⟩)
      (try simp only [Exit.inBlock, Exit.then])
      refine bodyPost_ret (results_tmp4 rfl _ _ _) rfl ?_
      refine ⟨?_, B2.out⟩
      unfold Cut3 spOk
      rw [F1.out, F2.out]
      exact ⟨T, a, rfl⟩
    · go_wp2_with fail
      go_at_call 55
      refine (zzcut s2 _ _ S2.out (by omega)).mono ?_
      rintro e w3 ⟨⟨v3, s3, rfl, h3, hs3⟩, b3⟩
      have H3 := Lib.hid h3
      have H2 := Lib.hid (H2.out.below b3)
      have H1 := Lib.hid (H1.out.below b3)
      have E3 := Lib.hid (E2.out.below b3)
      have B3 := Lib.hid (B2.out.trans (b3.mono B2.out.size))
      clear h3 hs3 b3
      obtain ⟨f3, hf3⟩ : ∃ f, (cutB (cutB (cutB xs).2.1).2.1).2.2 = f := ⟨_, rfl⟩
      rw [hf3]
      have F3 := Lib.hid hf3
      clear hf3
      cases f3
      · go_wp2_with fail
        (try simp only [Exit.inBlock, Exit.then])
        refine bodyPost_ret (results_tmp4 rfl _ _ _) rfl ?_
        refine ⟨?_, B3.out⟩
        unfold Cut3 spOk
        rw [F1.out, F2.out, F3.out]
        exact ⟨_, _, _, rfl, H1.out, H2.out, H3.out⟩
      · obtain ⟨T, a, hE⟩ := E3.out
        go_wp2_with (go_at_call 56; refine (segErr _ T a hE).mono ?_; rintro e w' ⟨rfl, rfl⟩)
        (try simp only [Exit.inBlock, Exit.then])
        refine bodyPost_ret (results_tmp4 rfl _ _ _) rfl ?_
        refine ⟨?_, B3.out⟩
        unfold Cut3 spOk
        rw [F1.out, F2.out, F3.out]
        exact ⟨T, a, rfl⟩

/-- What impl.Split returns. -/
def Split4 (w : World) (xs : List Int) (e : Ending) : Prop :=
  if spOk xs then ∃ v1 v2 v3, e = .returned (.tuple #[v1, v2, v3, .bool true]) ∧ Bs w v1 (sp1 xs) ∧ Bs w v2 (sp2 xs) ∧ Bs w v3 (sp3 xs)
  else e = .returned (.tuple #[.slice none 0 0, .slice none 0 0, .slice none 0 0, .bool false])

set_option maxRecDepth 100000 in
set_option maxHeartbeats 1000000 in
theorem split (v : Value) (xs : List Int) (w : World) (h : Bs w v xs) (hl : xs.length ≤ 65536) (he : Ev w) :
    Calls Tryz.prog 18 #[v] w fun e w' => Split4 w' xs e ∧ Below w.heap.size w w' := by
  have H := Lib.hid h
  have HE := Lib.hid he
  clear h he
  have l1 := cutB_len xs
  have l2 := cutB_len (cutB xs).2.1
  have l3 := cutB_len (cutB (cutB xs).2.1).2.1
  have n1 := Lib.hid (show (sp1 xs).length ≤ 65536 by unfold sp1; omega)
  have n2 := Lib.hid (show (sp2 xs).length ≤ 65536 by unfold sp2; omega)
  have n3 := Lib.hid (show (sp3 xs).length ≤ 65536 by unfold sp3; omega)
  clear l1 l2 l3
  go_enter Tryz.func18, Tryz.ntmps18
  go_wp2_with fail
  go_at_call 7
  refine (clone v xs _ H.out (by omega)).mono ?_
  rintro e w1 ⟨x, rfl, o1, b1⟩
  have X1 := Lib.hid (Bs.own o1)
  have E1 := Lib.hid (HE.out.below b1)
  have B1 := Lib.hid b1
  clear o1 b1
  go_wp2_with fail
  go_at_call 34
  refine (splitC x xs _ X1.out hl E1.out).mono ?_
  rintro e w2 ⟨hc, b2⟩
  have B2 := Lib.hid (B1.out.trans (b2.mono B1.out.size))
  clear b2
  unfold Cut3 at hc
  obtain ⟨f, hf⟩ : ∃ f, spOk xs = f := ⟨_, rfl⟩
  rw [hf] at hc
  have F := Lib.hid hf
  clear hf
  cases f
  · obtain ⟨T, a, rfl⟩ := hc
    go_wp2_with fail
    (try simp only [Exit.inBlock, Exit.then])
    refine bodyPost_ret (results_tmp4 rfl _ _ _) rfl ?_
    refine ⟨?_, B2.out⟩
    unfold Split4
    rw [F.out]
    rfl
  · obtain ⟨v1, v2, v3, rfl, h1, h2, h3⟩ := hc
    have H1 := Lib.hid h1
    have H2 := Lib.hid h2
    have H3 := Lib.hid h3
    clear h1 h2 h3
    go_wp2_with fail
    go_at_call 7
    refine (clone v1 _ _ H1.out (by have := n1.out; omega)).mono ?_
    rintro e w3 ⟨y1, rfl, o3, b3⟩
    have Y1 := Lib.hid (Bs.own o3)
    have H2 := Lib.hid (H2.out.below b3)
    have H3 := Lib.hid (H3.out.below b3)
    have B3 := Lib.hid (B2.out.trans (b3.mono B2.out.size))
    clear o3 b3
    go_wp2_with fail
    go_at_call 7
    refine (clone v2 _ _ H2.out (by have := n2.out; omega)).mono ?_
    rintro e w4 ⟨y2, rfl, o4, b4⟩
    have Y2 := Lib.hid (Bs.own o4)
    have Y1 := Lib.hid (Y1.out.below b4)
    have H3 := Lib.hid (H3.out.below b4)
    have B4 := Lib.hid (B3.out.trans (b4.mono B3.out.size))
    clear o4 b4
    go_wp2_with fail
    go_at_call 7
    refine (clone v3 _ _ H3.out (by have := n3.out; omega)).mono ?_
    rintro e w5 ⟨y3, rfl, o5, b5⟩
    have Y3 := Lib.hid (Bs.own o5)
    have Y1 := Lib.hid (Y1.out.below b5)
    have Y2 := Lib.hid (Y2.out.below b5)
    have B5 := Lib.hid (B4.out.trans (b5.mono B4.out.size))
    clear o5 b5
    go_wp2_with fail
    (try simp only [Exit.inBlock, Exit.then])
    refine bodyPost_ret (results_tmp4 rfl _ _ _) rfl ?_
    refine ⟨?_, B5.out⟩
    unfold Split4
    rw [F.out]
    exact ⟨_, _, _, rfl, Y1.out, Y2.out, Y3.out⟩
end Go.Proofs.YtaemdppihpefnaaGreatDoor

/- Parts of bytes: a slice of slices. No program is in sight. -/
namespace Go.Proofs.YtaemdppihpefnaaGreatDoor
open Go.RowKit
set_option linter.unusedVariables false

/-- Parts of bytes: a slice of slices. -/
structure Parts (w : World) (p : Option Addr) (n : Nat) (A : Nat → Option Addr) (C : Nat → Nat) (P : Nat → List Int) : Prop where
  cell : 0 < n → ∃ b o, p = some ⟨b, o, none⟩ ∧ b < w.heap.size ∧ ∀ i, i < n → w.cell? ⟨b, o + i, none⟩ = some (.slice (A i) (P i).length (C i))
  bs : ∀ i, i < n → Bs w (.slice (A i) (P i).length (C i)) (P i)
theorem Parts.below {w w' : World} {p : Option Addr} {n : Nat} {A : Nat → Option Addr} {C : Nat → Nat} {P : Nat → List Int} (h : Parts w p n A C P) (hb : Below w.heap.size w w') : Parts w' p n A C P where
  cell := fun hn => by
    obtain ⟨b, o, hp, hlt, hc⟩ := h.cell hn
    exact ⟨b, o, hp, Nat.lt_of_lt_of_le hlt hb.size, fun i hi => by rw [hb.cell (p := ⟨b, o + i, none⟩) hlt]; exact hc i hi⟩
  bs := fun i hi => (h.bs i hi).below hb

end Go.Proofs.YtaemdppihpefnaaGreatDoor

/- slices.Grow, slices.Concat: of bytes. -/
namespace Go.Proofs.YtaemdppihpefnaaGreatDoor
open Go.RowKit
set_option linter.unusedVariables false

set_option maxRecDepth 100000 in
set_option maxHeartbeats 1000000 in
theorem grow (n : Nat) (h0 : 0 < n) (hn : n ≤ 10000000) (w : World) :
    Calls Tryz.prog 54 #[.slice none 0 0, .int .i64 n] w fun e w' => (∃ v, e = .returned v ∧ w'.ownsRow w.heap.size 5 1 v 0 []) ∧ Below w.heap.size w w' := by
  obtain ⟨i0, hi, hz0, hz1, hz2⟩ := info_parts (P := Tryz.prog) (e := 5) (z := .int .u8 0) (size := 1) (bytes := 1) (by kernel_rfl)
  have hr : ∀ ty, (Builtin.append_ #[22, 3] ty #[.slice none 0 0, .int .i64 n]).run Tryz.prog w = .ok (.slice (some ⟨w.heap.size, 0, none⟩) n (grownCap w n 0 5)) (w.drew.alloc (.cells (Builtin.zeroCells (Value.int .u8 0).cells n ++ Builtin.zeroCells (Value.int .u8 0).cells (grownCap w n 0 5 - n)) 5)) := fun ty =>
    Lib.run_append_nil_zeros w 22 3 ty 5 i0 (.int .u8 0) .i64 .i64 Tryz.underlying22 Tryz.underlying3 hi hz0 n h0 (by omega) (by omega) (by rw [hz2]; omega)
  have hge := grownCap_ge w n 0 5
  have hle := grownCap_le_maxLen w n 0 5 (by unfold maxLen; omega)
  have HZ := Lib.hid (show (Builtin.zeroCells (Value.int .u8 0).cells n ++ Builtin.zeroCells (Value.int .u8 0).cells (grownCap w n 0 5 - n)).size = grownCap w n 0 5 by
    simp only [Array.size_append, size_zeroCells]
    have : (Value.int .u8 0).cells.size = 1 := rfl
    rw [this]; omega)
  generalize Builtin.zeroCells (Value.int .u8 0).cells n ++ Builtin.zeroCells (Value.int .u8 0).cells (grownCap w n 0 5 - n) = Z at hr HZ
  generalize grownCap w n 0 5 = cap at hr hge hle HZ
  have HR := Lib.hid hr
  have hge := Lib.hid hge
  have hle := Lib.hid hle
  clear hr hi hz0 hz1 hz2
  have hnI : ¬ ((n : Int) < 0) := by omega
  have hnI0 : (0 : Int) < n := by omega
  have hcap0 : ¬ cap = 0 := by have := hge.out; omega
  go_enter Tryz.func54, Tryz.ntmps54
  go_wp2_with (at_builtin; refine Lib.wpList_append_run _ rfl _ _ _ _ rfl _ _ rfl rfl _ _ (HR.out _) ?_)
  go_ret
  refine ⟨⟨_, rfl, ?_⟩, ?_⟩
  · exact World.ownsRow_made w.drew Z cap (Nat.le_refl _) hle.out (by rw [HZ.out, Nat.mul_one])
  · exact (below_drewN (Below.refl w.heap.size w) 1).alloc (Nat.le_refl _) _

/-- The first k parts, one behind the other. -/
def cc (P : Nat → List Int) : Nat → List Int
  | 0 => []
  | k + 1 => cc P k ++ P k
theorem cc_len (P : Nat → List Int) (n : Nat) (hP : ∀ i, i < n → (P i).length ≤ 65536) : ∀ k, k ≤ n → (cc P k).length ≤ k * 65536
  | 0, _ => by simp [cc]
  | k + 1, h => by
    have ih := cc_len P n hP k (by omega)
    have := hP k (by omega)
    simp only [cc, List.length_append]
    omega

set_option maxRecDepth 100000 in
set_option maxHeartbeats 2000000 in
theorem concat (p : Option Addr) (n c : Nat) (A : Nat → Option Addr) (C : Nat → Nat) (P : Nat → List Int) (w : World) (h : Parts w p n A C P) (hn : n ≤ 100) (hP : ∀ i, i < n → (P i).length ≤ 65536) (hpos : 0 < (cc P n).length) :
    Calls Tryz.prog 31 #[.slice p n c] w fun e w' => (∃ v, e = .returned v ∧ Bs w' v (cc P n)) ∧ Below w.heap.size w w' := by
  have H := Lib.hid h
  have HP := Lib.hid hP
  have HL := Lib.hid (cc_len P n hP)
  clear h hP
  have hn0 : 0 < n := by
    rcases Nat.eq_zero_or_pos n with h | h
    · subst h; simp [cc] at hpos
    · exact h
  obtain ⟨b, o, rfl, hbl, hc⟩ := H.out.cell hn0
  have HC := Lib.hid hc
  have hpos := Lib.hid hpos
  clear hc
  go_enter Tryz.func31, Tryz.ntmps31
  go_wp2_with fail
  go_loopw [3, 11] (fun s i wr => ∃ k : Nat, k ≤ n ∧ s = .int .i64 ((cc P k).length : Nat) ∧ i = .int .i64 k ∧ w = wr) (fun _ i _ => n - (intOf i).toNat)
  case atStart => exact ⟨0, by omega, rfl, rfl, rfl⟩
  case round =>
    obtain ⟨k, hk, rfl, rfl, rfl⟩ := hrel
    by_cases hkn : k < n
    · have c0 := HC.out k hkn
      have hkI : (k : Int) < n := by omega
      have hL := HL.out (k + 1) (by omega)
      have e1 : ((cc P (k + 1)).length : Int) = (cc P k).length + (P k).length := by simp [cc]
      have E1 := Lib.hid e1
      have hw : IntKind.i64.wrap (((cc P k).length : Int) + (P k).length) = ((cc P k).length : Int) + (P k).length := IntWalk.i64_in _ (by omega)
      have hneg : ¬ (((cc P k).length : Int) + (P k).length < 0) := by omega
      clear hL e1
      go_wp2_with fail
      refine ⟨⟨k + 1, by omega, ?_, by go_num, trivial⟩, by simp [intOf]; omega⟩
      rw [E1.out]
    · obtain rfl : k = n := by omega
      have hL := HL.out k (Nat.le_refl _)
      have hL := Lib.hid (show (cc P k).length ≤ 10000000 by omega)
      go_wp2_with fail
      go_at_call 54
      refine (grow _ hpos.out hL.out _).mono ?_
      rintro e w1 ⟨⟨v, rfl, ov⟩, b1⟩
      have OV := Lib.hid (own_lower ov (Nat.le_refl _))
      have B1 := Lib.hid b1
      clear ov b1
      go_wp2_with fail
      go_loopw [6, 27] (fun v i wr => ∃ (m : Nat), m ≤ k ∧ i = .int .i64 m ∧ Hid (wr.ownsRow w.heap.size 5 1 v (cc P m).length (cs8 (cc P m))) ∧ Hid (Below w.heap.size w wr)) (fun _ i _ => k - (intOf i).toNat)
      case atStart => exact ⟨0, by omega, rfl, OV, B1⟩
      case round =>
        obtain ⟨m, hm, rfl, hO, hB⟩ := hrel
        obtain ⟨a, c', rfl⟩ := own_slice hO.out
        by_cases hmk : m < k
        · have hgo := run_appendG (P := Tryz.prog) 22 22 w.heap.size 5 Tryz.underlying22 (by kernel_rfl) _ _ _ hO.out _ _ ((H.out.bs m hmk).below hB.out) (by have := HL.out (m + 1) (by omega); simp [cc] at this; omega) hB.out.size
          obtain ⟨v', w', hr, ho, hg⟩ := hgo
          have HR := Lib.hid hr
          have HO := Lib.hid ho
          have HG := Lib.hid hg
          have hge := Lib.hid (own_ge hO.out)
          have c0 : wr.cell? ⟨b, o + m, none⟩ = some (.slice (A m) (P m).length (C m)) := by rw [hB.out.cell (p := ⟨b, o + m, none⟩) hbl]; exact HC.out m hmk
          have hmI : (m : Int) < k := by omega
          clear hr ho hg
          go_wp2_with (at_builtin; refine Lib.wpList_append_run _ rfl _ _ _ _ rfl _ _ rfl rfl _ _ HR.out ?_)
          refine ⟨⟨m + 1, by omega, by go_num, Lib.hid ?_, Lib.hid (hB.out.grown HG.out hB.out.size (fun x hx => hge.out x hx))⟩, by simp [intOf]; omega⟩
          have := HO.out
          simp only [cc, List.length_append]
          rw [cs8_append] at this
          exact this
        · obtain rfl : m = k := by omega
          go_wp2_with fail
          go_ret
          exact ⟨⟨_, rfl, Bs.own hO.out⟩, hB.out⟩
end Go.Proofs.YtaemdppihpefnaaGreatDoor
