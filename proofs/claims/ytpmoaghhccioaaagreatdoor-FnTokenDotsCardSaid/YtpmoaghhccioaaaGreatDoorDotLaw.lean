/- Texts of parts with dots between them, and how they are cut. No program is in sight. -/
import Derived.Test.YtpmoaghhccioaaaGreatDoorBase
namespace Go.Proofs.YtpmoaghhccioaaaGreatDoor
set_option linter.unusedVariables false

/-- Cut at the first dot: what stands ahead of it, what stands behind it, whether there is one. -/
def cutB : List Int → List Int × List Int × Bool
  | [] => ([], [], false)
  | x :: xs => if x = 46 then ([], xs, true) else (x :: (cutB xs).1, (cutB xs).2.1, (cutB xs).2.2)

theorem cutB_no : ∀ (q : List Int), (∀ x ∈ q, x ≠ 46) → cutB q = (q, [], false)
  | [], _ => rfl
  | x :: q, h => by
    have ih := cutB_no q (fun y hy => h y (List.mem_cons_of_mem _ hy))
    have hx : x ≠ 46 := h x (by simp)
    simp [cutB, hx, ih]
theorem cutB_dot : ∀ (q r : List Int), (∀ x ∈ q, x ≠ 46) → cutB (q ++ 46 :: r) = (q, r, true)
  | [], _, _ => by simp [cutB]
  | x :: q, r, h => by
    have ih := cutB_dot q r (fun y hy => h y (List.mem_cons_of_mem _ hy))
    have hx : x ≠ 46 := h x (by simp)
    simp [cutB, hx, ih]
theorem cutB_at (xs : List Int) (k : Nat) (hk : k < xs.length) (h : ∀ i, i < k → xs.getD i 0 ≠ 46) (h46 : xs.getD k 0 = 46) : cutB xs = (xs.take k, xs.drop (k + 1), true) := by
  have e : xs = xs.take k ++ 46 :: xs.drop (k + 1) := by
    have h1 : xs[k] = 46 := by simpa [List.getD, hk] using h46
    rw [← h1, List.getElem_cons_drop, List.take_append_drop]
  have hq : ∀ x ∈ xs.take k, x ≠ 46 := by
    intro x hx
    obtain ⟨i, hi, rfl⟩ := List.mem_iff_getElem.1 hx
    have hik : i < k := by simp at hi; omega
    have := h i hik
    rw [List.getElem_take]
    simpa [List.getD, Nat.lt_trans hik hk] using this
  have := cutB_dot (xs.take k) (xs.drop (k + 1)) hq
  rw [← e] at this
  exact this
theorem cutB_none (xs : List Int) (h : ∀ i, i < xs.length → xs.getD i 0 ≠ 46) : cutB xs = (xs, [], false) := by
  refine cutB_no xs fun x hx => ?_
  obtain ⟨i, hi, rfl⟩ := List.mem_iff_getElem.1 hx
  have := h i hi
  simpa [List.getD, hi] using this

/-- The first k parts, dots between them. -/
def tx (P : Nat → List Int) : Nat → List Int
  | 0 => []
  | k + 1 => tx P k ++ ((if 0 < k then [46] else []) ++ P k)

/-- What SplitCompact finds. -/
def sp1 (xs : List Int) : List Int := (cutB xs).1
def sp2 (xs : List Int) : List Int := (cutB (cutB xs).2.1).1
def sp3 (xs : List Int) : List Int := (cutB (cutB (cutB xs).2.1).2.1).1
def spOk (xs : List Int) : Bool := (cutB xs).2.2 && (cutB (cutB xs).2.1).2.2 && !(cutB (cutB (cutB xs).2.1).2.1).2.2

theorem tx_four (P : Nat → List Int) : ∀ n, ∃ r, tx P (n + 4) = P 0 ++ 46 :: (P 1 ++ 46 :: (P 2 ++ 46 :: r))
  | 0 => ⟨P 3, by simp [tx]⟩
  | n + 1 => by
    obtain ⟨r, hr⟩ := tx_four P n
    refine ⟨r ++ 46 :: P (n + 4), ?_⟩
    show tx P (n + 4) ++ ((if 0 < n + 4 then [46] else []) ++ P (n + 4)) = _
    rw [hr]
    simp

theorem split_text (P : Nat → List Int) (n : Nat) (hn : 0 < n) (hP : ∀ k, ∀ x ∈ P k, x ≠ 46) :
    spOk (tx P n) = decide (n = 3) ∧ (n = 3 → sp1 (tx P n) ++ ([46] ++ (sp2 (tx P n) ++ ([46] ++ sp3 (tx P n)))) = tx P n) := by
  have h0 := hP 0
  have h1 := hP 1
  have h2 := hP 2
  match n, hn with
  | 1, _ =>
    have e : tx P 1 = P 0 := by simp [tx]
    rw [e]
    simp [spOk, cutB_no _ h0]
  | 2, _ =>
    have e : tx P 2 = P 0 ++ 46 :: P 1 := by simp [tx]
    rw [e]
    simp [spOk, cutB_dot _ _ h0, cutB_no _ h1]
  | 3, _ =>
    have e : tx P 3 = P 0 ++ 46 :: (P 1 ++ 46 :: P 2) := by simp [tx]
    rw [e]
    simp [spOk, sp1, sp2, sp3, cutB_dot _ _ h0, cutB_dot _ _ h1, cutB_no _ h2]
  | n + 4, _ =>
    obtain ⟨r, hr⟩ := tx_four P n
    rw [hr]
    have h3 : ¬ (n + 4 = 3) := by omega
    simp [spOk, cutB_dot _ _ h0, cutB_dot _ _ h1, cutB_dot _ _ h2]

/-- The letters. -/
def abc : List Int := [65, 66, 67, 68, 69, 70, 71, 72, 97, 98, 99, 100, 101, 102, 103, 104, 48, 49, 50, 51, 52, 53, 54, 55, 45, 95]
def ab (x : Int) : Int := abc.getD (x.toNat % 26) 0
theorem ab_ne (x : Int) : ab x ≠ 46 := by
  have h : (abc.all fun y => decide (y ≠ 46)) = true := by decide
  have hl : x.toNat % 26 < abc.length := Nat.mod_lt _ (by decide)
  have e : ab x = abc[x.toNat % 26] := by simp [ab, List.getD, hl]
  have := List.all_eq_true.1 h _ (List.getElem_mem hl)
  rw [e]; simpa using this
theorem ab_byt (x : Int) : 0 ≤ ab x ∧ ab x < 256 := by
  have h : (abc.all fun y => decide (0 ≤ y ∧ y < 256)) = true := by decide
  have hl : x.toNat % 26 < abc.length := Nat.mod_lt _ (by decide)
  have e : ab x = abc[x.toNat % 26] := by simp [ab, List.getD, hl]
  have := List.all_eq_true.1 h _ (List.getElem_mem hl)
  rw [e]; simpa using this
theorem tx_byt (P : Nat → List Int) (hP : ∀ k, ∀ x ∈ P k, 0 ≤ x ∧ x < 256) : ∀ n, Byt (tx P n)
  | 0 => fun x hx => by cases hx
  | n + 1 => fun x hx => by
    rcases List.mem_append.1 hx with h | h
    · exact tx_byt P hP n x h
    · rcases List.mem_append.1 h with h | h
      · split at h
        · simp at h; subst h; omega
        · cases h
      · exact hP n x h
theorem tx_len (P : Nat → List Int) (m : Nat) (hP : ∀ k, (P k).length ≤ m) : ∀ n, (tx P n).length ≤ n * (m + 1)
  | 0 => by simp [tx]
  | n + 1 => by
    have ih := tx_len P m hP n
    have h := hP n
    simp only [tx, List.length_append]
    rw [Nat.add_mul]
    split <;> simp <;> omega
end Go.Proofs.YtpmoaghhccioaaaGreatDoor
