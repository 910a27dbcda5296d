/- The laws FnSealUnpadded and FnSealPadded return true, of any bytes. -/
import Derived.Test.YtpfidphjdpmhoaaAwake
namespace Go.Proofs.Ytpfidphjdpmhoaa
open Go.RowKit
set_option linter.unusedVariables false

/-- What the opening of an argument tells of a slice of bytes. -/
theorem Bs.opened {w : World} {a : Option Addr} {len cap : Nat} {zs : List Int}
    (h : (a = none ∧ len = 0 ∧ cap = 0 ∧ zs = []) ∨ ∃ x, a = some x ∧ len ≤ cap ∧ cap ≤ maxLen ∧ zs.length = cap ∧ (∀ i, i < zs.length → w.cell? (x.add i) = some (.int .u8 (zs.getD i 0))) ∧ ∀ n ∈ zs, (Lit.int .u8 n).wf = true) :
    ∃ xs, xs.length = len ∧ len ≤ maxLen ∧ Bs w (.slice a len cap) xs ∧ Byt xs := by
  rcases h with ⟨rfl, rfl, rfl, rfl⟩ | ⟨x, rfl, hl, hm, hz, hc, hw⟩
  · exact ⟨[], rfl, by decide, Bs.nil w, fun x hx => by cases hx⟩
  · refine ⟨zs.take len, by simp; omega, by omega, ⟨some x, cap, by simp; omega, by simp; omega, (fun h => by cases h), fun hp => ?_⟩, fun z hz => ?_⟩
    · simp at hp
      obtain ⟨b, o, s⟩ := x
      have h0 := hc 0 (by omega)
      obtain rfl : s = none := by simpa [Addr.add] using World.cell?_spot h0
      refine ⟨b, o, rfl, fun i hi => ?_⟩
      simp at hi
      have := hc i (by omega)
      rw [Go.WideShapes.add_plain] at this
      rw [this]
      have hi2 : i < len := by omega
      simp [List.getD, hi2]
    · have := hw z (List.mem_of_mem_take hz)
      simp [Lit.wf, IntKind.min, IntKind.max, IntKind.bits, IntKind.signed] at this
      omega

set_option maxHeartbeats 1000000 in
theorem law_unpadded (a : Option Addr) (c : Nat) (xs : List Int) (w : World) (h : Bs w (.slice a xs.length c) xs) (hx : Byt xs) :
    Calls Try.prog 3 #[.slice a xs.length c] w fun e w' => e = .returned (.bool true) ∧ Below w.heap.size w w' := by
  by_cases h1 : 2147483647 < xs.length
  · have t1 : (2147483647 : Int) < xs.length := by omega
    clear h
    go_enter Try.func3, Try.ntmps3
    go_wp2
    go_ret
    exact ⟨rfl, Below.refl _ _⟩
  · have t1 : ¬ (2147483647 : Int) < xs.length := by omega
    by_cases h2 : 600 < xs.length
    · have t2 : (600 : Int) < xs.length := by omega
      clear h
      go_enter Try.func3, Try.ntmps3
      go_wp2_with (go_at_call 5; refine (awake _).mono ?_; rintro e w1 ⟨rfl, hb1⟩)
      go_ret
      exact ⟨rfl, hb1⟩
    · have t2 : ¬ (600 : Int) < xs.length := by omega
      by_cases h3 : xs.length = 0
      · have t3 : ((xs.length : Int) == 0) = true := beq_iff_eq.2 (by omega)
        clear h h3
        go_enter Try.func3, Try.ntmps3
        go_wp2_with (go_at_call 5; refine (awake _).mono ?_; rintro e w1 ⟨rfl, hb1⟩)
        go_ret
        exact ⟨rfl, hb1⟩
      · have t3 : ((xs.length : Int) == 0) = false := beq_eq_false_iff_ne.2 (by omega)
        have Hcl := Lib.hid (clone _ xs w h (by omega))
        have Hh := Lib.hid h
        have Hx := Lib.hid hx
        clear h hx
        go_enter Try.func3, Try.ntmps3
        go_wp2_with (go_at_call 7; refine Hcl.out.mono ?_; rintro e w1 ⟨v1, rfl, hown, hb1⟩)
        have Hun := Lib.hid (unpadded v1 xs w1 (Bs.own hown) Hx.out (by omega) (by omega))
        clear hown
        go_wp2_with (go_at_call 6; refine Hun.out.mono ?_; rintro e w2 ⟨rfl, hb2⟩)
        have hb3 := hb1.trans (hb2.mono hb1.size)
        have Hsp := Lib.hid (spec_unpad _ xs w2 (Hh.out.below hb3) Hx.out (by omega) (by omega))
        clear hb1 hb2
        go_wp2_with (first
          | (go_at_call 8; refine Hsp.out.mono ?_; rintro e w3 ⟨rfl, rfl⟩)
          | (go_at_call 5; refine (awake _).mono ?_; rintro e w4 ⟨rfl, hb4⟩))
        go_ret
        exact ⟨rfl, hb3.trans (hb4.mono hb3.size)⟩

theorem padR_byt {xs : List Int} (hx : Byt xs) (r : Nat) (hr : r < 256) : Byt (padR xs r) := by
  intro x hxx
  simp only [padR, List.mem_append, List.mem_replicate] at hxx
  rcases hxx with h | ⟨_, rfl⟩
  · exact hx x h
  · omega

theorem padR_last (xs : List Int) (r : Nat) (hr : 0 < r) (i : Nat) (hi : i < r) : (padR xs r).getD ((padR xs r).length - 1 - i) 0 = r := by
  simp only [padR, List.length_append, List.length_replicate, List.getD]
  rw [List.getElem?_append_right (by omega), List.getElem?_replicate, if_pos (by omega)]
  rfl

theorem padR_up (xs : List Int) (r : Nat) (hr : 0 < r) : upOk (padR xs r) = true ∧ upN (padR xs r) = r := by
  have h0 := padR_last xs r hr 0 hr
  rw [Nat.sub_zero] at h0
  have h1 : upOk (padR xs r) = true := upOk_yes (by rw [h0]; simp [padR]; omega) (fun i hi => by rw [h0] at hi ⊢; exact padR_last xs r hr i (by omega))
  exact ⟨h1, by unfold upN; rw [if_pos h1, h0]⟩

set_option maxHeartbeats 2000000 in
set_option maxRecDepth 100000 in
theorem law_padded (a : Option Addr) (c : Nat) (xs : List Int) (n : Nat) (w : World) (h : Bs w (.slice a xs.length c) xs) (hx : Byt xs) (hn : n < 256) :
    Calls Try.prog 4 #[.slice a xs.length c, .int .u8 n] w fun e w' => e = .returned (.bool true) ∧ Below w.heap.size w w' := by
  by_cases h1 : 2147483647 < xs.length
  · have t1 : (2147483647 : Int) < xs.length := by omega
    clear h
    go_enter Try.func4, Try.ntmps4
    go_wp2
    go_ret
    exact ⟨rfl, Below.refl _ _⟩
  · have t1 : ¬ (2147483647 : Int) < xs.length := by omega
    by_cases h2 : 600 < xs.length
    · have t2 : (600 : Int) < xs.length := by omega
      clear h
      go_enter Try.func4, Try.ntmps4
      go_wp2_with (go_at_call 5; refine (awake _).mono ?_; rintro e w1 ⟨rfl, hb1⟩)
      go_ret
      exact ⟨rfl, hb1⟩
    · have t2 : ¬ (600 : Int) < xs.length := by omega
      by_cases h3 : n = 0
      · have t3 : ((n : Int) == 0) = true := beq_iff_eq.2 (by omega)
        clear h h3
        go_enter Try.func4, Try.ntmps4
        go_wp2_with (go_at_call 5; refine (awake _).mono ?_; rintro e w1 ⟨rfl, hb1⟩)
        go_ret
        exact ⟨rfl, hb1⟩
      · have t3 : ((n : Int) == 0) = false := beq_eq_false_iff_ne.2 (by omega)
        have hmod := Nat.mod_lt xs.length (show 0 < n by omega)
        obtain ⟨r, hr⟩ : ∃ r, n - xs.length % n = r := ⟨_, rfl⟩
        have hr1 : 1 ≤ r := by omega
        have hr2 : r ≤ 255 := by omega
        have hrn : r ≤ n := by omega
        obtain ⟨q, hq⟩ : ∃ q, xs.length + r = n * q := ⟨xs.length / n + 1, by
          have := Nat.div_add_mod xs.length n
          rw [Nat.mul_add, Nat.mul_one]; omega⟩
        have Hq := Lib.hid hq
        have Hr := Lib.hid hr
        have hlen : (padR xs r).length = xs.length + r := by simp [padR]
        have hup := padR_up xs r (by omega)
        have hby := padR_byt hx r (by omega)
        have Hcl := Lib.hid (clone _ xs w h (by omega))
        have Hh := Lib.hid h
        have Hx := Lib.hid hx
        have Hup := Lib.hid hup
        have Hby := Lib.hid hby
        have Hlen := Lib.hid hlen
        clear h hx hr hq hmod hup hby hlen
        go_enter Try.func4, Try.ntmps4
        go_wp2_with (go_at_call 7; refine Hcl.out.mono ?_; rintro e w1 ⟨v1, rfl, hown, hb1⟩)
        have Hpd := Lib.hid (padded v1 xs n w1 (Bs.own hown) (by omega) (by omega) (by omega))
        rw [Hr.out] at Hpd
        clear hown
        go_wp2_with (go_at_call 9; refine Hpd.out.mono ?_; rintro e w2 ⟨v2, rfl, hbs2, hb2⟩)
        have hb3 := hb1.trans (hb2.mono hb1.size)
        have Hcl2 := Lib.hid (clone v2 _ w2 hbs2 (by rw [Hlen.out]; omega))
        have Hbs2 := Lib.hid hbs2
        obtain ⟨p2, c2, hv2, hc2⟩ := hbs2
        rw [Hlen.out] at hv2
        subst hv2
        have t4 : (((xs.length : Int) + r) % n == 0) = true := by
          have e : ((xs.length : Int) + r) = n * q := by have := Hq.out; omega
          rw [e]; simp
        have t5 : (xs.length : Int) + r - xs.length = r := by omega
        clear hb1 hb2 hc2
        go_wp2_with (go_at_call 7; refine Hcl2.out.mono ?_; rintro e w3 ⟨v3, rfl, hown3, hb4⟩)
        have Hun := Lib.hid (unpadded v3 _ w3 (Bs.own hown3) Hby.out (by rw [Hlen.out]; omega) (by rw [Hlen.out]; omega))
        rw [Hup.out.1, Hup.out.2] at Hun
        clear hown3
        go_wp2_with (go_at_call 6; refine Hun.out.mono ?_; rintro e w4 ⟨rfl, hb5⟩)
        have hb6 := hb4.trans (hb5.mono hb4.size)
        have hb7 := hb3.trans (hb6.mono hb3.size)
        have Hsp := Lib.hid (spec_pad _ xs n w4 (Hh.out.below hb7) (by omega) (by omega) (by omega))
        rw [Hr.out] at Hsp
        go_wp2_with (go_at_call 11; refine Hsp.out.mono ?_; rintro e w5 ⟨v5, rfl, hbs5, hb8⟩)
        have hb9 := hb7.trans (hb8.mono hb7.size)
        have Heq := Lib.hid (equal _ v5 _ _ w5 ((Hbs2.out.below hb6).below hb8) hbs5 Hby.out Hby.out)
        clear hbs5 hb4 hb5 hb6 hb7 hb8 hb3
        go_wp2_with (first
          | (go_at_call 10; refine Heq.out.mono ?_; rintro e w6 ⟨rfl, rfl⟩; simp only [decide_true])
          | (go_at_call 5; refine (awake _).mono ?_; rintro e w7 ⟨rfl, hb10⟩))
        go_ret
        exact ⟨rfl, hb9.trans (hb10.mono hb9.size)⟩
end Go.Proofs.Ytpfidphjdpmhoaa
