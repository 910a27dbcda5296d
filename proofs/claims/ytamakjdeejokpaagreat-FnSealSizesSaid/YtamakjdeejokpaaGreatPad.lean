/- The making of a padding, by the code and by the reference. -/
import Derived.Test.YtamakjdeejokpaaGreatBytes
namespace Go.Proofs.YtamakjdeejokpaaGreat
open Go.RowKit

/-- Some bytes with a padding of r bytes. -/
def padR (xs : List Int) (r : Nat) : List Int := xs ++ List.replicate r (r : Int)

/-- What the row holds when k bytes of the padding are laid. -/
def padC (xs : List Int) (r k : Nat) : List Value := cs8 xs ++ List.replicate k (.int .u8 (r : Int)) ++ List.replicate (r - k) (.int .u8 0)

theorem padC_start (xs : List Int) (r : Nat) : splice (List.replicate (xs.length + r) (Value.int .u8 0)) 0 (cs8 xs) = padC xs r 0 := by
  simp [splice, padC, length_cs8]

theorem padC_set (xs : List Int) (r k : Nat) (hk : k < r) : (padC xs r k).set (xs.length + k) (.int .u8 (r : Int)) = padC xs r (k + 1) := by
  obtain ⟨d, rfl⟩ : ∃ d, r = k + 1 + d := ⟨r - (k + 1), by omega⟩
  have e1 : k + 1 + d - k = d + 1 := by omega
  have e2 : k + 1 + d - (k + 1) = d := by omega
  unfold padC
  rw [e1, e2, List.append_assoc, List.append_assoc, List.set_append_right _ _ (by simp [length_cs8]), List.set_append_right _ _ (by simp [length_cs8]), List.replicate_succ' (n := k)]
  simp [length_cs8, List.replicate_succ]

theorem padC_len (xs : List Int) (r k : Nat) (hk : k ≤ r) : (padC xs r k).length = xs.length + r := by
  simp [padC, length_cs8]; omega

theorem padC_get (xs : List Int) (r k : Nat) (hk : k < r) : (padC xs r k)[xs.length + k]? = some (.int .u8 0) := by
  unfold padC
  rw [List.getElem?_append_right (by simp [length_cs8])]
  simp only [length_cs8, List.length_append, List.length_replicate, Nat.sub_self, List.getElem?_replicate]
  rw [if_pos (by omega)]

theorem padC_end (xs : List Int) (r : Nat) : padC xs r r = cs8 (padR xs r) := by
  simp [padC, padR, cs8]

set_option maxHeartbeats 1000000 in
theorem pad (v : Value) (xs : List Int) (n : Nat) (w : World) (h : Bs w v xs) (h1 : 1 ≤ n) (h2 : n ≤ 255) (hl : xs.length ≤ 1000000) :
   Calls Tryz.prog 23 #[v, .int .i64 n] w fun e w' => ∃ v', e = .returned v' ∧ Bs w' v' (padR xs (n - xs.length % n)) ∧ Below w.heap.size w w' := by
  obtain ⟨p, c, rfl, hc, hn, hx⟩ := id h
  have hmod := Nat.mod_lt xs.length (show 0 < n by omega)
  obtain ⟨r, hr⟩ : ∃ r, n - xs.length % n = r := ⟨_, rfl⟩
  have hr1 : 1 ≤ r := by omega
  have hr2 : r ≤ 255 := by omega
  have her : (n : Int) - (xs.length : Int) % (n : Int) = (r : Int) := by omega
  rw [hr]
  clear hr hmod hn
  have hne : ((r : Int) == 0) = false := beq_eq_false_iff_ne.2 (by omega)
  have Hx := Lib.hid hx
  have Hh := Lib.hid h
  clear hx h
  go_enter Tryz.func23, Tryz.ntmps23
  go_wp2_with (refine wpl_make rfl _ _ 22 rfl 5 (.int .u8 0) 1 Tryz.underlying22 (by kernel_rfl) rfl _ _ _ (xs.length + r) rfl rfl ?c1 ?c2 ?c3 ?_)
  case c1 => omega
  case c2 => omega
  case c3 => unfold maxLen; omega
  intro g w1 hg hrow hsz hb1
  have Hg := Lib.hid hg
  have Hsz := Lib.hid hsz
  have Hrow := Lib.hid hrow
  clear hg hsz hrow
  have d1 : Hid ((cs8 xs).length = Nat.min xs.length (xs.length + r)) := by
    show _ = _
    rw [length_cs8]; exact (Nat.min_eq_left (by omega)).symm
  have d2 : Hid (0 < (cs8 xs).length → some (⟨g, 0, none⟩ : Addr) = some ⟨g, 0, none⟩ ∧ ∃ ad, p = some ad ∧ ∀ (j : Nat) v, (cs8 xs)[j]? = some v → w1.cell? (ad.add j) = some v) := by
    intro hpos
    rw [length_cs8] at hpos
    obtain ⟨b, o, rfl, hcell⟩ := Hx.out hpos
    exact ⟨rfl, ⟨b, o, none⟩, rfl, (Hh.out.below hb1).cells.2⟩
  have d3 : Hid (0 + (cs8 xs).length ≤ (List.replicate (xs.length + r) (Value.int .u8 0)).length) := by
    show _ ≤ _
    simp [length_cs8]
  go_wp2_with (refine wpl_copy rfl _ _ 22 22 rfl 5 Tryz.underlying22 (by kernel_rfl) _ _ _ _ _ _ rfl rfl g 0 _ 5 Hrow.out (cs8 xs) d1.out d2.out d3.out (one_cs8 xs) ?_)
  intro w2 hrow2 honly
  rw [padC_start] at hrow2
  have hb2 := hb1.trans (honly.below (Nat.le_of_eq Hg.out.symm))
  have hgw : w.heap.size ≤ g := Nat.le_of_eq Hg.out.symm
  have Hrow2 := Lib.hid hrow2
  clear Hrow honly hb1 d1 d2 d3 hrow2
  go_wp2_with fail
  go_loopw [9] (fun t wr => ∃ k : Nat, k ≤ r ∧ t = .int .i64 ((xs.length : Int) + k) ∧ Hid (Row wr g 5 (padC xs r k)) ∧ Below w.heap.size w wr) (fun t _ => (xs.length + r) - (intOf t).toNat)
  case atStart => exact ⟨0, by omega, by simp, Hrow2, hb2⟩
  case round =>
    obtain ⟨k, hk, rfl, hrow, hbr⟩ := hrel
    by_cases hlt : k < r
    · have hcl : wr.cell? ⟨g, xs.length + k, none⟩ = some (.int .u8 0) := by
        rw [hrow.out.cell, padC_get xs r k hlt]
      have hfr := hrow.out.unfrozen (xs.length + k)
      have Hbr := Lib.hid hbr
      clear hbr
      go_wp2
      go_roundw
      case rel => exact ⟨k + 1, by omega, by go_num, by have := hrow.out.set (xs.length + k) (.int .u8 (r : Int)); rw [padC_set xs r k hlt] at this; exact this, Hbr.out.setCell hgw _⟩
      case measure => simp [intOf]; omega
    · obtain rfl : k = r := by omega
      have hres := Bs.row hrow.out 0 (xs.length + k) (padR xs k) (by simp [padR]) (fun i hi => by rw [Nat.zero_add, padC_end, get_cs8 _ i hi])
      rw [show (padR xs k).length = xs.length + k by simp [padR]] at hres
      have Hres := Lib.hid hres
      have Hbr := Lib.hid hbr
      clear hres hbr
      go_wp2
      go_ret
      exact ⟨_, rfl, Hres.out, Hbr.out⟩
end Go.Proofs.YtamakjdeejokpaaGreat
