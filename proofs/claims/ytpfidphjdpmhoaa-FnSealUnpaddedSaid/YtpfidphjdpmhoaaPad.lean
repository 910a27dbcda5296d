/- The making of a padding, by the code and by the reference. -/
import Derived.Test.YtpfidphjdpmhoaaBytes
namespace Go.Proofs.Ytpfidphjdpmhoaa
open Go.RowKit

/-- Some bytes with a padding of r bytes. -/
def padR (xs : List Int) (r : Nat) : List Int := xs ++ List.replicate r (r : Int)

/-- What the row holds when k bytes of the padding are laid. -/
def padC (xs : List Int) (r k : Nat) : List Value := cs8 xs ++ List.replicate k (.int .u8 (r : Int)) ++ List.replicate (r - k) (.int .u8 0)

theorem padC_start (xs : List Int) (r : Nat) : splice (List.replicate (xs.length + r) (Value.int .u8 0)) 0 (cs8 xs) = padC xs r 0 := by
  simp [splice, padC, length_cs8]

theorem padC_set (xs : List Int) (r k : Nat) (hk : k < r) : (padC xs r k).set (xs.length + k) (.int .u8 (r : Int)) = padC xs r (k + 1) := by
  obtain ⟨d, rfl⟩ : ∃ d, r = k + 1 + d := ⟨r - (k + 1), by omega⟩
  have e1 : k + 1 + d - k = d + 1 := by omega
  have e2 : k + 1 + d - (k + 1) = d := by omega
  unfold padC
  rw [e1, e2, List.append_assoc, List.append_assoc, List.set_append_right _ _ (by simp [length_cs8]), List.set_append_right _ _ (by simp [length_cs8]), List.replicate_succ' (n := k)]
  simp [length_cs8, List.replicate_succ]

theorem padC_len (xs : List Int) (r k : Nat) (hk : k ≤ r) : (padC xs r k).length = xs.length + r := by
  simp [padC, length_cs8]; omega

theorem padC_get (xs : List Int) (r k : Nat) (hk : k < r) : (padC xs r k)[xs.length + k]? = some (.int .u8 0) := by
  unfold padC
  rw [List.getElem?_append_right (by simp [length_cs8])]
  simp only [length_cs8, List.length_append, List.length_replicate, Nat.sub_self, List.getElem?_replicate]
  rw [if_pos (by omega)]

theorem padC_end (xs : List Int) (r : Nat) : padC xs r r = cs8 (padR xs r) := by
  simp [padC, padR, cs8]

set_option maxHeartbeats 1000000 in
theorem pad (v : Value) (xs : List Int) (n : Nat) (w : World) (h : Bs w v xs) (h1 : 1 ≤ n) (h2 : n ≤ 255) (hl : xs.length ≤ 1000000) :
   Calls Try.prog 20 #[v, .int .i64 n] w fun e w' => ∃ v', e = .returned v' ∧ Bs w' v' (padR xs (n - xs.length % n)) ∧ Below w.heap.size w w' := by
  obtain ⟨p, c, rfl, hc, hn, hx⟩ := id h
  have hmod := Nat.mod_lt xs.length (show 0 < n by omega)
  obtain ⟨r, hr⟩ : ∃ r, n - xs.length % n = r := ⟨_, rfl⟩
  have hr1 : 1 ≤ r := by omega
  have hr2 : r ≤ 255 := by omega
  have her : (n : Int) - (xs.length : Int) % (n : Int) = (r : Int) := by omega
  rw [hr]
  clear hr hmod hn
  have hne : ((r : Int) == 0) = false := beq_eq_false_iff_ne.2 (by omega)
  have Hx := Lib.hid hx
  have Hh := Lib.hid h
  clear hx h
  go_enter Try.func20, Try.ntmps20
  go_wp2_with (refine wpl_make rfl _ _ 22 rfl 5 (.int .u8 0) 1 Try.underlying22 (by kernel_rfl) rfl _ _ _ (xs.length + r) rfl rfl ?c1 ?c2 ?c3 ?_)
  case c1 => omega
  case c2 => omega
  case c3 => unfold maxLen; omega
  intro g w1 hg hrow hsz hb1
  have Hg := Lib.hid hg
  have Hsz := Lib.hid hsz
  have Hrow := Lib.hid hrow
  clear hg hsz hrow
  have d1 : Hid ((cs8 xs).length = Nat.min xs.length (xs.length + r)) := by
    show _ = _
    rw [length_cs8]; exact (Nat.min_eq_left (by omega)).symm
  have d2 : Hid (0 < (cs8 xs).length → some (⟨g, 0, none⟩ : Addr) = some ⟨g, 0, none⟩ ∧ ∃ ad, p = some ad ∧ ∀ (j : Nat) v, (cs8 xs)[j]? = some v → w1.cell? (ad.add j) = some v) := by
    intro hpos
    rw [length_cs8] at hpos
    obtain ⟨b, o, rfl, hcell⟩ := Hx.out hpos
    exact ⟨rfl, ⟨b, o, none⟩, rfl, (Hh.out.below hb1).cells.2⟩
  have d3 : Hid (0 + (cs8 xs).length ≤ (List.replicate (xs.length + r) (Value.int .u8 0)).length) := by
    show _ ≤ _
    simp [length_cs8]
  go_wp2_with (refine wpl_copy rfl _ _ 22 22 rfl 5 Try.underlying22 (by kernel_rfl) _ _ _ _ _ _ rfl rfl g 0 _ 5 Hrow.out (cs8 xs) d1.out d2.out d3.out (one_cs8 xs) ?_)
  intro w2 hrow2 honly
  rw [padC_start] at hrow2
  have hb2 := hb1.trans (honly.below (Nat.le_of_eq Hg.out.symm))
  have hgw : w.heap.size ≤ g := Nat.le_of_eq Hg.out.symm
  have Hrow2 := Lib.hid hrow2
  clear Hrow honly hb1 d1 d2 d3 hrow2
  go_wp2_with fail
  go_loopw [9] (fun t wr => ∃ k : Nat, k ≤ r ∧ t = .int .i64 ((xs.length : Int) + k) ∧ Hid (Row wr g 5 (padC xs r k)) ∧ Below w.heap.size w wr) (fun t _ => (xs.length + r) - (intOf t).toNat)
  case atStart => exact ⟨0, by omega, by simp, Hrow2, hb2⟩
  case round =>
    obtain ⟨k, hk, rfl, hrow, hbr⟩ := hrel
    by_cases hlt : k < r
    · have hcl : wr.cell? ⟨g, xs.length + k, none⟩ = some (.int .u8 0) := by
        rw [hrow.out.cell, padC_get xs r k hlt]
      have hfr := hrow.out.unfrozen (xs.length + k)
      have Hbr := Lib.hid hbr
      clear hbr
      go_wp2
      go_roundw
      case rel => exact ⟨k + 1, by omega, by go_num, by have := hrow.out.set (xs.length + k) (.int .u8 (r : Int)); rw [padC_set xs r k hlt] at this; exact this, Hbr.out.setCell hgw _⟩
      case measure => simp [intOf]; omega
    · obtain rfl : k = r := by omega
      have hres := Bs.row hrow.out 0 (xs.length + k) (padR xs k) (by simp [padR]) (fun i hi => by rw [Nat.zero_add, padC_end, get_cs8 _ i hi])
      rw [show (padR xs k).length = xs.length + k by simp [padR]] at hres
      have Hres := Lib.hid hres
      have Hbr := Lib.hid hbr
      clear hres hbr
      go_wp2
      go_ret
      exact ⟨_, rfl, Hres.out, Hbr.out⟩
set_option maxHeartbeats 400000 in
/-- slices.Clone[[]byte,byte]: a slice of the same bytes in new memory (nil of nil). -/
theorem sclone (v : Value) (xs : List Int) (w : World) (h : Bs w v xs) (hbig : xs.length ≤ 140737488355328) :
   Calls Try.prog 15 #[v] w fun e w' => ∃ v', e = .returned v' ∧ w'.ownsRow w.heap.size 5 1 v' xs.length (cs8 xs) ∧ Below w.heap.size w w' := by
  obtain ⟨p, c, rfl, hc, hn, hx⟩ := id h
  have q22 := fun (w : World) (a : Option Addr) (n c n' c' : Nat) => Lib.run_eql_slice_nil (P := Try.prog) w 22 5 a n c n' c' Try.underlying22
  cases p with
  | none =>
    have hz : xs = [] := List.eq_nil_of_length_eq_zero (by have := hn rfl; omega)
    subst hz
    clear hx hc hn h
    go_enter Try.func15, Try.ntmps15
    go_wp2
    go_ret
    exact ⟨_, rfl, World.ownsRow_nil _ _ _ _, Below.refl _ _⟩
  | some a =>
    have Hn := (h.below ((Below.refl w.heap.size w).alloc (Nat.le_refl _) (.cells #[] 5))).cells.2
    clear hx hn h
    go_enter Try.func15, Try.ntmps15
    obtain ⟨i0, hi, hz0, hz1, hz2⟩ := info_parts (P := Try.prog) (e := 5) (z := .int .u8 0) (size := 1) (bytes := 1) (by kernel_rfl)
    go_wp2_with (at_builtin; refine wpList_append_own _ rfl _ _ 22 rfl w.heap.size 5 i0 (.int .u8 0) 1 1 Try.underlying22 hi hz0 hz1 hz2 rfl (by decide) _ _ _ rfl (World.ownsRow_made w #[] 0 (Nat.le_refl _) (by decide) rfl) a xs.length c (cs8 xs) rfl (by simp [cs8]) ?c1 ?c2 ?c3 ?c4 ?c5 ?_)
    case c1 => exact Hn
    case c2 => exact one_cs8 xs
    case c3 => unfold maxLen; omega
    case c4 => omega
    case c5 => simp
    intro v' w1 hown hgrow _
    go_wp2
    go_ret
    refine ⟨_, rfl, ?_, ((Below.refl _ _).alloc (Nat.le_refl _) _).grown hgrow (by simp) (by intro k hk; simp [Value.ownBlock] at hk; omega)⟩
    first | exact hown | (rw [Nat.zero_add, List.nil_append] at hown; exact hown)


set_option maxHeartbeats 1000000 in
theorem spec_pad (v : Value) (xs : List Int) (n : Nat) (w : World) (h : Bs w v xs) (h1 : 1 ≤ n) (h2 : n ≤ 255) (hl : xs.length ≤ 1000000) :
   Calls Try.prog 11 #[v, .int .i64 n] w fun e w' => ∃ v', e = .returned v' ∧ Bs w' v' (padR xs (n - xs.length % n)) ∧ Below w.heap.size w w' := by
  have hcl := sclone v xs w h (by omega)
  obtain ⟨p, c, rfl, hc, hn, hx⟩ := id h
  have hmod := Nat.mod_lt xs.length (show 0 < n by omega)
  obtain ⟨r, hr⟩ : ∃ r, n - xs.length % n = r := ⟨_, rfl⟩
  have hr1 : 1 ≤ r := by omega
  have hr2 : r ≤ 255 := by omega
  have her : (n : Int) - (xs.length : Int) % (n : Int) = (r : Int) := by omega
  rw [hr]
  have Hcl := Lib.hid hcl
  clear hr hmod hn hx h hcl
  go_enter Try.func11, Try.ntmps11
  go_wp2_with (go_at_call 15; refine Hcl.out.mono ?_; rintro e w1 ⟨v1, rfl, hown, hb1⟩)
  have Hown := Lib.hid hown
  obtain ⟨i0, hi, hz0, hz1, hz2⟩ := info_parts (P := Try.prog) (e := 5) (z := .int .u8 0) (size := 1) (bytes := 1) (by kernel_rfl)
  go_loopw [6, 16] (fun v i wr => ∃ k : Nat, k ≤ r ∧ i = .int .i64 k ∧ Hid (wr.ownsRow w.heap.size 5 1 v (xs.length + k) (cs8 xs ++ List.replicate k (.int .u8 (r : Int)))) ∧ Below w.heap.size w wr) (fun _ i _ => r - (intOf i).toNat)
  case atStart => exact ⟨0, by omega, rfl, by simpa using Hown, hb1⟩
  case round =>
    obtain ⟨k, hk, rfl, hown, hbr⟩ := hrel
    have hszw := hbr.size
    have Hbr := Lib.hid hbr
    clear hbr
    by_cases hlt : k < r
    · go_wp2_with (at_builtin; refine wpList_append_own _ rfl _ _ 22 rfl w.heap.size 5 i0 (.int .u8 0) 1 1 Try.underlying22 hi hz0 hz1 hz2 rfl (by decide) _ _ _ rfl (hown.out.alloc _) ⟨wr.heap.size, 0, none⟩ 1 1 [.int .u8 (r : Int)] rfl rfl (cell_one_new _ _ _) ?c2 ?c3 ?c4 ?c5 ?_)
      case c2 => intro u hu; simp at hu; subst hu; rfl
      case c3 => unfold maxLen; omega
      case c4 => omega
      case c5 => simp; omega
      intro v2 w2 hown2 hgrow2 _
      have Hown2 : Hid (w2.ownsRow w.heap.size 5 1 v2 (xs.length + (k + 1)) (cs8 xs ++ List.replicate (k + 1) (.int .u8 (r : Int)))) := by
        show World.ownsRow _ _ _ _ _ _ _
        rw [List.replicate_succ', ← Nat.add_assoc]
        simpa using hown2
      have hb2 := (Hbr.out.alloc hszw _).grown hgrow2 (by simp; omega) (fun q hq => (hown.out.lt q hq).1)
      clear hown2 hgrow2
      go_wp2
      go_roundw
      case rel => exact ⟨k + 1, by omega, by go_num, Hown2, hb2⟩
      case measure => simp [intOf]; omega
    · obtain rfl : k = r := by omega
      have Hres := Lib.hid (Bs.own (xs := padR xs k) (by rw [← padC_end]; simpa [padC] using hown.out))
      clear hown
      go_wp2
      go_ret
      exact ⟨_, rfl, Hres.out, Hbr.out⟩
end Go.Proofs.Ytpfidphjdpmhoaa
