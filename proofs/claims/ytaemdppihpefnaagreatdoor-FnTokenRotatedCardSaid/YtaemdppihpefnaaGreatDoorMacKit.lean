/- hmac's Write and Sum, over a hash of whatever kind. -/
import Derived.Test.YtaemdppihpefnaaGreatDoorHmac
import Derived.Laws.OwnMore
namespace Go.Proofs.YtaemdppihpefnaaGreatDoor
open Go.RowKit
set_option linter.unusedVariables false

/-- 'x[:h]' at a slice whose address is known. -/
theorem run_sl_to {P : Program} (t e : TypeId) (ht : P.underlying t = some (.slice e)) (hs : (P.info? e).map (·.size) = some 1)
    (g o n c l : Nat) (k : IntKind) (L : Int) (hL : L = (l : Int)) (hl : l ≤ c) (hc : 0 < c) (w : World) :
    (Instr.sliceAt t (.slice (some ⟨g, o, none⟩) n c) none (some (.int k L)) none).run P w = .ok (.slice (some ⟨g, o, none⟩) l c) w := by
  subst hL
  obtain ⟨i, hi, hsz⟩ := Option.map_eq_some_iff.1 hs
  simp [Instr.sliceAt, Instr.slice, Instr.sliceBounds, Instr.sliceBound, asIntOf, run_underlying ht, sizeOf, typeInfo, hi, Addr.add]
  intro hh; exact absurd hh (by omega)
theorem own_none {w : World} {base : Nat} {e : TypeId} {g n cap : Nat} {xs : List Value} (h : w.ownsRow base e 1 (.slice (some ⟨g, 0, none⟩) n cap) n xs) : w.ownsRow base e 1 (.slice (some ⟨g, 0, none⟩) 0 cap) 0 [] := by
  obtain ⟨_, h2⟩ := h
  rcases h2 with ⟨h0, _⟩ | ⟨g', cap', cur, hv, hg, hh, hn, hcap, hsz, htake⟩
  · cases h0
  · cases hv
    exact ⟨by simp, .inr ⟨g, cap, cur, rfl, hg, hh, by omega, hcap, hsz, by simp⟩⟩

set_option maxRecDepth 100000 in
set_option maxHeartbeats 4000000 in
theorem hmacWrite (H : HK) (B : Nat) (so si : H.St) (op : List Int) (v : Value) (p : List Int) (w : World) (hm : Hmd H B so si op w) (hkt : Row w H.kg H.kT H.kC) (hkg : H.kg < B) (hp : Bs w v p) (hoff : Off (B + 3) v) (hb : p.length ≤ 65536) (hn : H.n si + p.length ≤ 1099511627776) :
    Calls Tryz.prog 119 #[.pointer (some ⟨B, 0, none⟩), v] w fun e w' => e = .returned (.tuple #[.int .i64 p.length, .nilIface]) ∧ Hmd H B so (H.write si p) op w' ∧ But (B + 3) w w' := by
  obtain ⟨⟨ip, kl, hr⟩, hd, he, ho, hl, hko, hki, hs⟩ := hm
  have c3 : w.cell? ⟨B, 3, none⟩ = some (.iface H.T (.pointer (some ⟨B + 3, 0, none⟩))) := by rw [hr.cell]; rfl
  have wi := H.write_ok si p hki hb hn
  have G := Lib.hid ((H.cwrite (B + 3) si v p w hki he hkt (by omega) hp hoff hb hn).mono (R' := fun e w' => e = .returned (.tuple #[.int .i64 p.length, .nilIface]) ∧ Hid (Hmd H B so (H.write si p) op w') ∧ Hid (But (B + 3) w w'))
    (fun e w' ⟨h1, h2, h3⟩ => ⟨h1, Lib.hid ⟨⟨ip, kl, hr.but h3 (by omega)⟩, hd.but h3 (by omega), h2, ho.but h3 (by omega), hl, hko, wi.1, by have := h3.size; omega⟩, Lib.hid h3⟩))
  have mW := H.mWrite
  have eW := H.eWrite
  clear hr hd he ho hkt hp hoff wi hl hko hki
  go_enter Tryz.func119, Tryz.ntmps119
  go_wp2_with (refine G.out.mono ?_; rintro e w8 ⟨rfl, hm, b8⟩)
  go_ret2
  exact ⟨rfl, hm.out, b8.out⟩

set_option maxRecDepth 100000 in
set_option maxHeartbeats 4000000 in
theorem hmacSum (H : HK) (B : Nat) (so si : H.St) (op : List Int) (w : World) (hm : Hmd H B so si op w) (hkt : Row w H.kg H.kT H.kC) (hkg : H.kg < B) (hn : H.n si ≤ 1099511627776) :
    Calls Tryz.prog 120 #[.pointer (some ⟨B, 0, none⟩), .slice none 0 0] w fun e w' => ∃ v', e = .returned v' ∧ w'.ownsRow w.heap.size 5 1 v' H.size (cs8 (H.sum (H.write (H.write (H.reset so) op) (H.sum si)))) ∧ But (B + 2) w w' := by
  obtain ⟨⟨ip, kl, hr⟩, hd, he, ho, hl, hko, hki, hs⟩ := hm
  have hbl := H.block_le
  have hsl := H.size_le
  have hsp := H.size_pos
  have c3 : w.cell? ⟨B, 3, none⟩ = some (.iface H.T (.pointer (some ⟨B + 3, 0, none⟩))) := by rw [hr.cell]; rfl
  have ok1 := H.reset_ok so hko
  have ok2 := H.write_ok (H.reset so) op ok1.1 (by omega) (by rw [ok1.2]; omega)
  have ok3 := H.write_ok (H.write (H.reset so) op) (H.sum si) ok2.1 (by rw [H.sum_len]; omega) (by rw [ok2.2, ok1.2, H.sum_len]; omega)
  have G1 : Hid (Calls Tryz.prog H.fSum #[.pointer (some ⟨B + 3, 0, none⟩), .slice none 0 0] w fun e w1 => ∃ g cap, e = .returned (.slice (some ⟨g, 0, none⟩) H.size cap) ∧ Hid (w1.ownsRow w.heap.size 5 1 (.slice (some ⟨g, 0, none⟩) H.size cap) H.size (cs8 (H.sum si))) ∧ 0 < cap ∧ H.size ≤ cap ∧ Hid (w.heap.size ≤ g) ∧ Hid (Below w.heap.size w w1) ∧
      w1.cell? ⟨B, 4, none⟩ = some (.bool false) ∧ w1.cell? ⟨B, 2, none⟩ = some (.iface H.T (.pointer (some ⟨B + 2, 0, none⟩)))) := by
    refine Lib.hid ((H.csum (B + 3) si w w.heap.size _ hki hn he hkt (World.ownsRow_nil _ _ _ _) (Nat.le_refl _)).mono ?_)
    intro e w1 ⟨v', he1, hown, hg⟩
    have hb : Below w.heap.size w w1 := ⟨hg.os, hg.tape, hg.output, hg.size, fun k hk => hg.block k hk (by simp [Value.ownBlock])⟩
    have hown2 := hown
    obtain ⟨_, h2⟩ := hown2
    rcases h2 with ⟨_, h0⟩ | ⟨g, cap, cur, hv, hgb, hh, hnn, hcap, hsz, htake⟩
    · omega
    · subst hv
      exact ⟨g, cap, he1, Lib.hid hown, by omega, hnn, Lib.hid hgb, Lib.hid hb, by rw [(hr.below hb (by omega)).cell]; rfl, by rw [(hr.below hb (by omega)).cell]; rfl⟩
  have mW := H.mWrite
  have eW := H.eWrite
  have mS := H.mSum
  have eS := H.eSum
  have mR := H.mReset
  have eR := H.eReset
  have nW := H.nilAheadW
  have nS := H.nilAheadS
  have dn : ∀ (b : Bool) (wx : World), (Op.unary .not (.bool b)).run Tryz.prog wx = .ok (.bool (!b)) wx := fun _ _ => rfl
  have Hr := Lib.hid hr
  have Hd := Lib.hid hd
  have He := Lib.hid he
  have Ho := Lib.hid ho
  have Hl := Lib.hid hl
  have Hko := Lib.hid hko
  have Hki := Lib.hid hki
  have Ok1 := Lib.hid ok1
  have Ok2 := Lib.hid ok2
  have Ok3 := Lib.hid ok3
  have Hkt := Lib.hid hkt
  clear hr hd he ho hl hko hki ok1 ok2 ok3 hkt
  go_enter Tryz.func120, Tryz.ntmps120
  go_wp2_with (refine G1.out.mono ?_; rintro e w1 ⟨g, cap, rfl, own1, hcp, hcs, hg1, b1, c4, c2⟩)
  have K1 := Hkt.out.below b1.out (Hkt.out.lt)
  have R1 := Hr.out.below b1.out (by omega)
  have O1 := Ho.out.below b1.out (by omega)
  refine (H.creset (B + 2) so w1 Hko.out (Hd.out.below b1.out (by omega))).mono ?_
  rintro e w2 ⟨rfl, d2, o2⟩
  have K2 := K1.only o2 (by omega)
  have R2 := R1.only o2 (by omega)
  have O2 := O1.only o2 (by omega)
  have own2 := Lib.hid (own1.out.kept (w' := w2) (row := some (B + 2)) ⟨o2.os, o2.tape, o2.output, Nat.le_of_eq o2.size.symm, fun k hk hr => o2.block k (by intro h; exact hr (by rw [h]))⟩ (Or.inr (by have := hg1.out; simp [Value.ownBlock]; omega)))
  have T2 := Lib.hid ((But.of_below (g := B + 2) b1.out).trans (But.of_only o2))
  have c5 : w2.cell? ⟨B, 2, none⟩ = some (.iface H.T (.pointer (some ⟨B + 2, 0, none⟩))) := by rw [R2.cell]; rfl
  have c6 : w2.cell? ⟨B, 0, none⟩ = some (.slice (some ⟨B + 6, 0, none⟩) H.block H.block) := by rw [R2.cell]; rfl
  have Bo : Bs w2.drew (.slice (some ⟨B + 6, 0, none⟩) H.block H.block) op := by
    have h := Bs.row (row_drewd O2) 0 H.block op (by rw [Hl.out]; omega) (fun i hi => by rw [Nat.zero_add, get_cs8 _ _ hi])
    rw [Hl.out] at h
    exact h
  have G2 : Hid (Calls Tryz.prog H.fWrite #[.pointer (some ⟨B + 2, 0, none⟩), .slice (some ⟨B + 6, 0, none⟩) H.block H.block] w2.drew fun e w3 => e = .returned (.tuple #[.int .i64 H.block, .nilIface]) ∧ Hid (Row w3 (B + 2) H.cT (H.cells (H.write (H.reset so) op))) ∧ Hid (But (B + 2) w w3) ∧ Hid (Row w3 H.kg H.kT H.kC) ∧ w3.cell? ⟨B, 2, none⟩ = some (.iface H.T (.pointer (some ⟨B + 2, 0, none⟩))) ∧ Hid (w3.ownsRow w.heap.size 5 1 (.slice (some ⟨g, 0, none⟩) H.size cap) H.size (cs8 (H.sum si)))) := by
    have h := H.cwrite (B + 2) (H.reset so) _ op w2.drew Ok1.out.1 (row_drewd d2) (row_drewd K2) (by omega) Bo (by intro a n c h _; cases h; show B + 6 ≠ B + 2; omega) (by rw [Hl.out]; omega) (by rw [Ok1.out.2, Hl.out]; omega)
    refine Lib.hid (h.mono fun e w3 ⟨h1, h2, h3⟩ => ?_)
    rw [Hl.out] at h1
    refine ⟨h1, Lib.hid h2, Lib.hid (T2.out.drew.trans h3), Lib.hid ((row_drewd K2).but h3 (by omega)), by rw [((row_drewd R2).but h3 (by omega)).cell]; rfl, ?_⟩
    have o := own2.out
    exact Lib.hid (World.ownsRow.kept (w := w2.drew) (row := some (B + 2)) o ⟨h3.os, h3.tape, h3.output, h3.size, fun k hk hr => h3.block k hk (by intro h; exact hr (by rw [h]))⟩ (Or.inr (by have := hg1.out; simp [Value.ownBlock]; omega)))
  clear K1 R1 O1 d2 o2 K2 R2 O2 Bo own1 b1 c4 c2
  go_wp2_with fail
  go_still_tail 10, (by kernel_rfl)
  change wpList _ _ _ _ _ w2.drew
  generalize w2.drew = wq at *
  go_wp2_with (refine G2.out.mono ?_; rintro e w3 ⟨rfl, d3, t3, k3, c7, own3⟩)
  have Bm : Bs w3.drew (.slice (some ⟨g, 0, none⟩) H.size cap) (H.sum si) := Bs.own (B := w.heap.size) (e := 5) (n := H.size) (show World.ownsRow w3.drew _ _ _ _ _ _ from own3.out)
  have hsl1 := fun wx => run_sl_from (P := Tryz.prog) 22 5 Tryz.underlying22 (by kernel_rfl) g 0 H.size cap 0 0 H.size cap .i64 0 rfl (by omega) hcp rfl (by omega) (by omega) wx
  have hsl2 := fun wx => run_sl_to (P := Tryz.prog) 22 5 Tryz.underlying22 (by kernel_rfl) g 0 H.size cap 0 .i64 0 rfl (by omega) hcp wx
  have G3 : Hid (Calls Tryz.prog H.fWrite #[.pointer (some ⟨B + 2, 0, none⟩), .slice (some ⟨g, 0, none⟩) H.size cap] w3.drew fun e w4 => e = .returned (.tuple #[.int .i64 H.size, .nilIface]) ∧ Hid (Row w4 (B + 2) H.cT (H.cells (H.write (H.write (H.reset so) op) (H.sum si)))) ∧ Hid (But (B + 2) w w4) ∧ Hid (Row w4 H.kg H.kT H.kC) ∧ w4.cell? ⟨B, 2, none⟩ = some (.iface H.T (.pointer (some ⟨B + 2, 0, none⟩))) ∧ Hid (w4.ownsRow w.heap.size 5 1 (.slice (some ⟨g, 0, none⟩) H.size cap) H.size (cs8 (H.sum si)))) := by
    have h := H.cwrite (B + 2) _ _ (H.sum si) w3.drew Ok2.out.1 (row_drewd d3.out) (row_drewd k3.out) (by omega) Bm (by intro a n c h _; cases h; show g ≠ B + 2; have := hg1.out; omega) (by rw [H.sum_len]; omega) (by rw [Ok2.out.2, Ok1.out.2, Hl.out, H.sum_len]; omega)
    refine Lib.hid (h.mono fun e w4 ⟨h1, h2, h3⟩ => ?_)
    rw [H.sum_len] at h1
    have hB2 : w3.drew.cell? ⟨B, 2, none⟩ = some (.iface H.T (.pointer (some ⟨B + 2, 0, none⟩))) := c7
    refine ⟨h1, Lib.hid h2, Lib.hid (t3.out.drew.trans h3), Lib.hid ((row_drewd k3.out).but h3 (by omega)), ?_, ?_⟩
    · rw [← hB2]
      exact World.cell?_of_block (w := w3.drew) (a := ⟨B, 2, none⟩) (h3.block B (World.block_lt_of_cell? w3.drew _ hB2) (by show B ≠ B + 2; omega))
    · have o := own3.out
      exact Lib.hid (World.ownsRow.kept (w := w3.drew) (row := some (B + 2)) o ⟨h3.os, h3.tape, h3.output, h3.size, fun k hk hr => h3.block k hk (by intro h; exact hr (by rw [h]))⟩ (Or.inr (by have := hg1.out; simp [Value.ownBlock]; omega)))
  clear own3 Bm d3 k3 t3
  go_wp2_with fail
  go_still_tail 9, (by kernel_rfl)
  change wpList _ _ _ _ _ w3.drew
  generalize w3.drew = wq2 at *
  go_wp2_with (refine G3.out.mono ?_; rintro e w4 ⟨rfl, d4, t4, k4, c8, own4⟩)
  have G4 : Hid (Calls Tryz.prog H.fSum #[.pointer (some ⟨B + 2, 0, none⟩), .slice (some ⟨g, 0, none⟩) 0 cap] w4.drew fun e w5 => ∃ v', e = .returned v' ∧ Hid (w5.ownsRow w.heap.size 5 1 v' H.size (cs8 (H.sum (H.write (H.write (H.reset so) op) (H.sum si))))) ∧ Hid (But (B + 2) w w5)) := by
    have h := H.csum (B + 2) _ w4.drew w.heap.size (.slice (some ⟨g, 0, none⟩) 0 cap) Ok3.out.1 (by rw [Ok3.out.2, Ok2.out.2, Ok1.out.2, Hl.out, H.sum_len]; omega) (row_drewd d4.out) (row_drewd k4.out) (own_none (show World.ownsRow w4.drew _ _ _ _ _ _ from own4.out)) (show w.heap.size ≤ w4.heap.size from t4.out.size)
    refine Lib.hid (h.mono fun e w5 ⟨v', h1, h2, h3⟩ => ⟨v', h1, Lib.hid h2, Lib.hid ?_⟩)
    have t := t4.out.drew
    exact ⟨h3.os.trans t.os, h3.tape.trans t.tape, h3.output.trans t.output, Nat.le_trans t.size h3.size, fun k hk hr => (h3.block k (Nat.lt_of_lt_of_le hk t.size) (by have := hg1.out; simp [Value.ownBlock]; omega)).trans (t.block k hk hr)⟩
  clear own4 d4 k4 t4
  go_wp2_with fail
  go_still_tail 9, (by kernel_rfl)
  change wpList _ _ _ _ _ w4.drew
  generalize w4.drew = wq3 at *
  go_wp2_with (refine G4.out.mono ?_; rintro e w5 ⟨v', rfl, own5, t5⟩)
  go_ret
  exact ⟨v', rfl, own5.out, t5.out⟩
end Go.Proofs.YtaemdppihpefnaaGreatDoor

/- The function that signs: an HMAC made anew, written, summed. -/
namespace Go.Proofs.YtaemdppihpefnaaGreatDoor
open Go.RowKit
set_option linter.unusedVariables false

/-- The code of some bytes with a key. -/
def macOf (H : HK) (key p : List Int) : List Int := H.sum (H.write (H.write (H.reset (outerOf H key)) (opadOf H key)) (H.sum (H.write (innerOf H key) p)))
theorem macOf_len (H : HK) (key p : List Int) : (macOf H key p).length = H.size := H.sum_len _
theorem macOf_byt (H : HK) (key p : List Int) : Byt (macOf H key p) := H.sum_byt _

theorem own_base {w : World} {b b' : Nat} {e : TypeId} {v : Value} {n : Nat} {xs : List Value} (h : w.ownsRow b e 1 v n xs) (hb : b' ≤ b) : w.ownsRow b' e 1 v n xs := by
  obtain ⟨h1, h2⟩ := h
  refine ⟨h1, ?_⟩
  rcases h2 with h2 | ⟨g, cap, cur, hv, hg, hr⟩
  · exact Or.inl h2
  · exact Or.inr ⟨g, cap, cur, hv, by omega, hr⟩

theorem inner_n (H : HK) (key : List Int) : H.n (innerOf H key) ≤ 65536 ∧ (xorL 54 (kzOf H key) H.block).length ≤ 65536 ∨ ¬ (keyOf H key).length ≤ H.block := by
  by_cases h : (keyOf H key).length ≤ H.block
  · have hb := H.block_le
    have hl : (xorL 54 (kzOf H key) H.block).length = H.block := by
      rw [xorL_len]; unfold kzOf
      rw [length_splice _ _ _ (by rw [List.length_replicate]; omega), List.length_replicate]
    refine Or.inl ⟨?_, by rw [hl]; omega⟩
    unfold innerOf
    rw [(H.write_ok H.init _ H.init_ok (by rw [hl]; omega) (by rw [H.init_n, hl]; omega)).2, H.init_n, hl]; omega
  · exact Or.inr h
theorem keyOf_le (H : HK) (key : List Int) : (keyOf H key).length ≤ H.block := by
  unfold keyOf
  split
  · rw [H.sum_len]; exact H.size_block
  · omega

set_option maxRecDepth 100000 in
set_option maxHeartbeats 1000000 in
theorem signF (H : HK) (C : Nat) (vp vk : Value) (p key : List Int) (w : World) (hp : Bs w vp p) (hk : Bs w vk key) (hpb : p.length ≤ 65536) (hkb : key.length ≤ 65536) (hkt : Row w H.kg H.kT H.kC)
    (hc : w.cell? ⟨C, 0, none⟩ = some (.func (.func H.fNew) #[] #[])) :
    Calls Tryz.prog 117 #[vp, vk, .pointer (some ⟨C, 0, none⟩)] w fun e w' => ∃ v', e = .returned (.tuple #[v', .nilIface]) ∧ w'.ownsRow w.heap.size 5 1 v' H.size (cs8 (macOf H key p)) ∧ Below w.heap.size w w' := by
  have hkg := hkt.lt
  have hin : H.n (innerOf H key) ≤ 65536 := by
    rcases inner_n H key with h | h
    · exact h.1
    · exact absurd (keyOf_le H key) h
  have G1 := Lib.hid (hmacNew H vk key w hk hkb hkt)
  have G2 : Hid (∀ w1, Hmd H w.heap.size (outerOf H key) (innerOf H key) (opadOf H key) w1 → Below w.heap.size w w1 → Calls Tryz.prog 119 #[.pointer (some ⟨w.heap.size, 0, none⟩), vp] w1 fun e w2 => e = .returned (.tuple #[.int .i64 p.length, .nilIface]) ∧ Hid (Hmd H w.heap.size (outerOf H key) (H.write (innerOf H key) p) (opadOf H key) w2) ∧ Hid (Below w.heap.size w w2)) := by
    refine Lib.hid fun w1 hm hb => ?_
    refine (hmacWrite H w.heap.size _ _ _ vp p w1 hm (hkt.below hb hkg) hkg (hp.below hb) (Off.of_old hp (by omega)) hpb (by omega)).mono ?_
    intro e w2 ⟨h1, h2, h3⟩
    exact ⟨h1, Lib.hid h2, Lib.hid (hb.trans (h3.below (by omega) (by have := hm.size; omega)))⟩
  have G3 : Hid (∀ w2, Hmd H w.heap.size (outerOf H key) (H.write (innerOf H key) p) (opadOf H key) w2 → Below w.heap.size w w2 → Calls Tryz.prog 120 #[.pointer (some ⟨w.heap.size, 0, none⟩), .slice none 0 0] w2 fun e w3 => ∃ v', e = .returned v' ∧ Hid (w3.ownsRow w.heap.size 5 1 v' H.size (cs8 (macOf H key p))) ∧ Hid (Below w.heap.size w w3)) := by
    refine Lib.hid fun w2 hm hb => ?_
    have hni : H.n (H.write (innerOf H key) p) ≤ 1099511627776 := by
      have hi : H.ok (innerOf H key) := by
        have hl := inner_n H key
        rcases hl with hl | hl
        · have := H.init_n
          exact (H.write_ok H.init _ H.init_ok hl.2 (by rw [this]; have := hl.2; omega)).1
        · exact absurd (keyOf_le H key) hl
      rw [(H.write_ok _ p hi hpb (by omega)).2]; omega
    refine (hmacSum H w.heap.size _ _ _ w2 hm (hkt.below hb hkg) hkg hni).mono ?_
    intro e w3 ⟨v', h1, h2, h3⟩
    exact ⟨v', h1, Lib.hid (own_base h2 hb.size), Lib.hid (hb.trans (h3.below (by omega) (by have := hm.size; omega)))⟩
  clear hp hk hkt hin
  go_enter Tryz.func117, Tryz.ntmps117
  go_wp2_with fail
  refine G1.out.mono ?_
  rintro e w1 ⟨rfl, hm1, hb1⟩
  have G2 := Lib.hid (G2.out w1 hm1 hb1)
  clear hm1 hb1
  go_wp2_with (go_at_call 119; refine G2.out.mono ?_; rintro e w2 ⟨rfl, hm2, hb2⟩)
  refine (G3.out w2 hm2.out hb2.out).mono ?_
  rintro e w3 ⟨v', rfl, own3, hb3⟩
  go_wp2_with fail
  go_ret2
  exact ⟨v', rfl, own3.out, hb3.out⟩
end Go.Proofs.YtaemdppihpefnaaGreatDoor
