/- The block function of SHA-256, whatever its table holds. -/
import Derived.Test.YtaemdppihpefnaaGreatDoorHashKit
import Derived.BigRegion
import Derived.Deep.LoopGhost
namespace Go.Proofs.YtaemdppihpefnaaGreatDoor
open Go.RowKit
set_option linter.unusedVariables false

/-- Four bytes, as a word. -/
def ld32 (y0 y1 y2 y3 : Int) : Int := bits .or .u32 (bits .or .u32 (bits .or .u32 (y0 % 4294967296 * 16777216 % 4294967296) (y1 % 4294967296 * 65536 % 4294967296)) (y2 % 4294967296 * 256 % 4294967296)) (y3 % 4294967296)
def ldAt32 (P : List Int) (k : Nat) : Int := ld32 (P.getD (k * 4) 0) (P.getD (k * 4 + 1) 0) (P.getD (k * 4 + 2) 0) (P.getD (k * 4 + 3) 0)
/-- A later word of the schedule. -/
def mix32 (v1 v7 v2 v16 : Int) : Int :=
  (bits .xor .u32 (bits .xor .u32 (rot32 v1 (-17)) (rot32 v1 (-19))) (v1 / 1024) + v7 + bits .xor .u32 (bits .xor .u32 (rot32 v2 (-7)) (rot32 v2 (-18))) (v2 / 8) + v16) % 4294967296
def mixAt32 (Y : List Int) (k : Nat) : Int := mix32 (Y.getD (k - 2) 0) (Y.getD (k - 7) 0) (Y.getD (k - 15) 0) (Y.getD (k - 16) 0)
def one32 (q : S8) (kk z : Int) : Int :=
  (q.h + bits .xor .u32 (bits .xor .u32 (rot32 q.e (-6)) (rot32 q.e (-11))) (rot32 q.e (-25)) + bits .xor .u32 (bits .and .u32 q.e q.f) (bits .and .u32 (bits .xor .u32 (if IntKind.u32.signed = true then -1 else IntKind.u32.max) q.e) q.g) + kk + z) % 4294967296
def two32 (q : S8) : Int :=
  (bits .xor .u32 (bits .xor .u32 (rot32 q.a (-2)) (rot32 q.a (-13))) (rot32 q.a (-22)) + bits .xor .u32 (bits .xor .u32 (bits .and .u32 q.a q.b) (bits .and .u32 q.a q.c)) (bits .and .u32 q.b q.c)) % 4294967296
def rnd32 (q : S8) (kk z : Int) : S8 := ⟨(one32 q kk z + two32 q) % 4294967296, q.a, q.b, q.c, (q.d + one32 q kk z) % 4294967296, q.e, q.f, q.g⟩
/-- The words and the schedule behind k rounds. -/
def rounds32 (K P : List Int) (x : S8 × List Int) : Nat → S8 × List Int
  | 0 => x
  | k + 1 =>
    let y := rounds32 K P x k
    let z := if k < 16 then ldAt32 P k else mixAt32 y.2 k
    (rnd32 y.1 (K.getD k 0) z, y.2.set k z)
def add32 (s q : S8) : S8 := ⟨(s.a + q.a) % 4294967296, (s.b + q.b) % 4294967296, (s.c + q.c) % 4294967296, (s.d + q.d) % 4294967296, (s.e + q.e) % 4294967296, (s.f + q.f) % 4294967296, (s.g + q.g) % 4294967296, (s.h + q.h) % 4294967296⟩
/-- The words and the schedule behind j blocks. -/
def blocks32 (K ps : List Int) (x : S8 × List Int) : Nat → S8 × List Int
  | 0 => x
  | j + 1 =>
    let y := blocks32 K ps x j
    let r := rounds32 K (ps.drop (64 * j)) y 64
    (add32 y.1 r.1, r.2)
/-- What the block function makes of eight words and whole blocks. -/
def comp32 (K ps : List Int) (s : S8) : S8 := (blocks32 K ps (s, List.replicate 64 0) (ps.length / 64)).1

theorem row8_32 {w : World} {g : Nat} {T : TypeId} {s : S8} {rest : List Value} (h : Row w g T (cs32 (words8 s) ++ rest)) (t : S8) :
    Row (((((((((w.setCell ⟨g, 0, none⟩ (.int .u32 t.a)).setCell ⟨g, 1, none⟩ (.int .u32 t.b)).setCell ⟨g, 2, none⟩ (.int .u32 t.c)).setCell ⟨g, 3, none⟩ (.int .u32 t.d)).setCell ⟨g, 4, none⟩ (.int .u32 t.e)).setCell ⟨g, 5, none⟩ (.int .u32 t.f)).setCell ⟨g, 6, none⟩ (.int .u32 t.g)).setCell ⟨g, 7, none⟩ (.int .u32 t.h)).drew) g T (cs32 (words8 t) ++ rest) :=
  set8 (x0 := .int .u32 s.a) (x1 := .int .u32 s.b) (x2 := .int .u32 s.c) (x3 := .int .u32 s.d) (x4 := .int .u32 s.e) (x5 := .int .u32 s.f) (x6 := .int .u32 s.g) (x7 := .int .u32 s.h) (rest := rest) h _ _ _ _ _ _ _ _
theorem but8_32 (w : World) (g : Nat) (t : S8) :
    But g w (((((((((w.setCell ⟨g, 0, none⟩ (.int .u32 t.a)).setCell ⟨g, 1, none⟩ (.int .u32 t.b)).setCell ⟨g, 2, none⟩ (.int .u32 t.c)).setCell ⟨g, 3, none⟩ (.int .u32 t.d)).setCell ⟨g, 4, none⟩ (.int .u32 t.e)).setCell ⟨g, 5, none⟩ (.int .u32 t.f)).setCell ⟨g, 6, none⟩ (.int .u32 t.g)).setCell ⟨g, 7, none⟩ (.int .u32 t.h)).drew) :=
  ((((((((But.of_only (Only.set w g 0 _)).trans (.of_only (Only.set _ g 1 _))).trans (.of_only (Only.set _ g 2 _))).trans (.of_only (Only.set _ g 3 _))).trans (.of_only (Only.set _ g 4 _))).trans (.of_only (Only.set _ g 5 _))).trans (.of_only (Only.set _ g 6 _))).trans (.of_only (Only.set _ g 7 _))).drew

theorem rounds32_lo {K P : List Int} {x : S8 × List Int} {k : Nat} {q : S8} {Y : List Int} (h : (q, Y) = rounds32 K P x k) (hk : k < 16) :
    (rnd32 q (K.getD k 0) (ldAt32 P k), Y.set k (ldAt32 P k)) = rounds32 K P x (k + 1) := by
  simp only [rounds32, ← h, if_pos hk]
theorem rounds32_hi {K P : List Int} {x : S8 × List Int} {k : Nat} {q : S8} {Y : List Int} (h : (q, Y) = rounds32 K P x k) (hk : ¬ k < 16) :
    (rnd32 q (K.getD k 0) (mixAt32 Y k), Y.set k (mixAt32 Y k)) = rounds32 K P x (k + 1) := by
  simp only [rounds32, ← h, if_neg hk]

set_option maxRecDepth 1000000 in
set_option maxHeartbeats 8000000 in
theorem block256 (K : List Int) (hK : K.length = 64) (g : Nat) (s : S8) (rest : List Value) (v : Value) (ps : List Int) (w : World)
    (hrow : Row w g 259 (cs32 (words8 s) ++ rest)) (hkt : Row w 8 380 (cs32 K)) (hp : Bs w v ps) (hm : ps.length % 64 = 0) (hbig : ps.length ≤ maxLen) :
    Calls Tryz.prog 271 #[.pointer (some ⟨g, 0, none⟩), v] w fun e w' => e = .returned (.tuple #[]) ∧ Row w' g 259 (cs32 (words8 (comp32 K ps s)) ++ rest) ∧ But g w w' := by
  have a0 : w.cell? ⟨g, 0, none⟩ = some (.int .u32 s.a) := by rw [hrow.cell]; rfl
  have a1 : w.cell? ⟨g, 1, none⟩ = some (.int .u32 s.b) := by rw [hrow.cell]; rfl
  have a2 : w.cell? ⟨g, 2, none⟩ = some (.int .u32 s.c) := by rw [hrow.cell]; rfl
  have a3 : w.cell? ⟨g, 3, none⟩ = some (.int .u32 s.d) := by rw [hrow.cell]; rfl
  have a4 : w.cell? ⟨g, 4, none⟩ = some (.int .u32 s.e) := by rw [hrow.cell]; rfl
  have a5 : w.cell? ⟨g, 5, none⟩ = some (.int .u32 s.f) := by rw [hrow.cell]; rfl
  have a6 : w.cell? ⟨g, 6, none⟩ = some (.int .u32 s.g) := by rw [hrow.cell]; rfl
  have a7 : w.cell? ⟨g, 7, none⟩ = some (.int .u32 s.h) := by rw [hrow.cell]; rfl
  have hgl := hrow.lt
  have Hrow := Lib.hid hrow
  have Hkt := Lib.hid hkt
  have Hp := Lib.hid hp
  have Hm := Lib.hid hm
  have HK := Lib.hid hK
  clear hrow hkt hp hm hK
  go_enter Tryz.func271, Tryz.ntmps271
  go_wp2_with fail
  go_quiet (fail)
  clear a0 a1 a2 a3 a4 a5 a6 a7
  go_wp2_with fail
  go_loopw [1, 5, 6, 7, 8, 9, 10, 11, 12] (fun pv x0 x1 x2 x3 x4 x5 x6 x7 wr => ∃ (j : Nat) (t : S8) (W : List Int), 64 * j ≤ ps.length ∧ x0 = .int .u32 t.a ∧ x1 = .int .u32 t.b ∧ x2 = .int .u32 t.c ∧ x3 = .int .u32 t.d ∧ x4 = .int .u32 t.e ∧ x5 = .int .u32 t.f ∧ x6 = .int .u32 t.g ∧ x7 = .int .u32 t.h ∧
    Hid (W.length = 64) ∧ Hid ((t, W) = blocks32 K ps (s, List.replicate 64 0) j) ∧ Hid (Row wr w.heap.size 380 (cs32 W)) ∧ Hid (Bs w pv (ps.drop (64 * j))) ∧ Below w.heap.size w wr) (fun pv _ _ _ _ _ _ _ _ _ => lenOf pv)
  case atStart =>
    exact ⟨0, s, List.replicate 64 0, by omega, rfl, rfl, rfl, rfl, rfl, rfl, rfl, rfl, List.length_replicate, rfl, row_start _ _ _ _ _ rfl, Hp, below_start _ _ _⟩
  case round =>
    obtain ⟨j, t, W, hj, rfl, rfl, rfl, rfl, rfl, rfl, rfl, rfl, hWl, hbl0, hrw, hpv, hbr⟩ := hrel
    obtain ⟨wo, rfl⟩ : ∃ wo : World, wo = wr := ⟨_, rfl⟩
    obtain ⟨pp, cc, rfl, hcc⟩ := id hpv.out
    obtain ⟨n, hn⟩ : ∃ n, (ps.drop (64 * j)).length = n := ⟨_, rfl⟩
    have hnj : n + 64 * j = ps.length := by rw [← hn, List.length_drop]; omega
    rw [hn] at hpv hcc ⊢
    obtain ⟨hcn, hcc⟩ := hcc
    have Hnj := Lib.hid hnj
    have Hbr := Lib.hid hbr
    clear hcc hnj hn hbr
    by_cases hlt : 64 ≤ n
    · have hge : (64 : Int) ≤ n := by omega
      go_wp2_with fail
      go_loopw [13, 14, 15, 16, 17, 18, 19, 20, 80] (fun x0 x1 x2 x3 x4 x5 x6 x7 i wq => ∃ (k : Nat) (q : S8) (Y : List Int), k ≤ 64 ∧ i = .int .i64 k ∧ x0 = .int .u32 q.a ∧ x1 = .int .u32 q.b ∧ x2 = .int .u32 q.c ∧ x3 = .int .u32 q.d ∧ x4 = .int .u32 q.e ∧ x5 = .int .u32 q.f ∧ x6 = .int .u32 q.g ∧ x7 = .int .u32 q.h ∧
        Hid (Y.length = 64) ∧ Hid ((q, Y) = rounds32 K (ps.drop (64 * j)) (t, W) k) ∧ Hid (Row wq w.heap.size 380 (cs32 Y)) ∧ Below w.heap.size w wq) (fun _ _ _ _ _ _ _ _ i _ => 64 - (intOf i).toNat)
      case atStart => exact ⟨0, t, W, by omega, rfl, rfl, rfl, rfl, rfl, rfl, rfl, rfl, rfl, hWl, rfl, hrw, Hbr.out⟩
      case round =>
        obtain ⟨k, q, Y, hk, rfl, rfl, rfl, rfl, rfl, rfl, rfl, rfl, rfl, hYl, hrd, hrY, hbq⟩ := hrel
        by_cases hlt : k < 64
        · obtain ⟨kk, hkk⟩ : ∃ kk, K.getD k 0 = kk := ⟨_, rfl⟩
          have hkc : wr.cell? ⟨8, k, none⟩ = some (.int .u32 kk) := by
            rw [hbq.cell Hkt.out.lt, Hkt.out.cell, get_cs32 _ _ (by rw [HK.out]; exact hlt), hkk]
          have hfr := hrY.out.unfrozen k
          have hyk : wr.cell? ⟨w.heap.size, k, none⟩ = some (.int .u32 (Y.getD k 0)) := by
            rw [hrY.out.cell, get_cs32 _ _ (by rw [hYl.out]; exact hlt)]
          have Hkk := Lib.hid hkk
          clear hkk
          have Hbq := Lib.hid hbq
          by_cases h16 : k < 16
          · as_aux_lemma =>
            obtain ⟨b, o, rfl, hcell⟩ := Bs.at hpv.out (by omega)
            have hc0 := hcell (k * 4) (by omega)
            have hc1 := hcell (k * 4 + 1) (by omega)
            have hc2 := hcell (k * 4 + 2) (by omega)
            have hc3 := hcell (k * 4 + 3) (by omega)
            have hbl := World.block_lt_of_cell? w _ hc0
            rw [← hbq.cell (p := ⟨b, o + k * 4, none⟩) hbl] at hc0
            rw [← hbq.cell (p := ⟨b, o + (k * 4 + 1), none⟩) hbl] at hc1
            rw [← hbq.cell (p := ⟨b, o + (k * 4 + 2), none⟩) hbl] at hc2
            rw [← hbq.cell (p := ⟨b, o + (k * 4 + 3), none⟩) hbl] at hc3
            have Hld : Hid (ldAt32 (ps.drop (64 * j)) k = ldAt32 (ps.drop (64 * j)) k) := rfl
            have Hrd2 := Lib.hid (rounds32_lo hrd.out h16)
            rw [show ldAt32 (ps.drop (64 * j)) k = ld32 ((ps.drop (64 * j)).getD (k * 4) 0) ((ps.drop (64 * j)).getD (k * 4 + 1) 0) ((ps.drop (64 * j)).getD (k * 4 + 2) 0) ((ps.drop (64 * j)).getD (k * 4 + 3) 0) from rfl, Hkk.out] at Hrd2
            clear hcell hbq Hld
            generalize (ps.drop (64 * j)).getD (k * 4) 0 = y0 at *
            generalize (ps.drop (64 * j)).getD (k * 4 + 1) 0 = y1 at *
            generalize (ps.drop (64 * j)).getD (k * 4 + 2) 0 = y2 at *
            generalize (ps.drop (64 * j)).getD (k * 4 + 3) 0 = y3 at *
            go_wp2_with fail
            go_region
            generalize hz : bits BinOp.or IntKind.u32 (bits BinOp.or IntKind.u32 (bits BinOp.or IntKind.u32 (y0 % 4294967296 * 16777216 % 4294967296) (y1 % 4294967296 * 65536 % 4294967296)) (y2 % 4294967296 * 256 % 4294967296)) (y3 % 4294967296) = z
            have Hz := Lib.hid hz
            have R2 : Hid (Row ((wr.setCell ⟨w.heap.size, k, none⟩ (.int .u32 z)).drew) w.heap.size 380 (cs32 (Y.set k z))) := set32 hrY.out k z
            have B2 : Hid (Below w.heap.size w ((wr.setCell ⟨w.heap.size, k, none⟩ (.int .u32 z)).drew)) := (Hbq.out.setCell (Nat.le_refl _) _).drew
            have L2 : Hid ((Y.set k z).length = 64) := by show _ = _; rw [List.length_set]; exact hYl.out
            have E2 : Hid ((Y.set k z).getD k 0 = z) := by show _ = _; simp [List.getD, hYl.out, hlt]
            rw [show ld32 y0 y1 y2 y3 = z from hz] at Hrd2
            clear hz hc0 hc1 hc2 hc3 hkc hyk hfr hrY Hbq
            generalize (wr.setCell ⟨w.heap.size, k, none⟩ (.int .u32 z)).drew = w2 at *
            generalize hY2 : Y.set k z = Y2 at *
            have HY2 := Lib.hid hY2
            clear hY2
            have hkc : w2.cell? ⟨8, k, none⟩ = some (.int .u32 kk) := by
              rw [B2.out.cell Hkt.out.lt, Hkt.out.cell, get_cs32 _ _ (by rw [HK.out]; exact hlt), Hkk.out]
            have R3 : ∀ n, Hid (Row (w2.drewN n) w.heap.size 380 (cs32 Y2)) := fun n => row_drewN R2.out n
            have B3 : ∀ n, Hid (Below w.heap.size w (w2.drewN n)) := fun n => below_drewN B2.out n
            have hyk : w2.cell? ⟨w.heap.size, k, none⟩ = some (.int .u32 z) := by
              rw [R2.out.cell, get_cs32 _ _ (by rw [L2.out]; exact hlt), E2.out]
            go_wp2_with fail
            go_quiet ((go_at_call 272; exact Calls.quiet_of_same (rot32_q _ _ _ (by decide +kernel))))
            have R4 := R3 nq
            have B4 := B3 nq
            clear R3 B3 hkc hyk R2 B2
            generalize w2.drewN nq = w3 at *
            go_wp2_with (go_at_call 272; refine Calls.mono (rot32_any _ _ _ ?_) ?_; (focus (decide +kernel)); rintro e w' ⟨rfl, rfl⟩)
            go_roundw
            case rel => exact ⟨k + 1, rnd32 q kk z, Y2, by omega, by go_num, rfl, rfl, rfl, rfl, rfl, rfl, rfl, rfl, L2, Hrd2, R4, B4.out⟩
            case measure => simp [intOf]; omega
          · as_aux_lemma =>
            have hq1 : wr.cell? ⟨w.heap.size, k - 2, none⟩ = some (.int .u32 (Y.getD (k - 2) 0)) := by rw [hrY.out.cell, get_cs32 _ _ (by rw [hYl.out]; omega)]
            have hq2 : wr.cell? ⟨w.heap.size, k - 7, none⟩ = some (.int .u32 (Y.getD (k - 7) 0)) := by rw [hrY.out.cell, get_cs32 _ _ (by rw [hYl.out]; omega)]
            have hq3 : wr.cell? ⟨w.heap.size, k - 15, none⟩ = some (.int .u32 (Y.getD (k - 15) 0)) := by rw [hrY.out.cell, get_cs32 _ _ (by rw [hYl.out]; omega)]
            have hq4 : wr.cell? ⟨w.heap.size, k - 16, none⟩ = some (.int .u32 (Y.getD (k - 16) 0)) := by rw [hrY.out.cell, get_cs32 _ _ (by rw [hYl.out]; omega)]
            have Hrd2 := Lib.hid (rounds32_hi hrd.out h16)
            rw [show mixAt32 Y k = mix32 (Y.getD (k - 2) 0) (Y.getD (k - 7) 0) (Y.getD (k - 15) 0) (Y.getD (k - 16) 0) from rfl, Hkk.out] at Hrd2
            clear hbq
            generalize Y.getD (k - 2) 0 = y0 at *
            generalize Y.getD (k - 7) 0 = y1 at *
            generalize Y.getD (k - 15) 0 = y2 at *
            generalize Y.getD (k - 16) 0 = y3 at *
            go_wp2_with (go_at_call 272; refine Calls.mono (rot32_any _ _ _ ?_) ?_; (focus (decide +kernel)); rintro e w' ⟨rfl, rfl⟩)
            go_region
            generalize hz : (bits BinOp.xor IntKind.u32 (bits BinOp.xor IntKind.u32 (rot32 y0 (-17)) (rot32 y0 (-19))) (y0 / 1024) + y1 + bits BinOp.xor IntKind.u32 (bits BinOp.xor IntKind.u32 (rot32 y2 (-7)) (rot32 y2 (-18))) (y2 / 8) + y3) % 4294967296 = z
            have Hz := Lib.hid hz
            have R2 : Hid (Row ((wr.setCell ⟨w.heap.size, k, none⟩ (.int .u32 z)).drew) w.heap.size 380 (cs32 (Y.set k z))) := set32 hrY.out k z
            have B2 : Hid (Below w.heap.size w ((wr.setCell ⟨w.heap.size, k, none⟩ (.int .u32 z)).drew)) := (Hbq.out.setCell (Nat.le_refl _) _).drew
            have L2 : Hid ((Y.set k z).length = 64) := by show _ = _; rw [List.length_set]; exact hYl.out
            have E2 : Hid ((Y.set k z).getD k 0 = z) := by show _ = _; simp [List.getD, hYl.out, hlt]
            rw [show mix32 y0 y1 y2 y3 = z from hz] at Hrd2
            clear hz hq1 hq2 hq3 hq4 hkc hyk hfr hrY Hbq
            generalize (wr.setCell ⟨w.heap.size, k, none⟩ (.int .u32 z)).drew = w2 at *
            generalize hY2 : Y.set k z = Y2 at *
            have HY2 := Lib.hid hY2
            clear hY2
            have hkc : w2.cell? ⟨8, k, none⟩ = some (.int .u32 kk) := by
              rw [B2.out.cell Hkt.out.lt, Hkt.out.cell, get_cs32 _ _ (by rw [HK.out]; exact hlt), Hkk.out]
            have R3 : ∀ n, Hid (Row (w2.drewN n) w.heap.size 380 (cs32 Y2)) := fun n => row_drewN R2.out n
            have B3 : ∀ n, Hid (Below w.heap.size w (w2.drewN n)) := fun n => below_drewN B2.out n
            have hyk : w2.cell? ⟨w.heap.size, k, none⟩ = some (.int .u32 z) := by
              rw [R2.out.cell, get_cs32 _ _ (by rw [L2.out]; exact hlt), E2.out]
            go_wp2_with fail
            go_quiet ((go_at_call 272; exact Calls.quiet_of_same (rot32_q _ _ _ (by decide +kernel))))
            have R4 := R3 nq
            have B4 := B3 nq
            clear R3 B3 hkc hyk R2 B2
            generalize w2.drewN nq = w3 at *
            go_wp2_with (go_at_call 272; refine Calls.mono (rot32_any _ _ _ ?_) ?_; (focus (decide +kernel)); rintro e w' ⟨rfl, rfl⟩)
            go_roundw
            case rel => exact ⟨k + 1, rnd32 q kk z, Y2, by omega, by go_num, rfl, rfl, rfl, rfl, rfl, rfl, rfl, rfl, L2, Hrd2, R4, B4.out⟩
            case measure => simp [intOf]; omega
        · obtain rfl : k = 64 := by omega
          have HB := Lib.hid (hpv.out.below hbq)
          have Hle : Hid (64 ≤ (ps.drop (64 * j)).length) := by
            show _ ≤ _
            have := Hnj.out
            rw [List.length_drop]; omega
          have Hbq := Lib.hid hbq
          have Hn64 := Lib.hid (show 64 * (j + 1) ≤ ps.length by have := Hnj.out; omega)
          have Hbs := Lib.hid (show (add32 t q, Y) = blocks32 K ps (s, List.replicate 64 0) (j + 1) by simp only [blocks32, ← hbl0.out, ← hrd.out])
          have Hle2 := Lib.hid (hpv.out.lenOf)
          clear hbq
          go_wp2_with (refine wpl_from rfl _ _ 22 rfl 5 Tryz.underlying22 (by kernel_rfl) _ rfl _ HB.out _ _ 64 rfl rfl Hle.out ?_)
          intro v2 hv2
          have Hv2 : Hid (Bs w v2 (ps.drop (64 * (j + 1)))) := by
            have := hv2 w hpv.out
            (try rw [List.drop_drop] at this)
            rw [show 64 * j + 64 = 64 * (j + 1) by omega] at this
            exact this
          have Hlv := Lib.hid Hv2.out.lenOf
          clear hv2
          go_wp2_with fail
          go_roundw
          case rel => exact ⟨j + 1, add32 t q, Y, Hn64.out, rfl, rfl, rfl, rfl, rfl, rfl, rfl, rfl, hYl, Hbs, hrY, Hv2, Hbq.out⟩
          case measure =>
            show lenOf v2 < lenOf (.slice pp n cc)
            have e1 := Hlv.out
            have e2 := Hle2.out
            have e3 := Hle.out
            rw [List.length_drop] at e1 e2 e3
            omega
    · have hn0 : n = 0 := by have := Hm.out; have := Hnj.out; omega
      have Hn0 := Lib.hid hn0
      have hbr := Hbr.out
      have Rg := Hrow.out.below hbr hgl
      have a0 : wo.cell? ⟨g, 0, none⟩ = some (.int .u32 s.a) := by rw [Rg.cell]; rfl
      have a1 : wo.cell? ⟨g, 1, none⟩ = some (.int .u32 s.b) := by rw [Rg.cell]; rfl
      have a2 : wo.cell? ⟨g, 2, none⟩ = some (.int .u32 s.c) := by rw [Rg.cell]; rfl
      have a3 : wo.cell? ⟨g, 3, none⟩ = some (.int .u32 s.d) := by rw [Rg.cell]; rfl
      have a4 : wo.cell? ⟨g, 4, none⟩ = some (.int .u32 s.e) := by rw [Rg.cell]; rfl
      have a5 : wo.cell? ⟨g, 5, none⟩ = some (.int .u32 s.f) := by rw [Rg.cell]; rfl
      have a6 : wo.cell? ⟨g, 6, none⟩ = some (.int .u32 s.g) := by rw [Rg.cell]; rfl
      have a7 : wo.cell? ⟨g, 7, none⟩ = some (.int .u32 s.h) := by rw [Rg.cell]; rfl
      have f0 := Rg.unfrozen 0
      have f1 := Rg.unfrozen 1
      have f2 := Rg.unfrozen 2
      have f3 := Rg.unfrozen 3
      have f4 := Rg.unfrozen 4
      have f5 := Rg.unfrozen 5
      have f6 := Rg.unfrozen 6
      have f7 := Rg.unfrozen 7
      have hR := Lib.hid Rg
      have hlt2 : ¬ (64 : Int) ≤ n := by omega
      clear hbr Rg hn0
      go_wp2_with fail
      have Hfin : Hid (t = comp32 K ps s) := by
        show t = (blocks32 K ps (s, List.replicate 64 0) (ps.length / 64)).1
        have e : ps.length / 64 = j := by have := Hnj.out; have := Hn0.out; omega
        rw [e, ← hbl0.out]
      have HRow := row8_32 hR.out t
      have HBut := (But.of_below (g := g) Hbr.out).trans (but8_32 wo g t)
      rw [Hfin.out] at HRow HBut
      have HRow := Lib.hid HRow
      have HBut := Lib.hid HBut
      go_region
      go_wp2
      go_end0
      exact ⟨rfl, by rw [Hfin.out]; exact HRow.out, by rw [Hfin.out]; exact HBut.out⟩
end Go.Proofs.YtaemdppihpefnaaGreatDoor
