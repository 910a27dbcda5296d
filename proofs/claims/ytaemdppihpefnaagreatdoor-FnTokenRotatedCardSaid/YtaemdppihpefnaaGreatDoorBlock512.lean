/- The block function of SHA-512, whatever its table holds. -/
import Derived.Test.YtaemdppihpefnaaGreatDoorHashKit
import Derived.BigRegion
import Derived.StillTailTactics
import Derived.Outline
import Derived.IntWalk
import Derived.Deep.LoopGhost
namespace Go.Proofs.YtaemdppihpefnaaGreatDoor
open Go.RowKit
set_option linter.unusedVariables false

/-- Eight bytes, as a word. -/
def ld64 (y0 y1 y2 y3 y4 y5 y6 y7 : Int) : Int := bits BinOp.or IntKind.u64 (bits BinOp.or IntKind.u64 (bits BinOp.or IntKind.u64 (bits BinOp.or IntKind.u64 (bits BinOp.or IntKind.u64 (bits BinOp.or IntKind.u64 (bits BinOp.or IntKind.u64 (IntKind.u64.wrap (IntKind.u64.wrap y0 * 72057594037927936)) (IntKind.u64.wrap (IntKind.u64.wrap y1 * 281474976710656))) (IntKind.u64.wrap (IntKind.u64.wrap y2 * 1099511627776))) (IntKind.u64.wrap (IntKind.u64.wrap y3 * 4294967296))) (IntKind.u64.wrap (IntKind.u64.wrap y4 * 16777216))) (IntKind.u64.wrap (IntKind.u64.wrap y5 * 65536))) (IntKind.u64.wrap (IntKind.u64.wrap y6 * 256))) (IntKind.u64.wrap y7)
def ldAt64 (P : List Int) (k : Nat) : Int := ld64 (P.getD (k * 8) 0) (P.getD (k * 8 + 1) 0) (P.getD (k * 8 + 2) 0) (P.getD (k * 8 + 3) 0) (P.getD (k * 8 + 4) 0) (P.getD (k * 8 + 5) 0) (P.getD (k * 8 + 6) 0) (P.getD (k * 8 + 7) 0)
/-- A later word of the schedule. -/
def mix64 (v1 v7 v2 v16 : Int) : Int := IntKind.u64.wrap (IntKind.u64.wrap (IntKind.u64.wrap (bits BinOp.xor IntKind.u64 (bits BinOp.xor IntKind.u64 (rot64 v1 (-19)) (rot64 v1 (-61))) (v1 / 64) + v7) + bits BinOp.xor IntKind.u64 (bits BinOp.xor IntKind.u64 (rot64 v2 (-1)) (rot64 v2 (-8))) (v2 / 128)) + v16)

def mixAt64 (Y : List Int) (k : Nat) : Int := mix64 (Y.getD (k - 2) 0) (Y.getD (k - 7) 0) (Y.getD (k - 15) 0) (Y.getD (k - 16) 0)
def one64 (q : S8) (kk z : Int) : Int := IntKind.u64.wrap (IntKind.u64.wrap (IntKind.u64.wrap (IntKind.u64.wrap (q.h + bits BinOp.xor IntKind.u64 (bits BinOp.xor IntKind.u64 (rot64 q.e (-14)) (rot64 q.e (-18))) (rot64 q.e (-41))) + bits BinOp.xor IntKind.u64 (bits BinOp.and IntKind.u64 q.e q.f) (bits BinOp.and IntKind.u64 (bits BinOp.xor IntKind.u64 (if IntKind.u64.signed = true then -1 else IntKind.u64.max) q.e) q.g)) + kk) + z)
def two64 (q : S8) : Int := IntKind.u64.wrap (bits BinOp.xor IntKind.u64 (bits BinOp.xor IntKind.u64 (rot64 q.a (-28)) (rot64 q.a (-34))) (rot64 q.a (-39)) + bits BinOp.xor IntKind.u64 (bits BinOp.xor IntKind.u64 (bits BinOp.and IntKind.u64 q.a q.b) (bits BinOp.and IntKind.u64 q.a q.c)) (bits BinOp.and IntKind.u64 q.b q.c))
def rnd64 (q : S8) (kk z : Int) : S8 := ⟨IntKind.u64.wrap (one64 q kk z + two64 q), q.a, q.b, q.c, IntKind.u64.wrap (q.d + one64 q kk z), q.e, q.f, q.g⟩
/-- The words and the schedule behind k rounds. -/
def rounds64 (K P : List Int) (x : S8 × List Int) : Nat → S8 × List Int
  | 0 => x
  | k + 1 =>
    let y := rounds64 K P x k
    let z := if k < 16 then ldAt64 P k else mixAt64 y.2 k
    (rnd64 y.1 (K.getD k 0) z, y.2.set k z)
def add64 (s q : S8) : S8 := ⟨IntKind.u64.wrap (s.a + q.a), IntKind.u64.wrap (s.b + q.b), IntKind.u64.wrap (s.c + q.c), IntKind.u64.wrap (s.d + q.d), IntKind.u64.wrap (s.e + q.e), IntKind.u64.wrap (s.f + q.f), IntKind.u64.wrap (s.g + q.g), IntKind.u64.wrap (s.h + q.h)⟩
/-- The words and the schedule behind j blocks. -/
def blocks64 (K ps : List Int) (x : S8 × List Int) : Nat → S8 × List Int
  | 0 => x
  | j + 1 =>
    let y := blocks64 K ps x j
    let r := rounds64 K (ps.drop (128 * j)) y 80
    (add64 y.1 r.1, r.2)
/-- What the block function makes of eight words and whole blocks. -/
def comp64 (K ps : List Int) (s : S8) : S8 := (blocks64 K ps (s, List.replicate 80 0) (ps.length / 128)).1

theorem row8_64 {w : World} {g : Nat} {T : TypeId} {s : S8} {rest : List Value} (h : Row w g T (cs64 (words8 s) ++ rest)) (t : S8) :
    Row (((((((((w.setCell ⟨g, 0, none⟩ (.int .u64 t.a)).setCell ⟨g, 1, none⟩ (.int .u64 t.b)).setCell ⟨g, 2, none⟩ (.int .u64 t.c)).setCell ⟨g, 3, none⟩ (.int .u64 t.d)).setCell ⟨g, 4, none⟩ (.int .u64 t.e)).setCell ⟨g, 5, none⟩ (.int .u64 t.f)).setCell ⟨g, 6, none⟩ (.int .u64 t.g)).setCell ⟨g, 7, none⟩ (.int .u64 t.h)).drew) g T (cs64 (words8 t) ++ rest) :=
  set8 (x0 := .int .u64 s.a) (x1 := .int .u64 s.b) (x2 := .int .u64 s.c) (x3 := .int .u64 s.d) (x4 := .int .u64 s.e) (x5 := .int .u64 s.f) (x6 := .int .u64 s.g) (x7 := .int .u64 s.h) (rest := rest) h _ _ _ _ _ _ _ _
theorem but8_64 (w : World) (g : Nat) (t : S8) :
    But g w (((((((((w.setCell ⟨g, 0, none⟩ (.int .u64 t.a)).setCell ⟨g, 1, none⟩ (.int .u64 t.b)).setCell ⟨g, 2, none⟩ (.int .u64 t.c)).setCell ⟨g, 3, none⟩ (.int .u64 t.d)).setCell ⟨g, 4, none⟩ (.int .u64 t.e)).setCell ⟨g, 5, none⟩ (.int .u64 t.f)).setCell ⟨g, 6, none⟩ (.int .u64 t.g)).setCell ⟨g, 7, none⟩ (.int .u64 t.h)).drew) :=
  ((((((((But.of_only (Only.set w g 0 _)).trans (.of_only (Only.set _ g 1 _))).trans (.of_only (Only.set _ g 2 _))).trans (.of_only (Only.set _ g 3 _))).trans (.of_only (Only.set _ g 4 _))).trans (.of_only (Only.set _ g 5 _))).trans (.of_only (Only.set _ g 6 _))).trans (.of_only (Only.set _ g 7 _))).drew

theorem rounds64_lo {K P : List Int} {x : S8 × List Int} {k : Nat} {q : S8} {Y : List Int} (h : (q, Y) = rounds64 K P x k) (hk : k < 16) :
    (rnd64 q (K.getD k 0) (ldAt64 P k), Y.set k (ldAt64 P k)) = rounds64 K P x (k + 1) := by
  simp only [rounds64, ← h, if_pos hk]
theorem rounds64_hi {K P : List Int} {x : S8 × List Int} {k : Nat} {q : S8} {Y : List Int} (h : (q, Y) = rounds64 K P x k) (hk : ¬ k < 16) :
    (rnd64 q (K.getD k 0) (mixAt64 Y k), Y.set k (mixAt64 Y k)) = rounds64 K P x (k + 1) := by
  simp only [rounds64, ← h, if_neg hk]

set_option maxRecDepth 1000000 in
set_option maxHeartbeats 8000000 in
theorem block512 (K : List Int) (hK : K.length = 80) (g : Nat) (s : S8) (rest : List Value) (v : Value) (ps : List Int) (w : World)
    (hrow : Row w g 263 (cs64 (words8 s) ++ rest)) (hkt : Row w 9 385 (cs64 K)) (hp : Bs w v ps) (hm : ps.length % 128 = 0) (hbig : ps.length ≤ maxLen) :
    Calls Tryz.prog 283 #[.pointer (some ⟨g, 0, none⟩), v] w fun e w' => e = .returned (.tuple #[]) ∧ Row w' g 263 (cs64 (words8 (comp64 K ps s)) ++ rest) ∧ But g w w' := by
  have a0 : w.cell? ⟨g, 0, none⟩ = some (.int .u64 s.a) := by rw [hrow.cell]; rfl
  have a1 : w.cell? ⟨g, 1, none⟩ = some (.int .u64 s.b) := by rw [hrow.cell]; rfl
  have a2 : w.cell? ⟨g, 2, none⟩ = some (.int .u64 s.c) := by rw [hrow.cell]; rfl
  have a3 : w.cell? ⟨g, 3, none⟩ = some (.int .u64 s.d) := by rw [hrow.cell]; rfl
  have a4 : w.cell? ⟨g, 4, none⟩ = some (.int .u64 s.e) := by rw [hrow.cell]; rfl
  have a5 : w.cell? ⟨g, 5, none⟩ = some (.int .u64 s.f) := by rw [hrow.cell]; rfl
  have a6 : w.cell? ⟨g, 6, none⟩ = some (.int .u64 s.g) := by rw [hrow.cell]; rfl
  have a7 : w.cell? ⟨g, 7, none⟩ = some (.int .u64 s.h) := by rw [hrow.cell]; rfl
  have hgl := hrow.lt
  have Hrow := Lib.hid hrow
  have Hkt := Lib.hid hkt
  have Hp := Lib.hid hp
  have Hm := Lib.hid hm
  have HK := Lib.hid hK
  clear hrow hkt hp hm hK
  go_enter Tryz.func283, Tryz.ntmps283
  go_wp2_with fail
  go_quiet (fail)
  clear a0 a1 a2 a3 a4 a5 a6 a7
  go_wp2_with fail
  go_loopw [1, 5, 6, 7, 8, 9, 10, 11, 12] (fun pv x0 x1 x2 x3 x4 x5 x6 x7 wr => ∃ (j : Nat) (t : S8) (W : List Int), 128 * j ≤ ps.length ∧ x0 = .int .u64 t.a ∧ x1 = .int .u64 t.b ∧ x2 = .int .u64 t.c ∧ x3 = .int .u64 t.d ∧ x4 = .int .u64 t.e ∧ x5 = .int .u64 t.f ∧ x6 = .int .u64 t.g ∧ x7 = .int .u64 t.h ∧
    Hid (W.length = 80) ∧ Hid ((t, W) = blocks64 K ps (s, List.replicate 80 0) j) ∧ Hid (Row wr w.heap.size 385 (cs64 W)) ∧ Hid (Bs w pv (ps.drop (128 * j))) ∧ Below w.heap.size w wr) (fun pv _ _ _ _ _ _ _ _ _ => lenOf pv)
  case atStart =>
    exact ⟨0, s, List.replicate 80 0, by omega, rfl, rfl, rfl, rfl, rfl, rfl, rfl, rfl, List.length_replicate, rfl, row_start _ _ _ _ _ rfl, Hp, below_start _ _ _⟩
  case round =>
    obtain ⟨j, t, W, hj, rfl, rfl, rfl, rfl, rfl, rfl, rfl, rfl, hWl, hbl0, hrw, hpv, hbr⟩ := hrel
    obtain ⟨wo, rfl⟩ : ∃ wo : World, wo = wr := ⟨_, rfl⟩
    obtain ⟨pp, cc, rfl, hcc⟩ := id hpv.out
    obtain ⟨n, hn⟩ : ∃ n, (ps.drop (128 * j)).length = n := ⟨_, rfl⟩
    have hnj : n + 128 * j = ps.length := by rw [← hn, List.length_drop]; omega
    rw [hn] at hpv hcc ⊢
    obtain ⟨hcn, hcc⟩ := hcc
    have Hnj := Lib.hid hnj
    have Hbr := Lib.hid hbr
    clear hcc hnj hn hbr
    by_cases hlt : 128 ≤ n
    · have hge : (128 : Int) ≤ n := by omega
      go_wp2_with fail
      go_loopw [13, 14, 15, 16, 17, 18, 19, 20, 80] (fun x0 x1 x2 x3 x4 x5 x6 x7 i wq => ∃ (k : Nat) (q : S8) (Y : List Int), k ≤ 80 ∧ i = .int .i64 k ∧ x0 = .int .u64 q.a ∧ x1 = .int .u64 q.b ∧ x2 = .int .u64 q.c ∧ x3 = .int .u64 q.d ∧ x4 = .int .u64 q.e ∧ x5 = .int .u64 q.f ∧ x6 = .int .u64 q.g ∧ x7 = .int .u64 q.h ∧
        Hid (Y.length = 80) ∧ Hid ((q, Y) = rounds64 K (ps.drop (128 * j)) (t, W) k) ∧ Hid (Row wq w.heap.size 385 (cs64 Y)) ∧ Below w.heap.size w wq) (fun _ _ _ _ _ _ _ _ i _ => 80 - (intOf i).toNat)
      case atStart => exact ⟨0, t, W, by omega, rfl, rfl, rfl, rfl, rfl, rfl, rfl, rfl, rfl, hWl, rfl, hrw, Hbr.out⟩
      case round =>
        obtain ⟨k, q, Y, hk, rfl, rfl, rfl, rfl, rfl, rfl, rfl, rfl, rfl, hYl, hrd, hrY, hbq⟩ := hrel
        by_cases hlt : k < 80
        · obtain ⟨kk, hkk⟩ : ∃ kk, K.getD k 0 = kk := ⟨_, rfl⟩
          have hkc : wr.cell? ⟨9, k, none⟩ = some (.int .u64 kk) := by
            rw [hbq.cell Hkt.out.lt, Hkt.out.cell, get_cs64 _ _ (by rw [HK.out]; exact hlt), hkk]
          have hfr := hrY.out.unfrozen k
          have hyk : wr.cell? ⟨w.heap.size, k, none⟩ = some (.int .u64 (Y.getD k 0)) := by
            rw [hrY.out.cell, get_cs64 _ _ (by rw [hYl.out]; exact hlt)]
          have Hkk := Lib.hid hkk
          clear hkk
          have Hbq := Lib.hid hbq
          by_cases h16 : k < 16
          · as_aux_lemma =>
            obtain ⟨b, o, rfl, hcell⟩ := Bs.at hpv.out (by omega)
            have hc0 := hcell (k * 8) (by omega)
            have hc1 := hcell (k * 8 + 1) (by omega)
            have hc2 := hcell (k * 8 + 2) (by omega)
            have hc3 := hcell (k * 8 + 3) (by omega)
            have hc4 := hcell (k * 8 + 4) (by omega)
            have hc5 := hcell (k * 8 + 5) (by omega)
            have hc6 := hcell (k * 8 + 6) (by omega)
            have hc7 := hcell (k * 8 + 7) (by omega)
            have hbl := World.block_lt_of_cell? w _ hc0
            rw [← hbq.cell (p := ⟨b, o + k * 8, none⟩) hbl] at hc0
            rw [← hbq.cell (p := ⟨b, o + (k * 8 + 1), none⟩) hbl] at hc1
            rw [← hbq.cell (p := ⟨b, o + (k * 8 + 2), none⟩) hbl] at hc2
            rw [← hbq.cell (p := ⟨b, o + (k * 8 + 3), none⟩) hbl] at hc3
            rw [← hbq.cell (p := ⟨b, o + (k * 8 + 4), none⟩) hbl] at hc4
            rw [← hbq.cell (p := ⟨b, o + (k * 8 + 5), none⟩) hbl] at hc5
            rw [← hbq.cell (p := ⟨b, o + (k * 8 + 6), none⟩) hbl] at hc6
            rw [← hbq.cell (p := ⟨b, o + (k * 8 + 7), none⟩) hbl] at hc7
            have Hrd2 := Lib.hid (rounds64_lo hrd.out h16)
            rw [show ldAt64 (ps.drop (128 * j)) k = ld64 ((ps.drop (128 * j)).getD (k * 8) 0) ((ps.drop (128 * j)).getD (k * 8 + 1) 0) ((ps.drop (128 * j)).getD (k * 8 + 2) 0) ((ps.drop (128 * j)).getD (k * 8 + 3) 0) ((ps.drop (128 * j)).getD (k * 8 + 4) 0) ((ps.drop (128 * j)).getD (k * 8 + 5) 0) ((ps.drop (128 * j)).getD (k * 8 + 6) 0) ((ps.drop (128 * j)).getD (k * 8 + 7) 0) from rfl, Hkk.out] at Hrd2
            clear hcell hbq
            generalize (ps.drop (128 * j)).getD (k * 8) 0 = y0 at *
            generalize (ps.drop (128 * j)).getD (k * 8 + 1) 0 = y1 at *
            generalize (ps.drop (128 * j)).getD (k * 8 + 2) 0 = y2 at *
            generalize (ps.drop (128 * j)).getD (k * 8 + 3) 0 = y3 at *
            generalize (ps.drop (128 * j)).getD (k * 8 + 4) 0 = y4 at *
            generalize (ps.drop (128 * j)).getD (k * 8 + 5) 0 = y5 at *
            generalize (ps.drop (128 * j)).getD (k * 8 + 6) 0 = y6 at *
            generalize (ps.drop (128 * j)).getD (k * 8 + 7) 0 = y7 at *
            obtain ⟨jj, hjj⟩ : ∃ jj, k * 8 = jj := ⟨_, rfl⟩
            rw [hjj] at hc0 hc1 hc2 hc3 hc4 hc5 hc6 hc7
            have hkj : (k : Int) * 8 = jj := by omega
            have hj0 : (jj : Int) < n := by omega
            have hw1 : IntKind.i64.wrap ((jj : Int) + 1) = (jj : Int) + 1 := IntWalk.i64_in _ (by omega)
            have hl1 : (jj : Int) + 1 < n := by omega
            have hz1 : (0 : Int) ≤ (jj : Int) + 1 := by omega
            have ht1 : ((jj : Int) + 1).toNat = jj + 1 := by omega
            have hw2 : IntKind.i64.wrap ((jj : Int) + 2) = (jj : Int) + 2 := IntWalk.i64_in _ (by omega)
            have hl2 : (jj : Int) + 2 < n := by omega
            have hz2 : (0 : Int) ≤ (jj : Int) + 2 := by omega
            have ht2 : ((jj : Int) + 2).toNat = jj + 2 := by omega
            have hw3 : IntKind.i64.wrap ((jj : Int) + 3) = (jj : Int) + 3 := IntWalk.i64_in _ (by omega)
            have hl3 : (jj : Int) + 3 < n := by omega
            have hz3 : (0 : Int) ≤ (jj : Int) + 3 := by omega
            have ht3 : ((jj : Int) + 3).toNat = jj + 3 := by omega
            have hw4 : IntKind.i64.wrap ((jj : Int) + 4) = (jj : Int) + 4 := IntWalk.i64_in _ (by omega)
            have hl4 : (jj : Int) + 4 < n := by omega
            have hz4 : (0 : Int) ≤ (jj : Int) + 4 := by omega
            have ht4 : ((jj : Int) + 4).toNat = jj + 4 := by omega
            have hw5 : IntKind.i64.wrap ((jj : Int) + 5) = (jj : Int) + 5 := IntWalk.i64_in _ (by omega)
            have hl5 : (jj : Int) + 5 < n := by omega
            have hz5 : (0 : Int) ≤ (jj : Int) + 5 := by omega
            have ht5 : ((jj : Int) + 5).toNat = jj + 5 := by omega
            have hw6 : IntKind.i64.wrap ((jj : Int) + 6) = (jj : Int) + 6 := IntWalk.i64_in _ (by omega)
            have hl6 : (jj : Int) + 6 < n := by omega
            have hz6 : (0 : Int) ≤ (jj : Int) + 6 := by omega
            have ht6 : ((jj : Int) + 6).toNat = jj + 6 := by omega
            have hw7 : IntKind.i64.wrap ((jj : Int) + 7) = (jj : Int) + 7 := IntWalk.i64_in _ (by omega)
            have hl7 : (jj : Int) + 7 < n := by omega
            have hz7 : (0 : Int) ≤ (jj : Int) + 7 := by omega
            have ht7 : ((jj : Int) + 7).toNat = jj + 7 := by omega
            clear hjj
            go_wp2_with fail
            go_still_tail 63, (by kernel_rfl)
            change wpList _ _ _ _ _ wr.drew
            have hcw : wr.drew.cell? ⟨w.heap.size, k, none⟩ = some (.int .u64 (Y.getD k 0)) := hyk
            have hfw : wr.drew.frozen? ⟨w.heap.size, k, none⟩ = false := hfr
            go_wp2_with fail
            generalize hz : bits BinOp.or IntKind.u64 (bits BinOp.or IntKind.u64 (bits BinOp.or IntKind.u64 (bits BinOp.or IntKind.u64 (bits BinOp.or IntKind.u64 (bits BinOp.or IntKind.u64 (bits BinOp.or IntKind.u64 (IntKind.u64.wrap (IntKind.u64.wrap y0 * 72057594037927936)) (IntKind.u64.wrap (IntKind.u64.wrap y1 * 281474976710656))) (IntKind.u64.wrap (IntKind.u64.wrap y2 * 1099511627776))) (IntKind.u64.wrap (IntKind.u64.wrap y3 * 4294967296))) (IntKind.u64.wrap (IntKind.u64.wrap y4 * 16777216))) (IntKind.u64.wrap (IntKind.u64.wrap y5 * 65536))) (IntKind.u64.wrap (IntKind.u64.wrap y6 * 256))) (IntKind.u64.wrap y7) = z
            have Hz := Lib.hid hz
            have R2 : Hid (Row ((wr.setCell ⟨w.heap.size, k, none⟩ (.int .u64 z)).drew) w.heap.size 385 (cs64 (Y.set k z))) := set64 hrY.out k z
            have B2 : Hid (Below w.heap.size w ((wr.setCell ⟨w.heap.size, k, none⟩ (.int .u64 z)).drew)) := (Hbq.out.setCell (Nat.le_refl _) _).drew
            have L2 : Hid ((Y.set k z).length = 80) := by show _ = _; rw [List.length_set]; exact hYl.out
            have E2 : Hid ((Y.set k z).getD k 0 = z) := by show _ = _; simp [List.getD, hYl.out, hlt]
            rw [show ld64 y0 y1 y2 y3 y4 y5 y6 y7 = z from hz] at Hrd2
            clear hz hc0 hc1 hc2 hc3 hc4 hc5 hc6 hc7 hcw hfw hkj hj0 hw1 hl1 hz1 ht1 hw2 hl2 hz2 ht2 hw3 hl3 hz3 ht3 hw4 hl4 hz4 ht4 hw5 hl5 hz5 ht5 hw6 hl6 hz6 ht6 hw7 hl7 hz7 ht7 hkc hyk hfr hrY Hbq
            generalize (wr.setCell ⟨w.heap.size, k, none⟩ (.int .u64 z)).drew = w2 at *
            generalize hY2 : Y.set k z = Y2 at *
            have HY2 := Lib.hid hY2
            clear hY2
            have hkc : w2.cell? ⟨9, k, none⟩ = some (.int .u64 kk) := by
              rw [B2.out.cell Hkt.out.lt, Hkt.out.cell, get_cs64 _ _ (by rw [HK.out]; exact hlt), Hkk.out]
            have R3 : ∀ n, Hid (Row (w2.drewN n) w.heap.size 385 (cs64 Y2)) := fun n => row_drewN R2.out n
            have B3 : ∀ n, Hid (Below w.heap.size w (w2.drewN n)) := fun n => below_drewN B2.out n
            have hyk : w2.cell? ⟨w.heap.size, k, none⟩ = some (.int .u64 z) := by
              rw [R2.out.cell, get_cs64 _ _ (by rw [L2.out]; exact hlt), E2.out]
            go_wp2_with fail
            go_quiet ((go_at_call 284; exact Calls.quiet_of_same (rot64_q _ _ _ (by decide +kernel))))
            have R4 := R3 nq
            have B4 := B3 nq
            clear R3 B3 hkc hyk R2 B2
            generalize w2.drewN nq = w3 at *
            go_wp2_with (go_at_call 284; refine Calls.mono (rot64_any _ _ _ ?_) ?_; (focus (decide +kernel)); rintro e w' ⟨rfl, rfl⟩)
            go_roundw
            case rel => exact ⟨k + 1, rnd64 q kk z, Y2, by omega, by go_num, rfl, rfl, rfl, rfl, rfl, rfl, rfl, rfl, L2, Hrd2, R4, B4.out⟩
            case measure => simp [intOf]; omega
          · as_aux_lemma =>
            have hq1 : wr.cell? ⟨w.heap.size, k - 2, none⟩ = some (.int .u64 (Y.getD (k - 2) 0)) := by rw [hrY.out.cell, get_cs64 _ _ (by rw [hYl.out]; omega)]
            have hq2 : wr.cell? ⟨w.heap.size, k - 7, none⟩ = some (.int .u64 (Y.getD (k - 7) 0)) := by rw [hrY.out.cell, get_cs64 _ _ (by rw [hYl.out]; omega)]
            have hq3 : wr.cell? ⟨w.heap.size, k - 15, none⟩ = some (.int .u64 (Y.getD (k - 15) 0)) := by rw [hrY.out.cell, get_cs64 _ _ (by rw [hYl.out]; omega)]
            have hq4 : wr.cell? ⟨w.heap.size, k - 16, none⟩ = some (.int .u64 (Y.getD (k - 16) 0)) := by rw [hrY.out.cell, get_cs64 _ _ (by rw [hYl.out]; omega)]
            have Hrd2 := Lib.hid (rounds64_hi hrd.out h16)
            rw [show mixAt64 Y k = mix64 (Y.getD (k - 2) 0) (Y.getD (k - 7) 0) (Y.getD (k - 15) 0) (Y.getD (k - 16) 0) from rfl, Hkk.out] at Hrd2
            clear hbq
            generalize Y.getD (k - 2) 0 = y0 at *
            generalize Y.getD (k - 7) 0 = y1 at *
            generalize Y.getD (k - 15) 0 = y2 at *
            generalize Y.getD (k - 16) 0 = y3 at *
            go_wp2_with (go_at_call 284; refine Calls.mono (rot64_any _ _ _ ?_) ?_; (focus (decide +kernel)); rintro e w' ⟨rfl, rfl⟩)
            have hw7 : IntKind.i64.wrap ((k : Int) - 7) = (k : Int) - 7 := IntWalk.i64_in _ (by omega)
            have hz7 : (0 : Int) ≤ (k : Int) - 7 := by omega
            have hl7 : (k : Int) - 7 < 80 := by omega
            have hg7 : (7 : Int) ≤ k := by omega
            have hk7 : (k : Int) < 80 + 7 := by omega
            have ht7 : ((k : Int) - 7).toNat = k - 7 := by omega
            have hw16 : IntKind.i64.wrap ((k : Int) - 16) = (k : Int) - 16 := IntWalk.i64_in _ (by omega)
            have hz16 : (0 : Int) ≤ (k : Int) - 16 := by omega
            have hl16 : (k : Int) - 16 < 80 := by omega
            have hg16 : (16 : Int) ≤ k := by omega
            have hk16 : (k : Int) < 80 + 16 := by omega
            have ht16 : ((k : Int) - 16).toNat = k - 16 := by omega
            go_still_tail 15, (by kernel_rfl)
            change wpList _ _ _ _ _ wr.drew
            have hcw : wr.drew.cell? ⟨w.heap.size, k, none⟩ = some (.int .u64 (Y.getD k 0)) := hyk
            have hfw : wr.drew.frozen? ⟨w.heap.size, k, none⟩ = false := hfr
            go_wp2_with fail
            generalize hz : IntKind.u64.wrap (IntKind.u64.wrap (IntKind.u64.wrap (bits BinOp.xor IntKind.u64 (bits BinOp.xor IntKind.u64 (rot64 y0 (-19)) (rot64 y0 (-61))) (y0 / 64) + y1) + bits BinOp.xor IntKind.u64 (bits BinOp.xor IntKind.u64 (rot64 y2 (-1)) (rot64 y2 (-8))) (y2 / 128)) + y3)
 = z
            have Hz := Lib.hid hz
            have R2 : Hid (Row ((wr.setCell ⟨w.heap.size, k, none⟩ (.int .u64 z)).drew) w.heap.size 385 (cs64 (Y.set k z))) := set64 hrY.out k z
            have B2 : Hid (Below w.heap.size w ((wr.setCell ⟨w.heap.size, k, none⟩ (.int .u64 z)).drew)) := (Hbq.out.setCell (Nat.le_refl _) _).drew
            have L2 : Hid ((Y.set k z).length = 80) := by show _ = _; rw [List.length_set]; exact hYl.out
            have E2 : Hid ((Y.set k z).getD k 0 = z) := by show _ = _; simp [List.getD, hYl.out, hlt]
            rw [show mix64 y0 y1 y2 y3 = z from hz] at Hrd2
            clear hz hq1 hq2 hq3 hq4 hcw hfw hw7 hl7 hz7 ht7 hg7 hk7 hw16 hl16 hz16 ht16 hg16 hk16 hkc hyk hfr hrY Hbq
            generalize (wr.setCell ⟨w.heap.size, k, none⟩ (.int .u64 z)).drew = w2 at *
            generalize hY2 : Y.set k z = Y2 at *
            have HY2 := Lib.hid hY2
            clear hY2
            have hkc : w2.cell? ⟨9, k, none⟩ = some (.int .u64 kk) := by
              rw [B2.out.cell Hkt.out.lt, Hkt.out.cell, get_cs64 _ _ (by rw [HK.out]; exact hlt), Hkk.out]
            have R3 : ∀ n, Hid (Row (w2.drewN n) w.heap.size 385 (cs64 Y2)) := fun n => row_drewN R2.out n
            have B3 : ∀ n, Hid (Below w.heap.size w (w2.drewN n)) := fun n => below_drewN B2.out n
            have hyk : w2.cell? ⟨w.heap.size, k, none⟩ = some (.int .u64 z) := by
              rw [R2.out.cell, get_cs64 _ _ (by rw [L2.out]; exact hlt), E2.out]
            go_wp2_with fail
            go_quiet ((go_at_call 284; exact Calls.quiet_of_same (rot64_q _ _ _ (by decide +kernel))))
            have R4 := R3 nq
            have B4 := B3 nq
            clear R3 B3 hkc hyk R2 B2
            generalize w2.drewN nq = w3 at *
            go_wp2_with (go_at_call 284; refine Calls.mono (rot64_any _ _ _ ?_) ?_; (focus (decide +kernel)); rintro e w' ⟨rfl, rfl⟩)
            go_roundw
            case rel => exact ⟨k + 1, rnd64 q kk z, Y2, by omega, by go_num, rfl, rfl, rfl, rfl, rfl, rfl, rfl, rfl, L2, Hrd2, R4, B4.out⟩
            case measure => simp [intOf]; omega
        · obtain rfl : k = 80 := by omega
          have HB := Lib.hid (hpv.out.below hbq)
          have Hle : Hid (128 ≤ (ps.drop (128 * j)).length) := by
            show _ ≤ _
            have := Hnj.out
            rw [List.length_drop]; omega
          have Hbq := Lib.hid hbq
          have Hn64 := Lib.hid (show 128 * (j + 1) ≤ ps.length by have := Hnj.out; omega)
          have Hbs := Lib.hid (show (add64 t q, Y) = blocks64 K ps (s, List.replicate 80 0) (j + 1) by simp only [blocks64, ← hbl0.out, ← hrd.out])
          have Hle2 := Lib.hid (hpv.out.lenOf)
          clear hbq
          go_wp2_with (refine wpl_from rfl _ _ 22 rfl 5 Tryz.underlying22 (by kernel_rfl) _ rfl _ HB.out _ _ 128 rfl rfl Hle.out ?_)
          intro v2 hv2
          have Hv2 : Hid (Bs w v2 (ps.drop (128 * (j + 1)))) := by
            have := hv2 w hpv.out
            (try rw [List.drop_drop] at this)
            rw [show 128 * j + 128 = 128 * (j + 1) by omega] at this
            exact this
          have Hlv := Lib.hid Hv2.out.lenOf
          clear hv2
          go_wp2_with fail
          go_roundw
          case rel => exact ⟨j + 1, add64 t q, Y, Hn64.out, rfl, rfl, rfl, rfl, rfl, rfl, rfl, rfl, hYl, Hbs, hrY, Hv2, Hbq.out⟩
          case measure =>
            show lenOf v2 < lenOf (.slice pp n cc)
            have e1 := Hlv.out
            have e2 := Hle2.out
            have e3 := Hle.out
            rw [List.length_drop] at e1 e2 e3
            omega
    · have hn0 : n = 0 := by have := Hm.out; have := Hnj.out; omega
      have Hn0 := Lib.hid hn0
      have hbr := Hbr.out
      have Rg := Hrow.out.below hbr hgl
      have a0 : wo.cell? ⟨g, 0, none⟩ = some (.int .u64 s.a) := by rw [Rg.cell]; rfl
      have a1 : wo.cell? ⟨g, 1, none⟩ = some (.int .u64 s.b) := by rw [Rg.cell]; rfl
      have a2 : wo.cell? ⟨g, 2, none⟩ = some (.int .u64 s.c) := by rw [Rg.cell]; rfl
      have a3 : wo.cell? ⟨g, 3, none⟩ = some (.int .u64 s.d) := by rw [Rg.cell]; rfl
      have a4 : wo.cell? ⟨g, 4, none⟩ = some (.int .u64 s.e) := by rw [Rg.cell]; rfl
      have a5 : wo.cell? ⟨g, 5, none⟩ = some (.int .u64 s.f) := by rw [Rg.cell]; rfl
      have a6 : wo.cell? ⟨g, 6, none⟩ = some (.int .u64 s.g) := by rw [Rg.cell]; rfl
      have a7 : wo.cell? ⟨g, 7, none⟩ = some (.int .u64 s.h) := by rw [Rg.cell]; rfl
      have f0 := Rg.unfrozen 0
      have f1 := Rg.unfrozen 1
      have f2 := Rg.unfrozen 2
      have f3 := Rg.unfrozen 3
      have f4 := Rg.unfrozen 4
      have f5 := Rg.unfrozen 5
      have f6 := Rg.unfrozen 6
      have f7 := Rg.unfrozen 7
      have hR := Lib.hid Rg
      have hlt2 : ¬ (128 : Int) ≤ n := by omega
      clear hbr Rg hn0
      go_wp2_with fail
      have Hfin : Hid (t = comp64 K ps s) := by
        show t = (blocks64 K ps (s, List.replicate 80 0) (ps.length / 128)).1
        have e : ps.length / 128 = j := by have := Hnj.out; have := Hn0.out; omega
        rw [e, ← hbl0.out]
      have HRow := row8_64 hR.out t
      have HBut := (But.of_below (g := g) Hbr.out).trans (but8_64 wo g t)
      rw [Hfin.out] at HRow HBut
      have HRow := Lib.hid HRow
      have HBut := Lib.hid HBut
      go_region
      go_wp2
      go_end0
      exact ⟨rfl, by rw [Hfin.out]; exact HRow.out, by rw [Hfin.out]; exact HBut.out⟩
end Go.Proofs.YtaemdppihpefnaaGreatDoor
