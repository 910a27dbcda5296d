/- hmac.New, Write, Sum, over a hash of whatever kind. -/
import Derived.Test.YtaemdppihpefnaaGreatDoorHashKit
import Derived.Deep.RegionHeld3
import Derived.Deep.DeepCutAuto
import Derived.Deep.LoopGhost
import Derived.StillTailTactics
import Derived.Laws.EntriesVeiled
import Derived.Recover
import Derived.Outline
namespace Go.Proofs.YtaemdppihpefnaaGreatDoor
open Go.RowKit
set_option linter.unusedVariables false

theorem cs8_rep (n : Nat) : cs8 (List.replicate n 0) = List.replicate n (.int .u8 0) := by simp [cs8]

/-- The first k bytes turned by c. -/
def xorL (c : Int) (x : List Int) (k : Nat) : List Int := (x.take k).map (fun z => bits .xor .u8 z c) ++ x.drop k
theorem xorL_zero (c : Int) (x : List Int) : xorL c x 0 = x := by simp [xorL]
theorem xorL_len (c : Int) (x : List Int) (k : Nat) : (xorL c x k).length = x.length := by simp [xorL]; omega
theorem xorL_at (c : Int) (x : List Int) (k : Nat) (h : k < x.length) : (cs8 (xorL c x k))[k]? = some (.int .u8 (x.getD k 0)) := by
  rw [get_cs8 _ _ (by rw [xorL_len]; exact h)]
  congr 2
  simp only [xorL, List.getD_eq_getElem?_getD]
  rw [List.getElem?_append_right (by simp; omega)]
  simp [List.getElem?_drop, Nat.min_eq_left (Nat.le_of_lt h)]
theorem xorL_step (c : Int) (x : List Int) (k : Nat) (h : k < x.length) : (cs8 (xorL c x k)).set k (.int .u8 (bits .xor .u8 (x.getD k 0) c)) = cs8 (xorL c x (k + 1)) := by
  have e1 : x.drop k = x.getD k 0 :: x.drop (k + 1) := by
    rw [List.drop_eq_getElem_cons h]; simp [List.getD, h]
  have e2 : x.take (k + 1) = x.take k ++ [x.getD k 0] := by
    rw [List.take_succ_eq_append_getElem h]; simp [List.getD, h]
  unfold xorL cs8
  rw [e1, e2, List.map_append, List.map_append, List.map_append, List.map_append, List.set_append_right _ _ (by simp; omega)]
  simp [Nat.min_eq_left (Nat.le_of_lt h)]
/-- The key as it is used: a long one by its sum; the outer hash has written it. -/
def keyOf (H : HK) (key : List Int) : List Int := if H.block < key.length then H.sum (H.write H.init key) else key
def outerOf (H : HK) (key : List Int) : H.St := if H.block < key.length then H.write H.init key else H.init
def kzOf (H : HK) (key : List Int) : List Int := splice (List.replicate H.block 0) 0 (keyOf H key)
def innerOf (H : HK) (key : List Int) : H.St := H.write H.init (xorL 54 (kzOf H key) H.block)
def opadOf (H : HK) (key : List Int) : List Int := xorL 92 (kzOf H key) H.block
/-- An HMAC lies at block B. -/
structure Hmd (H : HK) (B : Nat) (so si : H.St) (op : List Int) (w : World) : Prop where
  row : ∃ ip kl, Row w B 293 [.slice (some ⟨B + 6, 0, none⟩) H.block H.block, ip, .iface H.T (.pointer (some ⟨B + 2, 0, none⟩)), .iface H.T (.pointer (some ⟨B + 3, 0, none⟩)), .bool false, .bool false, kl]
  d : Row w (B + 2) H.cT (H.cells so)
  e : Row w (B + 3) H.cT (H.cells si)
  o : Row w (B + 6) 5 (cs8 op)
  len : op.length = H.block
  oko : H.ok so
  oki : H.ok si
  size : B + 7 ≤ w.heap.size
structure KeyMid (H : HK) (B : Nat) (key : List Int) (w : World) (v1 : Value) (wx : World) : Prop where
  row : Row wx B 293 [.slice (some ⟨B + 6, 0, none⟩) H.block H.block, .slice (some ⟨B + 5, 0, none⟩) H.block H.block, .iface H.T (.pointer (some ⟨B + 2, 0, none⟩)), .iface H.T (.pointer (some ⟨B + 3, 0, none⟩)), .bool false, .bool false, .int .i64 key.length]
  v : Row wx (B + 1) 253 [.pointer (some ⟨B, 0, none⟩)]
  d : Row wx (B + 2) H.cT (H.cells (outerOf H key))
  e : Row wx (B + 3) H.cT (H.cells H.init)
  i : Row wx (B + 5) 5 (cs8 (List.replicate H.block 0))
  o : Row wx (B + 6) 5 (cs8 (List.replicate H.block 0))
  bs : Bs wx v1 (keyOf H key)
  off5 : Off (B + 5) v1
  off6 : Off (B + 6) v1
  below : Below B w wx
  size : B + 7 ≤ wx.heap.size

set_option maxRecDepth 100000 in
set_option maxHeartbeats 4000000 in
theorem hmacNew (H : HK) (v : Value) (key : List Int) (w : World) (hk : Bs w v key) (hb : key.length ≤ 65536) (hkt : Row w H.kg H.kT H.kC) :
    Calls Tryz.prog 118 #[.func (.func H.fNew) #[] #[], v] w fun e w' => e = .returned (.pointer (some ⟨w.heap.size, 0, none⟩)) ∧ Hmd H w.heap.size (outerOf H key) (innerOf H key) (opadOf H key) w' ∧ Below w.heap.size w w' := by
  obtain ⟨vp, vc, rfl, _, _, _⟩ := id hk
  have Hk := Lib.hid hk
  have Hkt := Lib.hid hkt
  clear hk hkt
  have hmf : ∀ (fn : Fn) (first cap : Array Value) (w : World), (Instr.makeFunc fn first cap).run Tryz.prog w = .ok (.func fn first cap) w := fun _ _ _ _ => rfl
  have eN := H.eNew
  go_enter Tryz.func118, Tryz.ntmps118
  go_upto_region 2 with (fail)
  obtain ⟨w1, hw1⟩ : ∃ w1 : World, w1 = (w.alloc (.cells #[.slice none 0 0, .slice none 0 0, .nilIface, .nilIface, .bool false, .bool false, .int .i64 key.length] 293)).alloc (.cells #[.pointer (some ⟨w.heap.size, 0, none⟩)] 253) := ⟨_, rfl⟩
  rw [← hw1]
  have R1 : Row w1 w.heap.size 293 [.slice none 0 0, .slice none 0 0, .nilIface, .nilIface, .bool false, .bool false, .int .i64 key.length] := by
    rw [hw1]
    exact Row.allocd (Row.new w _ _ _ rfl) _
  have V1 : Row w1 (w.heap.size + 1) 253 [.pointer (some ⟨w.heap.size, 0, none⟩)] := by
    rw [hw1]
    exact Row.new _ _ _ _ (by simp)
  have B1 : Below w.heap.size w w1 := by rw [hw1]; exact ((Below.refl _ _).alloc (Nat.le_refl _) _).alloc (by simp) _
  have S1 : w1.heap.size = w.heap.size + 2 := by rw [hw1]; simp
  clear hw1
  generalize hB : w.heap.size = B at *
  have HB := Lib.hid hB
  clear hB
  have c0 : w1.cell? ⟨B + 1, 0, none⟩ = some (.pointer (some ⟨B, 0, none⟩)) := by rw [V1.cell]; rfl
  have c2 : w1.cell? ⟨B, 2, none⟩ = some .nilIface := by rw [R1.cell]; rfl
  have f2 := R1.unfrozen 2
  have hl1 : B + 1 < w1.heap.size := by omega
  have hl0 : B < w1.heap.size := by omega
  have R1 := Lib.hid R1
  have V1 := Lib.hid V1
  have B1 := Lib.hid B1
  have S1 := Lib.hid S1
  go_region_held3 (fun w' => w'.cell? ⟨B + 1, 0, none⟩ = some (.pointer (some ⟨B, 0, none⟩))) (first | go_keep | exact (b.cell (p := ⟨B + 1, 0, none⟩) hl1).trans c0)
    (first | (refine (H.cnew _).mono ?_; rintro e w' ⟨rfl, r, b, s⟩; have c2' := (b.cell (p := ⟨B, 2, none⟩) hl0).trans c2; have f2' := (b.frozen (p := ⟨B, 2, none⟩) hl0).trans f2))
  have R2 : Row (w'.setCell ⟨B, 2, none⟩ (.iface H.T (.pointer (some ⟨B + 2, 0, none⟩)))) B 293 [.slice none 0 0, .slice none 0 0, .iface H.T (.pointer (some ⟨B + 2, 0, none⟩)), .nilIface, .bool false, .bool false, .int .i64 key.length] :=
    ((row_drewd R1.out).below b hl0).set 2 _
  have V2 : Row (w'.setCell ⟨B, 2, none⟩ (.iface H.T (.pointer (some ⟨B + 2, 0, none⟩)))) (B + 1) 253 [.pointer (some ⟨B, 0, none⟩)] :=
    ((row_drewd V1.out).below b hl1).only (Only.set w' B 2 _) (by omega)
  have hG1 : w1.drew.heap.size = B + 2 := S1.out
  have D2 : Row (w'.setCell ⟨B, 2, none⟩ (.iface H.T (.pointer (some ⟨B + 2, 0, none⟩)))) (B + 2) H.cT (H.cells H.init) := by
    have r := r
    rw [hG1] at r
    exact r.only (Only.set w' B 2 _) (by omega)
  have B2 : Below B w (w'.setCell ⟨B, 2, none⟩ (.iface H.T (.pointer (some ⟨B + 2, 0, none⟩)))) := (below_drewd B1.out).trans ((b.mono (by omega)).trans ((Only.set w' B 2 _).below (Nat.le_refl _)))
  have S2 : (w'.setCell ⟨B, 2, none⟩ (.iface H.T (.pointer (some ⟨B + 2, 0, none⟩)))).heap.size = B + 3 := by
    rw [(Only.set w' B 2 _).size, s, hG1]
  have R2 := Lib.hid R2
  have V2 := Lib.hid V2
  have D2 := Lib.hid D2
  have B2 := Lib.hid B2
  have S2 := Lib.hid S2
  clear r b s c2' f2' hG1 c0 c2 f2 hl0 hl1
  generalize w'.setCell ⟨B, 2, none⟩ (.iface H.T (.pointer (some ⟨B + 2, 0, none⟩))) = w2 at *
  go_wp2_with fail
  have c0 : w2.cell? ⟨B + 1, 0, none⟩ = some (.pointer (some ⟨B, 0, none⟩)) := by rw [V2.out.cell]; rfl
  have c3 : w2.cell? ⟨B, 3, none⟩ = some .nilIface := by rw [R2.out.cell]; rfl
  have f3 := R2.out.unfrozen 3
  have hs2 := S2.out
  have hl1 : B + 1 < w2.heap.size := by omega
  have hl0 : B < w2.heap.size := by omega
  have hl2 : B + 2 < w2.heap.size := by omega
  go_region_held3 (fun w' => w'.cell? ⟨B + 1, 0, none⟩ = some (.pointer (some ⟨B, 0, none⟩))) (first | go_keep | exact (b.cell (p := ⟨B + 1, 0, none⟩) hl1).trans c0)
    (first | (refine (H.cnew _).mono ?_; rintro e w' ⟨rfl, r, b, s⟩; have c3' := (b.cell (p := ⟨B, 3, none⟩) hl0).trans c3; have f3' := (b.frozen (p := ⟨B, 3, none⟩) hl0).trans f3))
  have R3 : Row (w'.setCell ⟨B, 3, none⟩ (.iface H.T (.pointer (some ⟨B + 3, 0, none⟩)))) B 293 [.slice none 0 0, .slice none 0 0, .iface H.T (.pointer (some ⟨B + 2, 0, none⟩)), .iface H.T (.pointer (some ⟨B + 3, 0, none⟩)), .bool false, .bool false, .int .i64 key.length] :=
    ((row_drewd R2.out).below b hl0).set 3 _
  have V3 : Row (w'.setCell ⟨B, 3, none⟩ (.iface H.T (.pointer (some ⟨B + 3, 0, none⟩)))) (B + 1) 253 [.pointer (some ⟨B, 0, none⟩)] :=
    ((row_drewd V2.out).below b hl1).only (Only.set w' B 3 _) (by omega)
  have hG1 : w2.drew.heap.size = B + 3 := S2.out
  have E3 : Row (w'.setCell ⟨B, 3, none⟩ (.iface H.T (.pointer (some ⟨B + 3, 0, none⟩)))) (B + 3) H.cT (H.cells H.init) := by
    have r := r
    rw [hG1] at r
    exact r.only (Only.set w' B 3 _) (by omega)
  have D3 : Row (w'.setCell ⟨B, 3, none⟩ (.iface H.T (.pointer (some ⟨B + 3, 0, none⟩)))) (B + 2) H.cT (H.cells H.init) :=
    ((row_drewd D2.out).below b hl2).only (Only.set w' B 3 _) (by omega)
  have B3 : Below B w (w'.setCell ⟨B, 3, none⟩ (.iface H.T (.pointer (some ⟨B + 3, 0, none⟩)))) := (below_drewd B2.out).trans ((b.mono (by omega)).trans ((Only.set w' B 3 _).below (Nat.le_refl _)))
  have S3 : (w'.setCell ⟨B, 3, none⟩ (.iface H.T (.pointer (some ⟨B + 3, 0, none⟩)))).heap.size = B + 4 := by
    rw [(Only.set w' B 3 _).size, s, hG1]
  have R3 := Lib.hid R3
  have V3 := Lib.hid V3
  have D3 := Lib.hid D3
  have E3 := Lib.hid E3
  have B3 := Lib.hid B3
  have S3 := Lib.hid S3
  clear r b s c3' f3' hG1 c0 c3 f3 hl0 hl1 hl2 hs2 R2 V2 D2 B2 S2
  generalize w'.setCell ⟨B, 3, none⟩ (.iface H.T (.pointer (some ⟨B + 3, 0, none⟩))) = w3 at *
  obtain ⟨w4, hw4⟩ : ∃ w4 : World, w4 = w3.alloc (.cells #[.bool true] 4) := ⟨_, rfl⟩
  have R4 := Lib.hid (show Row w4 B _ _ by rw [hw4]; exact R3.out.allocd _)
  have V4 := Lib.hid (show Row w4 (B + 1) _ _ by rw [hw4]; exact V3.out.allocd _)
  have D4 := Lib.hid (show Row w4 (B + 2) _ _ by rw [hw4]; exact D3.out.allocd _)
  have E4 := Lib.hid (show Row w4 (B + 3) _ _ by rw [hw4]; exact E3.out.allocd _)
  have U4 := Lib.hid (show Row w4 (B + 4) 4 [.bool true] by rw [hw4]; exact Row.new w3 _ _ _ S3.out.symm)
  have B4 := Lib.hid (show Below B w w4 by rw [hw4]; exact B3.out.trans (((Below.refl _ _).alloc (Nat.le_refl _) _).mono (by have := S3.out; omega)))
  have S4 := Lib.hid (show w4.heap.size = B + 5 by rw [hw4]; simp; exact S3.out)
  have hz3 := S3.out
  have Un := Lib.hid (uniq H.T (B + 1) (B + 4) B (B + 2) (B + 3) w4 (by omega) (by rw [V4.out.cell]; rfl) (by rw [R4.out.cell]; rfl) (by rw [R4.out.cell]; rfl) (fun wx hx => H.cmp (B + 2) (B + 3) _ _ wx (by omega) (show wx.heap[B + 2]? = _ by rw [hx]; exact D4.out) (show wx.heap[B + 3]? = _ by rw [hx]; exact E4.out)))
  clear R3 V3 D3 E3 B3 S3
  go_upto_region 5 with (fail)
  rw [← hw4]
  clear hw4 hz3
  go_wp2_with fail
  refine Un.out.mono ?_
  rintro e w5 ⟨rfl, nd, hw5⟩
  have R5 := Lib.hid (show Row w5 B _ _ by rw [hw5]; exact R4.out)
  have V5 := Lib.hid (show Row w5 (B + 1) _ _ by rw [hw5]; exact V4.out)
  have D5 := Lib.hid (show Row w5 (B + 2) _ _ by rw [hw5]; exact D4.out)
  have E5 := Lib.hid (show Row w5 (B + 3) _ _ by rw [hw5]; exact E4.out)
  have B5 := Lib.hid (show Below B w w5 by rw [hw5]; exact below_drewN B4.out nd)
  have S5 := Lib.hid (show w5.heap.size = B + 5 by rw [hw5]; exact S4.out)
  have u5 : w5.cell? ⟨B + 4, 0, none⟩ = some (.bool true) := by rw [hw5, show (w4.drewN nd).cell? ⟨B + 4, 0, none⟩ = w4.cell? ⟨B + 4, 0, none⟩ from rfl, U4.out.cell]; rfl
  have dn : ∀ (b : Bool) (wx : World), (Op.unary .not (.bool b)).run Tryz.prog wx = .ok (.bool (!b)) wx := fun _ _ => rfl
  have c0 : w5.cell? ⟨B + 1, 0, none⟩ = some (.pointer (some ⟨B, 0, none⟩)) := by rw [V5.out.cell]; rfl
  have c3 : w5.cell? ⟨B, 3, none⟩ = some (.iface H.T (.pointer (some ⟨B + 3, 0, none⟩))) := by rw [R5.out.cell]; rfl
  clear hw5 R4 V4 D4 E4 U4 B4 S4 Un
  have mB := H.mBlock
  have eB := H.eBlock
  go_wp2_with (refine (H.cblock _ _).mono ?_; rintro e w' ⟨rfl, rfl⟩)
  clear mB eB c3 u5
  have hbl := H.block_le
  have hbp := H.block_pos
  have hmk := run_make_row0 (P := Tryz.prog) 22 5 (.int .u8 0) 1 Tryz.underlying22 (by kernel_rfl) rfl .i64 .i64 H.block (by omega) (by unfold maxLen; omega)
  have c1 : w5.cell? ⟨B, 1, none⟩ = some (.slice none 0 0) := by rw [R5.out.cell]; rfl
  have f1 := R5.out.unfrozen 1
  have hz5 := S5.out
  go_region_held3 (fun w' => w'.cell? ⟨B + 1, 0, none⟩ = some (.pointer (some ⟨B, 0, none⟩))) (go_keep) (fail)
  obtain ⟨w6, hw6⟩ : ∃ w6 : World, w6 = ((w5.setCell ⟨B, 1, none⟩ (.slice (some ⟨B + 5, 0, none⟩) H.block H.block)).alloc (.cells (Array.replicate H.block (.int .u8 0)) 5)).drew := ⟨_, rfl⟩
  rw [← hw6]
  have R6 := Lib.hid (show Row w6 B 293 [.slice none 0 0, .slice (some ⟨B + 5, 0, none⟩) H.block H.block, .iface H.T (.pointer (some ⟨B + 2, 0, none⟩)), .iface H.T (.pointer (some ⟨B + 3, 0, none⟩)), .bool false, .bool false, .int .i64 key.length] by rw [hw6]; exact row_drewd (Row.allocd (R5.out.set 1 _) _))
  have V6 := Lib.hid (show Row w6 (B + 1) _ _ by rw [hw6]; exact row_drewd (Row.allocd (V5.out.only (Only.set _ _ _ _) (by omega)) _))
  have D6 := Lib.hid (show Row w6 (B + 2) _ _ by rw [hw6]; exact row_drewd (Row.allocd (D5.out.only (Only.set _ _ _ _) (by omega)) _))
  have E6 := Lib.hid (show Row w6 (B + 3) _ _ by rw [hw6]; exact row_drewd (Row.allocd (E5.out.only (Only.set _ _ _ _) (by omega)) _))
  have I6 := Lib.hid (show Row w6 (B + 5) 5 (cs8 (List.replicate H.block 0)) by rw [hw6, cs8_rep]; exact row_drewd (by rw [show (Array.replicate H.block (Value.int .u8 0)) = (List.replicate H.block (Value.int .u8 0)).toArray by simp]; exact Row.new _ _ _ _ (by rw [(Only.set _ _ _ _).size]; exact S5.out.symm)))
  have B6 := Lib.hid (show Below B w w6 by rw [hw6]; exact below_drewd ((B5.out.trans ((Only.set _ _ _ _).below (Nat.le_refl _))).trans (((Below.refl _ _).alloc (Nat.le_refl _) _).mono (by rw [(Only.set _ _ _ _).size, S5.out]; omega))))
  have S6 := Lib.hid (show w6.heap.size = B + 6 by rw [hw6]; show (World.alloc _ _).heap.size = _; simp [(Only.set _ _ _ _).size]; exact S5.out)
  clear hw6 hz5 R5 V5 D5 E5 B5 S5 c0 c1 f1
  have c0 : w6.cell? ⟨B + 1, 0, none⟩ = some (.pointer (some ⟨B, 0, none⟩)) := by rw [V6.out.cell]; rfl
  have c1 : w6.cell? ⟨B, 0, none⟩ = some (.slice none 0 0) := by rw [R6.out.cell]; rfl
  have f1 := R6.out.unfrozen 0
  have hz6 := S6.out
  go_wp2_with fail
  go_region_held3 (fun w' => w'.cell? ⟨B + 1, 0, none⟩ = some (.pointer (some ⟨B, 0, none⟩))) (go_keep) (fail)
  obtain ⟨w7, hw7⟩ : ∃ w7 : World, w7 = ((w6.setCell ⟨B, 0, none⟩ (.slice (some ⟨B + 6, 0, none⟩) H.block H.block)).alloc (.cells (Array.replicate H.block (.int .u8 0)) 5)).drew := ⟨_, rfl⟩
  rw [← hw7]
  have R7 := Lib.hid (show Row w7 B 293 [.slice (some ⟨B + 6, 0, none⟩) H.block H.block, .slice (some ⟨B + 5, 0, none⟩) H.block H.block, .iface H.T (.pointer (some ⟨B + 2, 0, none⟩)), .iface H.T (.pointer (some ⟨B + 3, 0, none⟩)), .bool false, .bool false, .int .i64 key.length] by rw [hw7]; exact row_drewd (Row.allocd (R6.out.set 0 _) _))
  have V7 := Lib.hid (show Row w7 (B + 1) _ _ by rw [hw7]; exact row_drewd (Row.allocd (V6.out.only (Only.set _ _ _ _) (by omega)) _))
  have D7 := Lib.hid (show Row w7 (B + 2) _ _ by rw [hw7]; exact row_drewd (Row.allocd (D6.out.only (Only.set _ _ _ _) (by omega)) _))
  have E7 := Lib.hid (show Row w7 (B + 3) _ _ by rw [hw7]; exact row_drewd (Row.allocd (E6.out.only (Only.set _ _ _ _) (by omega)) _))
  have O7 := Lib.hid (show Row w7 (B + 6) 5 (cs8 (List.replicate H.block 0)) by rw [hw7, cs8_rep]; exact row_drewd (by rw [show (Array.replicate H.block (Value.int .u8 0)) = (List.replicate H.block (Value.int .u8 0)).toArray by simp]; exact Row.new _ _ _ _ (by rw [(Only.set _ _ _ _).size]; exact S6.out.symm)))
  have I7 := Lib.hid (show Row w7 _ _ _ by rw [hw7]; exact row_drewd (Row.allocd (I6.out.only (Only.set _ _ _ _) (by omega)) _))
  have B7 := Lib.hid (show Below B w w7 by rw [hw7]; exact below_drewd ((B6.out.trans ((Only.set _ _ _ _).below (Nat.le_refl _))).trans (((Below.refl _ _).alloc (Nat.le_refl _) _).mono (by rw [(Only.set _ _ _ _).size, S6.out]; omega))))
  have S7 := Lib.hid (show w7.heap.size = B + 7 by rw [hw7]; show (World.alloc _ _).heap.size = _; simp [(Only.set _ _ _ _).size]; exact S6.out)
  clear hw7 hz6 R6 V6 D6 E6 B6 S6 I6 c0 c1 f1 hmk
  have HR := Lib.hid R7
  have B7k := Lib.hid (Hk.out.below (by rw [HB.out]; exact B7.out))
  have K7 := Lib.hid (Hkt.out.below B7.out (by rw [← HB.out]; exact Hkt.out.lt))
  have Hkg : Hid (H.kg < B) := Lib.hid (by rw [← HB.out]; exact Hkt.out.lt)
  go_upto_if 47 with (fail)
  go_cut [1] (fun v1 wx => KeyMid H B key w v1 wx)
  case first =>
    by_cases hbig : H.block < key.length
    · have hbig' : (H.block : Int) < key.length := by omega
      have c0 : w7.cell? ⟨B + 1, 0, none⟩ = some (.pointer (some ⟨B, 0, none⟩)) := by rw [V7.out.cell]; rfl
      have c2 : w7.cell? ⟨B, 2, none⟩ = some (.iface H.T (.pointer (some ⟨B + 2, 0, none⟩))) := by rw [R7.out.cell]; rfl
      have wo := H.write_ok H.init key H.init_ok hb (by rw [H.init_n]; omega)
      have hdb : B + 2 < w7.heap.size := by rw [S7.out]; omega
      have G1 : Hid (Calls Tryz.prog H.fWrite #[.pointer (some ⟨B + 2, 0, none⟩), .slice vp key.length vc] w7 fun e w' => e = .returned (.tuple #[.int .i64 key.length, .nilIface]) ∧ Hid (Row w' (B + 2) H.cT (H.cells (H.write H.init key))) ∧ Hid (But (B + 2) w7 w') ∧ w'.cell? ⟨B + 1, 0, none⟩ = some (.pointer (some ⟨B, 0, none⟩)) ∧ w'.cell? ⟨B, 2, none⟩ = some (.iface H.T (.pointer (some ⟨B + 2, 0, none⟩)))) :=
        Lib.hid ((H.cwrite (B + 2) H.init _ key w7 H.init_ok D7.out K7.out (by have := Hkg.out; omega) B7k.out (Off.of_old Hk.out (by rw [HB.out]; omega)) hb (by rw [H.init_n]; omega)).mono
          fun e w' ⟨he, hr, hbt⟩ => ⟨he, Lib.hid hr, Lib.hid hbt, by rw [(V7.out.but hbt (by omega)).cell]; rfl, by rw [(R7.out.but hbt (by omega)).cell]; rfl⟩)
      have G2 : Hid (∀ w8, Row w8 (B + 2) H.cT (H.cells (H.write H.init key)) → But (B + 2) w7 w8 → Calls Tryz.prog H.fSum #[.pointer (some ⟨B + 2, 0, none⟩), .slice none 0 0] w8 fun e w' => ∃ v', e = .returned v' ∧ w'.ownsRow w8.heap.size 5 1 v' H.size (cs8 (H.sum (H.write H.init key))) ∧ Below w8.heap.size w8 w') := by
        refine Lib.hid fun w8 r8 b8 => ?_
        refine (H.csum (B + 2) _ w8 w8.heap.size _ wo.1 (by rw [wo.2, H.init_n]; omega) r8 (K7.out.but b8 (by have := Hkg.out; omega)) (World.ownsRow_nil _ _ _ _) (Nat.le_refl _)).mono ?_
        intro e w' ⟨v', he, ho, hg⟩
        exact ⟨v', he, ho, ⟨hg.os, hg.tape, hg.output, hg.size, fun k hk => hg.block k hk (by simp [Value.ownBlock])⟩⟩
      have mW := H.mWrite
      have eW := H.eWrite
      have mS := H.mSum
      have eS := H.eSum
      have wo := Lib.hid wo
      go_wp2_with (first | (refine G1.out.mono ?_; rintro e w8 ⟨rfl, r8, b8, c0', c2'⟩) | (refine (G2.out _ r8.out b8.out).mono ?_; rintro e w9 ⟨v9, rfl, own9, b9⟩; have own9 := Lib.hid own9; have b9 := Lib.hid b9))
      go_meet
      have hs8 : B + 7 ≤ w8.heap.size := by have := b8.out.size; rw [S7.out] at this; exact this
      refine ⟨?_, ?_, ?_, ?_, ?_, ?_, ?_, Off.of_own own9.out (by omega), Off.of_own own9.out (by omega), ?_, by have := b9.out.size; omega⟩
      · exact (R7.out.but b8.out (by omega)).below b9.out (by omega)
      · exact (V7.out.but b8.out (by omega)).below b9.out (by omega)
      · unfold outerOf; rw [if_pos hbig]; exact r8.out.below b9.out (by omega)
      · exact (E7.out.but b8.out (by omega)).below b9.out (by omega)
      · exact (I7.out.but b8.out (by omega)).below b9.out (by omega)
      · exact (O7.out.but b8.out (by omega)).below b9.out (by omega)
      · unfold keyOf; rw [if_pos hbig]; exact Bs.own own9.out
      · exact B7.out.trans ((b8.out.below (by omega) (by omega)).trans (b9.out.mono (by omega)))
    · have hbig' : ¬ (H.block : Int) < key.length := by omega
      go_wp2_with fail
      go_meet
      refine ⟨R7.out, V7.out, ?_, E7.out, I7.out, O7.out, ?_, Off.of_old Hk.out (by rw [HB.out]; omega), Off.of_old Hk.out (by rw [HB.out]; omega), B7.out, by rw [S7.out]; omega⟩
      · unfold outerOf; rw [if_neg hbig]; exact D7.out
      · unfold keyOf; rw [if_neg hbig]; exact B7k.out
  case rest =>
    obtain ⟨mr, mv, md, me, mi, mo, mb, m5, m6, mw, ms⟩ := hcut
    have hkl : (keyOf H key).length ≤ H.block := by
      unfold keyOf
      split
      · rw [H.sum_len]; exact H.size_block
      · omega
    obtain ⟨kk, hkk⟩ : ∃ kk, keyOf H key = kk := ⟨_, rfl⟩
    rw [hkk] at mb hkl
    have Hkk := Lib.hid hkk
    obtain ⟨kp, kc, rfl, _, _, _⟩ := id mb
    have c0 : wc.cell? ⟨B + 1, 0, none⟩ = some (.pointer (some ⟨B, 0, none⟩)) := by rw [mv.cell]; rfl
    have c1 : wc.cell? ⟨B, 1, none⟩ = some (.slice (some ⟨B + 5, 0, none⟩) H.block H.block) := by rw [mr.cell]; rfl
    have Mr := Lib.hid mr
    have Mv := Lib.hid mv
    have Md := Lib.hid md
    have Me := Lib.hid me
    have Mi := Lib.hid mi
    have Mo := Lib.hid mo
    have Mb := Lib.hid mb
    have M5 := Lib.hid m5
    have M6 := Lib.hid m6
    have Mw := Lib.hid mw
    have hcn : Hid ((cs8 kk).length = Nat.min kk.length H.block) := Lib.hid (by rw [length_cs8]; show _ = min _ _; omega)
    have hpos : ∀ (wx : World) (g : Nat), Bs wx (.slice kp kk.length kc) kk → 0 < (cs8 kk).length → (some (⟨g, 0, none⟩ : Addr)) = some ⟨g, 0, none⟩ ∧ ∃ ad, kp = some ad ∧ ∀ j v, (cs8 kk)[j]? = some v → wx.cell? (ad.add j) = some v := by
      intro wx g hb hp
      refine ⟨rfl, ?_⟩
      obtain ⟨b, o, rfl, _⟩ := hb.at (by rw [length_cs8] at hp; exact hp)
      exact ⟨_, rfl, hb.cells.2⟩
    have Hpos := Lib.hid hpos
    have hfit : Hid (0 + (cs8 kk).length ≤ (cs8 (List.replicate H.block 0)).length) := Lib.hid (by rw [length_cs8, length_cs8, List.length_replicate]; omega)
    have A1 : Hid (∀ w1, Row w1 (B + 5) 5 (splice (cs8 (List.replicate H.block 0)) 0 (cs8 kk)) → Only (B + 5) wc w1 → w1.cell? ⟨B + 1, 0, none⟩ = some (.pointer (some ⟨B, 0, none⟩)) ∧ w1.cell? ⟨B, 0, none⟩ = some (.slice (some ⟨B + 6, 0, none⟩) H.block H.block) ∧ Hid (Row w1 (B + 6) 5 (cs8 (List.replicate H.block 0))) ∧ Hid (Bs w1 (.slice kp kk.length kc) kk) ∧ Hid (Row w1 (B + 5) 5 (cs8 (splice (List.replicate H.block 0) 0 kk)))) :=
      Lib.hid fun w1 r o => ⟨by rw [(Mv.out.only o (by omega)).cell]; rfl, by rw [(Mr.out.only o (by omega)).cell]; rfl, Lib.hid (Mo.out.only o (by omega)), Lib.hid (Mb.out.but M5.out (But.of_only o)), Lib.hid (by rw [← cs8_splice]; exact r)⟩
    clear mr mv md me mi mo mb m5 m6 mw hkk hpos
    go_wp2_with (first | (refine wpl_copy rfl (.tmp 62) (.tmp 63) 22 22 rfl 5 Tryz.underlying22 (by kernel_rfl) (some ⟨B + 5, 0, none⟩) kp H.block H.block kk.length kc rfl rfl (B + 5) 0 _ _ Mi.out (cs8 kk) hcn.out (Hpos.out wc (B + 5) Mb.out) hfit.out (one_cs8 _) ?_; intro w1 r1 o1; obtain ⟨c0', c1', rO, rB, rI⟩ := A1.out w1 r1 o1; have o1 := Lib.hid o1; clear r1) | (refine wpl_copy rfl (.tmp 68) (.tmp 69) 22 22 rfl 5 Tryz.underlying22 (by kernel_rfl) (some ⟨B + 6, 0, none⟩) kp H.block H.block kk.length kc rfl rfl (B + 6) 0 _ _ rO.out (cs8 kk) hcn.out (Hpos.out w1 (B + 6) rB.out) hfit.out (one_cs8 _) ?_; intro w2 r2 o2; have c02 := (show w2.cell? ⟨B + 1, 0, none⟩ = some (.pointer (some ⟨B, 0, none⟩)) by rw [((Mv.out.only o1.out (by omega)).only o2 (by omega)).cell]; rfl); have c12 := (show w2.cell? ⟨B, 1, none⟩ = some (.slice (some ⟨B + 5, 0, none⟩) H.block H.block) by rw [((Mr.out.only o1.out (by omega)).only o2 (by omega)).cell]; rfl); have r2 := Lib.hid r2; have o2 := Lib.hid o2))
    obtain ⟨kz, hkz⟩ : ∃ kz, splice (List.replicate H.block 0) 0 kk = kz := ⟨_, rfl⟩
    have hkzl : kz.length = H.block := by
      rw [← hkz, length_splice _ _ _ (by rw [List.length_replicate]; omega), List.length_replicate]
    have Ri := Lib.hid (show Row w2 (B + 5) 5 (cs8 (xorL 54 kz 0)) by rw [xorL_zero, ← hkz]; exact rI.out.only o2.out (by omega))
    have Ro := Lib.hid (show Row w2 (B + 6) 5 (cs8 kz) by rw [← hkz, ← cs8_splice]; exact r2.out)
    have Kz := Lib.hid hkz
    have Kl := Lib.hid hkzl
    have Rr := Lib.hid ((Mr.out.only o1.out (by omega)).only o2.out (by omega))
    have Rv := Lib.hid ((Mv.out.only o1.out (by omega)).only o2.out (by omega))
    have Rd := Lib.hid ((Md.out.only o1.out (by omega)).only o2.out (by omega))
    have Re := Lib.hid ((Me.out.only o1.out (by omega)).only o2.out (by omega))
    have Rw := Lib.hid ((Mw.out.trans (o1.out.below (by omega))).trans (o2.out.below (by omega)))
    have Rs : B + 7 ≤ w2.heap.size := by rw [o2.out.size, o1.out.size]; exact ms
    clear hkz hkzl c0 c1 c0' c1' c02 c12 rO rB rI r2 o1 o2 Mr Mv Md Me Mi Mo Mb M5 M6 Mw A1 Hpos hcn hfit
    go_loopw [8, 76] (fun _ idx wr => ∃ k : Nat, k ≤ H.block ∧ idx = .int .i64 k ∧ Hid (Row wr (B + 5) 5 (cs8 (xorL 54 kz k))) ∧ Hid (Only (B + 5) w2 wr)) (fun _ idx _ => H.block - (intOf idx).toNat)
    case atStart => exact ⟨0, by omega, rfl, Ri, Lib.hid ⟨rfl, rfl, rfl, rfl, fun _ _ => rfl⟩⟩
    case round =>
      obtain ⟨k, hk, rfl, Hr, Ho⟩ := hrel
      have c0 : wr.cell? ⟨B + 1, 0, none⟩ = some (.pointer (some ⟨B, 0, none⟩)) := by rw [(Rv.out.only Ho.out (by omega)).cell]; rfl
      by_cases hlt : k < H.block
      · have c1 : wr.cell? ⟨B, 1, none⟩ = some (.slice (some ⟨B + 5, 0, none⟩) H.block H.block) := by rw [(Rr.out.only Ho.out (by omega)).cell]; rfl
        have ck : wr.cell? ⟨B + 5, k, none⟩ = some (.int .u8 (kz.getD k 0)) := by
          rw [Hr.out.cell]; exact xorL_at _ _ _ (by rw [Kl.out]; exact hlt)
        have fk := Hr.out.unfrozen k
        have hki : (k : Int) < H.block := by omega
        go_wp2
        go_roundw
        case rel =>
          refine ⟨k + 1, by omega, by go_num, ?_, Lib.hid (Ho.out.thn (Only.set _ _ _ _))⟩
          have h := Hr.out.set k (.int .u8 (bits .xor .u8 (kz.getD k 0) 54))
          rw [xorL_step _ _ _ (by rw [Kl.out]; exact hlt)] at h
          exact Lib.hid h
        case measure => simp [intOf]; omega
      · obtain rfl : k = H.block := by omega
        obtain ⟨wo, rfl⟩ : ∃ wo : World, wo = wr := ⟨_, rfl⟩
        have c1 : wo.cell? ⟨B, 0, none⟩ = some (.slice (some ⟨B + 6, 0, none⟩) H.block H.block) := by rw [(Rr.out.only Ho.out (by omega)).cell]; rfl
        go_wp2_with fail
        have Ro2 := Lib.hid (show Row wo (B + 6) 5 (cs8 (xorL 92 kz 0)) by rw [xorL_zero]; exact Ro.out.only Ho.out (by omega))
        have Hr1 := Lib.hid Hr
        have Rr2 := Lib.hid (Rr.out.only Ho.out (by omega))
        have Rv2 := Lib.hid (Rv.out.only Ho.out (by omega))
        have Rd2 := Lib.hid (Rd.out.only Ho.out (by omega))
        have Re2 := Lib.hid (Re.out.only Ho.out (by omega))
        have Rw2 := Lib.hid (Rw.out.trans (Ho.out.below (by omega)))
        have Rs2 : B + 7 ≤ wo.heap.size := by rw [Ho.out.size]; exact Rs
        clear c0 c1 Rr Rv Rd Re Rw Ro Ri
        go_loopw [9, 94] (fun _ idx wr => ∃ k : Nat, k ≤ H.block ∧ idx = .int .i64 k ∧ Hid (Row wr (B + 6) 5 (cs8 (xorL 92 kz k))) ∧ Hid (Only (B + 6) wo wr)) (fun _ idx _ => H.block - (intOf idx).toNat)
        case atStart => exact ⟨0, by omega, rfl, Ro2, Lib.hid ⟨rfl, rfl, rfl, rfl, fun _ _ => rfl⟩⟩
        case round =>
          obtain ⟨k, hk, rfl, Hr2, Ho2⟩ := hrel
          have c0 : wr.cell? ⟨B + 1, 0, none⟩ = some (.pointer (some ⟨B, 0, none⟩)) := by rw [(Rv2.out.only Ho2.out (by omega)).cell]; rfl
          by_cases hlt : k < H.block
          · have c1 : wr.cell? ⟨B, 0, none⟩ = some (.slice (some ⟨B + 6, 0, none⟩) H.block H.block) := by rw [(Rr2.out.only Ho2.out (by omega)).cell]; rfl
            have ck : wr.cell? ⟨B + 6, k, none⟩ = some (.int .u8 (kz.getD k 0)) := by
              rw [Hr2.out.cell]; exact xorL_at _ _ _ (by rw [Kl.out]; exact hlt)
            have fk := Hr2.out.unfrozen k
            have hki : (k : Int) < H.block := by omega
            go_wp2
            go_roundw
            case rel =>
              refine ⟨k + 1, by omega, by go_num, ?_, Lib.hid (Ho2.out.thn (Only.set _ _ _ _))⟩
              have h := Hr2.out.set k (.int .u8 (bits .xor .u8 (kz.getD k 0) 92))
              rw [xorL_step _ _ _ (by rw [Kl.out]; exact hlt)] at h
              exact Lib.hid h
            case measure => simp [intOf]; omega
          · obtain rfl : k = H.block := by omega
            obtain ⟨wp, rfl⟩ : ∃ wp : World, wp = wr := ⟨_, rfl⟩
            have c1 : wp.cell? ⟨B, 1, none⟩ = some (.slice (some ⟨B + 5, 0, none⟩) H.block H.block) := by rw [(Rr2.out.only Ho2.out (by omega)).cell]; rfl
            have c3 : wp.cell? ⟨B, 3, none⟩ = some (.iface H.T (.pointer (some ⟨B + 3, 0, none⟩))) := by rw [(Rr2.out.only Ho2.out (by omega)).cell]; rfl
            have hxl : (xorL 54 kz H.block).length = H.block := by rw [xorL_len, Kl.out]
            have Bi : Bs wp.drew (.slice (some ⟨B + 5, 0, none⟩) H.block H.block) (xorL 54 kz H.block) := by
              have h := Bs.row (row_drewd (Hr1.out.out.only Ho2.out (by omega))) 0 H.block (xorL 54 kz H.block) (by rw [hxl]; omega) (fun i hi => by rw [Nat.zero_add, get_cs8 _ _ hi])
              rw [hxl] at h
              exact h
            have Rr3 := Rr2.out.only Ho2.out (by omega)
            have Rv3 := Rv2.out.only Ho2.out (by omega)
            have Rd3 := Rd2.out.only Ho2.out (by omega)
            have Rs3 : B + 7 ≤ wp.drew.heap.size := by show _ ≤ wp.heap.size; rw [Ho2.out.size]; exact Rs2
            have hkz : kz = kzOf H key := by rw [← Kz.out, ← Hkk.out]; rfl
            have G : Hid (Calls Tryz.prog H.fWrite #[.pointer (some ⟨B + 3, 0, none⟩), .slice (some ⟨B + 5, 0, none⟩) H.block H.block] wp.drew fun e w' => e = .returned (.tuple #[.int .i64 H.block, .nilIface]) ∧ Hid (Hmd H B (outerOf H key) (innerOf H key) (opadOf H key) w') ∧ Hid (Below B w w') ∧ w'.cell? ⟨B + 1, 0, none⟩ = some (.pointer (some ⟨B, 0, none⟩))) := by
              have hB3 : Below B w wp.drew := below_drewd (Rw2.out.trans (Ho2.out.below (by omega)))
              have wi := H.write_ok H.init (xorL 54 kz H.block) H.init_ok (by rw [hxl]; omega) (by rw [H.init_n, hxl]; omega)
              have h := H.cwrite (B + 3) H.init _ (xorL 54 kz H.block) wp.drew H.init_ok (row_drewd (Re2.out.only Ho2.out (by omega))) (Hkt.out.below hB3 Hkg.out) (by have := Hkg.out; omega) Bi (by intro a n c h _; cases h; show B + 5 ≠ B + 3; omega) (by rw [hxl]; omega) (by rw [H.init_n, hxl]; omega)
              refine Lib.hid (h.mono fun e w' ⟨he, hr, hbt⟩ => ?_)
              rw [hxl] at he
              refine ⟨he, Lib.hid ⟨⟨_, _, (row_drewd Rr3).but hbt (by omega)⟩, (row_drewd Rd3).but hbt (by omega), ?_, ?_, ?_, ?_, ?_, by have := hbt.size; omega⟩, Lib.hid (hB3.trans (hbt.below (by omega) (by omega))), ?_⟩
              · unfold innerOf; rw [← hkz]; exact hr
              · unfold opadOf; rw [← hkz]; exact (row_drewd Hr2.out).but hbt (by omega)
              · unfold opadOf; rw [← hkz, xorL_len, Kl.out]
              · unfold outerOf
                split
                · exact (H.write_ok H.init key H.init_ok hb (by rw [H.init_n]; omega)).1
                · exact H.init_ok
              · unfold innerOf; rw [← hkz]; exact wi.1
              · rw [((row_drewd Rv3).but hbt (by omega)).cell]; rfl
            have mW := H.mWrite
            have eW := H.eWrite
            have nW := H.nilAheadW
            clear Bi Rr3 Rv3 Rd3 hkz hxl
            go_wp2_with fail
            go_still_tail 10, (by kernel_rfl)
            change wpList _ _ _ _ _ wp.drew
            generalize wp.drew = wq at *
            go_wp2_with (refine G.out.mono ?_; rintro e w8 ⟨rfl, hm, b8, c8⟩)
            go_ret
            rw [HB.out]
            exact ⟨rfl, hm.out, b8.out⟩
end Go.Proofs.YtaemdppihpefnaaGreatDoor
