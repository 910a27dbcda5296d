/- NewHMACSigner: what lies behind a signer. -/
import Derived.Test.YtaemdppihpefnaaGreatDoorLook2
import Derived.Test.YtaemdppihpefnaaGreatDoorSignf
import Derived.Laws.StructEq
namespace Go.Proofs.YtaemdppihpefnaaGreatDoor
open Go.RowKit
set_option linter.unusedVariables false

set_option maxRecDepth 100000 in
theorem makeSign (f : FuncId) (w : World) :
    Calls Tryz.prog 86 #[.func (.func f) #[] #[]] w fun e w' => e = .returned (.func (.func 117) #[] #[.pointer (some ⟨w.heap.size, 0, none⟩)]) ∧ Row w' w.heap.size 210 [.func (.func f) #[] #[]] ∧ Below w.heap.size w w' := by
  have hmf : ∀ (fn : Fn) (first cap : Array Value) (w : World), (Instr.makeFunc fn first cap).run Tryz.prog w = .ok (.func fn first cap) w := fun _ _ _ _ => rfl
  go_enter Tryz.func86, Tryz.ntmps86
  go_wp2
  go_ret
  exact ⟨rfl, Row.alloc w _ _, (Below.refl _ _).alloc (Nat.le_refl _) _⟩
/-- A signer lies at block g: its algorithm's name, the function that signs. -/
structure SignerAt (f : FuncId) (nm : ByteArray) (base g : Nat) (w : World) : Prop where
  ex : ∃ c, Row w g 158 [.string nm, .bool false, .bool true, .func (.func 117) #[] #[.pointer (some ⟨c, 0, none⟩)]] ∧ Row w c 210 [.func (.func f) #[] #[]] ∧ base ≤ c
  base : base ≤ g
theorem SignerAt.below {f : FuncId} {nm : ByteArray} {base g : Nat} {w w' : World} (h : SignerAt f nm base g w) (hb : Below w.heap.size w w') : SignerAt f nm base g w' := by
  obtain ⟨⟨c, h1, h2, h3⟩, h4⟩ := h
  exact ⟨⟨c, h1.below hb h1.lt, h2.below hb h2.lt, h3⟩, h4⟩
theorem SignerAt.mono {f : FuncId} {nm : ByteArray} {base b' g : Nat} {w : World} (h : SignerAt f nm base g w) (hb : b' ≤ base) : SignerAt f nm b' g w := by
  obtain ⟨⟨c, h1, h2, h3⟩, h4⟩ := h
  exact ⟨⟨c, h1, h2, by omega⟩, by omega⟩

set_option maxRecDepth 100000 in
set_option maxHeartbeats 2000000 in
theorem funcs0 (w : World) :
    Calls Tryz.prog 68 #[.agg #[.string ⟨#[72, 83, 50, 53, 54]⟩, .bool false, .bool true]] w fun e w' => ∃ c, e = .returned (.func (.func 117) #[] #[.pointer (some ⟨c, 0, none⟩)]) ∧ Row w' c 210 [.func (.func 87) #[] #[]] ∧ w.heap.size ≤ c ∧ Below w.heap.size w w' := by
  go_enter Tryz.func68, Tryz.ntmps68
  go_wp2_with (first | (go_at_call 85; refine (alg0 _).mono ?_; rintro e w1 ⟨rfl, b1⟩; have b1 := Lib.hid b1))
  have hb := (((Below.refl _ _).alloc (Nat.le_refl _) _).trans (b1.out.mono (Below.size ((Below.refl _ _).alloc (Nat.le_refl _) _))))
  have hb := Lib.hid hb
  refine (makeSign _ _).mono ?_
  rintro e wz ⟨rfl, rz, bz⟩
  have rz := Lib.hid rz
  have bz := Lib.hid bz
  go_wp2_with fail
  go_ret
  exact ⟨_, rfl, rz.out, hb.out.size, hb.out.trans (bz.out.mono hb.out.size)⟩

set_option maxRecDepth 100000 in
set_option maxHeartbeats 2000000 in
theorem newSigner0 (w : World) :
    Calls Tryz.prog 44 #[.agg #[.string ⟨#[72, 83, 50, 53, 54]⟩, .bool false, .bool true]] w fun e w' => ∃ g, e = .returned (.iface 153 (.pointer (some ⟨g, 0, none⟩))) ∧ SignerAt 87 ⟨#[72, 83, 50, 53, 54]⟩ w.heap.size g w' ∧ Below w.heap.size w w' := by
  go_enter Tryz.func44, Tryz.ntmps44
  go_wp2_with fail
  obtain ⟨w1, hw1⟩ : ∃ w1 : World, w1 = w.alloc (.cells #[.string ⟨#[72, 83, 50, 53, 54]⟩, .bool false, .bool true] 112) := ⟨_, rfl⟩
  rw [← hw1]
  have R1 : Row w1 w.heap.size 112 [.string ⟨#[72, 83, 50, 53, 54]⟩, .bool false, .bool true] := by rw [hw1]; exact Row.new w _ _ _ rfl
  have B1 := Lib.hid (show Below w.heap.size w w1 by rw [hw1]; exact (Below.refl _ _).alloc (Nat.le_refl _) _)
  have hX : w.heap.size < w1.heap.size := R1.lt
  have c0 : w1.cell? ⟨w.heap.size, 0, none⟩ = some (.string ⟨#[72, 83, 50, 53, 54]⟩) := by rw [R1.cell]; rfl
  have c1 : w1.cell? ⟨w.heap.size, 1, none⟩ = some (.bool false) := by rw [R1.cell]; rfl
  have c2 : w1.cell? ⟨w.heap.size, 2, none⟩ = some (.bool true) := by rw [R1.cell]; rfl
  clear hw1 R1
  generalize hB : w.heap.size = B at *
  have HB := Lib.hid hB
  clear hB
  go_region_held3 (fun w' => w'.cell? ⟨B, 0, none⟩ = some (.string ⟨#[72, 83, 50, 53, 54]⟩) ∧ w'.cell? ⟨B, 1, none⟩ = some (.bool false) ∧ w'.cell? ⟨B, 2, none⟩ = some (.bool true))
    (first | go_keep | exact ⟨(b2.cell (p := ⟨B, 0, none⟩) hX).trans c0, (b2.cell (p := ⟨B, 1, none⟩) hX).trans c1, (b2.cell (p := ⟨B, 2, none⟩) hX).trans c2⟩)
    (first | (go_at_call 68; refine (funcs0 _).mono ?_; rintro e w2 ⟨c, rfl, r2, hc2, b2⟩))
  obtain ⟨w3, hw3⟩ : ∃ w3 : World, w3 = w2.alloc (.cells #[.string ⟨#[72, 83, 50, 53, 54]⟩, .bool false, .bool true, .func (.func 117) #[] #[.pointer (some ⟨c, 0, none⟩)]] 158) := ⟨_, rfl⟩
  rw [← hw3]
  have hs2 : w1.heap.size ≤ w2.heap.size := b2.size
  have hc2' : w1.heap.size ≤ c := hc2
  have S3 := Lib.hid (show SignerAt 87 ⟨#[72, 83, 50, 53, 54]⟩ B w2.heap.size w3 by rw [hw3]; exact ⟨⟨c, Row.new w2 _ _ _ rfl, r2.allocd _, by omega⟩, by omega⟩)
  have b2' : Below w1.heap.size w1 w2 := ⟨b2.os, b2.tape, b2.output, b2.size, b2.block⟩
  have B3 := Lib.hid (show Below B w w3 by rw [hw3]; exact (B1.out.trans (b2'.mono (by omega))).trans (((Below.refl _ _).alloc (Nat.le_refl _) _).mono (by omega)))
  clear hw3 b2 b2' r2 hc2 hc2' hs2
  go_wp2_with fail
  go_ret
  rw [HB.out]
  exact ⟨_, rfl, S3.out, B3.out⟩

set_option maxRecDepth 100000 in
set_option maxHeartbeats 2000000 in
theorem newVerifier0 (w : World) :
    Calls Tryz.prog 45 #[.agg #[.string ⟨#[72, 83, 50, 53, 54]⟩, .bool false, .bool true]] w fun e w' => ∃ g h, e = .returned (.iface 159 (.pointer (some ⟨h, 0, none⟩))) ∧ Row w' h 161 [.iface 153 (.pointer (some ⟨g, 0, none⟩))] ∧ SignerAt 87 ⟨#[72, 83, 50, 53, 54]⟩ w.heap.size g w' ∧ Below w.heap.size w w' := by
  go_enter Tryz.func45, Tryz.ntmps45
  go_wp2_with fail
  refine (newSigner0 _).mono ?_
  rintro e w2 ⟨g, rfl, s2, b2⟩
  have hb : Below w.heap.size w w2 := ((Below.refl _ _).alloc (Nat.le_refl _) _).trans (b2.mono (by simp))
  have S2 := Lib.hid (s2.mono (b' := w.heap.size) (by simp))
  have B2 := Lib.hid hb
  clear s2 b2 hb
  go_wp2_with fail
  go_ret
  exact ⟨g, w2.heap.size, rfl, Row.new w2 _ _ _ rfl, S2.out.below ((Below.refl _ _).alloc (Nat.le_refl _) _), B2.out.trans (((Below.refl _ _).alloc (Nat.le_refl _) _).mono B2.out.size)⟩

set_option maxRecDepth 100000 in
set_option maxHeartbeats 2000000 in
theorem funcs1 (w : World) :
    Calls Tryz.prog 68 #[.agg #[.string ⟨#[72, 83, 51, 56, 52]⟩, .bool false, .bool true]] w fun e w' => ∃ c, e = .returned (.func (.func 117) #[] #[.pointer (some ⟨c, 0, none⟩)]) ∧ Row w' c 210 [.func (.func 90) #[] #[]] ∧ w.heap.size ≤ c ∧ Below w.heap.size w w' := by
  go_enter Tryz.func68, Tryz.ntmps68
  go_wp2_with (first | (go_at_call 85; refine (alg0 _).mono ?_; rintro e w1 ⟨rfl, b1⟩; have b1 := Lib.hid b1) | (go_at_call 89; refine (alg1 _).mono ?_; rintro e w2 ⟨rfl, b2⟩; have b2 := Lib.hid b2))
  have hb := ((((Below.refl _ _).alloc (Nat.le_refl _) _).trans (b1.out.mono (Below.size ((Below.refl _ _).alloc (Nat.le_refl _) _)))).trans (b2.out.mono (Below.size (((Below.refl _ _).alloc (Nat.le_refl _) _).trans (b1.out.mono (Below.size ((Below.refl _ _).alloc (Nat.le_refl _) _)))))))
  have hb := Lib.hid hb
  refine (makeSign _ _).mono ?_
  rintro e wz ⟨rfl, rz, bz⟩
  have rz := Lib.hid rz
  have bz := Lib.hid bz
  go_wp2_with fail
  go_ret
  exact ⟨_, rfl, rz.out, hb.out.size, hb.out.trans (bz.out.mono hb.out.size)⟩

set_option maxRecDepth 100000 in
set_option maxHeartbeats 2000000 in
theorem newSigner1 (w : World) :
    Calls Tryz.prog 44 #[.agg #[.string ⟨#[72, 83, 51, 56, 52]⟩, .bool false, .bool true]] w fun e w' => ∃ g, e = .returned (.iface 153 (.pointer (some ⟨g, 0, none⟩))) ∧ SignerAt 90 ⟨#[72, 83, 51, 56, 52]⟩ w.heap.size g w' ∧ Below w.heap.size w w' := by
  go_enter Tryz.func44, Tryz.ntmps44
  go_wp2_with fail
  obtain ⟨w1, hw1⟩ : ∃ w1 : World, w1 = w.alloc (.cells #[.string ⟨#[72, 83, 51, 56, 52]⟩, .bool false, .bool true] 112) := ⟨_, rfl⟩
  rw [← hw1]
  have R1 : Row w1 w.heap.size 112 [.string ⟨#[72, 83, 51, 56, 52]⟩, .bool false, .bool true] := by rw [hw1]; exact Row.new w _ _ _ rfl
  have B1 := Lib.hid (show Below w.heap.size w w1 by rw [hw1]; exact (Below.refl _ _).alloc (Nat.le_refl _) _)
  have hX : w.heap.size < w1.heap.size := R1.lt
  have c0 : w1.cell? ⟨w.heap.size, 0, none⟩ = some (.string ⟨#[72, 83, 51, 56, 52]⟩) := by rw [R1.cell]; rfl
  have c1 : w1.cell? ⟨w.heap.size, 1, none⟩ = some (.bool false) := by rw [R1.cell]; rfl
  have c2 : w1.cell? ⟨w.heap.size, 2, none⟩ = some (.bool true) := by rw [R1.cell]; rfl
  clear hw1 R1
  generalize hB : w.heap.size = B at *
  have HB := Lib.hid hB
  clear hB
  go_region_held3 (fun w' => w'.cell? ⟨B, 0, none⟩ = some (.string ⟨#[72, 83, 51, 56, 52]⟩) ∧ w'.cell? ⟨B, 1, none⟩ = some (.bool false) ∧ w'.cell? ⟨B, 2, none⟩ = some (.bool true))
    (first | go_keep | exact ⟨(b2.cell (p := ⟨B, 0, none⟩) hX).trans c0, (b2.cell (p := ⟨B, 1, none⟩) hX).trans c1, (b2.cell (p := ⟨B, 2, none⟩) hX).trans c2⟩)
    (first | (go_at_call 68; refine (funcs1 _).mono ?_; rintro e w2 ⟨c, rfl, r2, hc2, b2⟩))
  obtain ⟨w3, hw3⟩ : ∃ w3 : World, w3 = w2.alloc (.cells #[.string ⟨#[72, 83, 51, 56, 52]⟩, .bool false, .bool true, .func (.func 117) #[] #[.pointer (some ⟨c, 0, none⟩)]] 158) := ⟨_, rfl⟩
  rw [← hw3]
  have hs2 : w1.heap.size ≤ w2.heap.size := b2.size
  have hc2' : w1.heap.size ≤ c := hc2
  have S3 := Lib.hid (show SignerAt 90 ⟨#[72, 83, 51, 56, 52]⟩ B w2.heap.size w3 by rw [hw3]; exact ⟨⟨c, Row.new w2 _ _ _ rfl, r2.allocd _, by omega⟩, by omega⟩)
  have b2' : Below w1.heap.size w1 w2 := ⟨b2.os, b2.tape, b2.output, b2.size, b2.block⟩
  have B3 := Lib.hid (show Below B w w3 by rw [hw3]; exact (B1.out.trans (b2'.mono (by omega))).trans (((Below.refl _ _).alloc (Nat.le_refl _) _).mono (by omega)))
  clear hw3 b2 b2' r2 hc2 hc2' hs2
  go_wp2_with fail
  go_ret
  rw [HB.out]
  exact ⟨_, rfl, S3.out, B3.out⟩

set_option maxRecDepth 100000 in
set_option maxHeartbeats 2000000 in
theorem newVerifier1 (w : World) :
    Calls Tryz.prog 45 #[.agg #[.string ⟨#[72, 83, 51, 56, 52]⟩, .bool false, .bool true]] w fun e w' => ∃ g h, e = .returned (.iface 159 (.pointer (some ⟨h, 0, none⟩))) ∧ Row w' h 161 [.iface 153 (.pointer (some ⟨g, 0, none⟩))] ∧ SignerAt 90 ⟨#[72, 83, 51, 56, 52]⟩ w.heap.size g w' ∧ Below w.heap.size w w' := by
  go_enter Tryz.func45, Tryz.ntmps45
  go_wp2_with fail
  refine (newSigner1 _).mono ?_
  rintro e w2 ⟨g, rfl, s2, b2⟩
  have hb : Below w.heap.size w w2 := ((Below.refl _ _).alloc (Nat.le_refl _) _).trans (b2.mono (by simp))
  have S2 := Lib.hid (s2.mono (b' := w.heap.size) (by simp))
  have B2 := Lib.hid hb
  clear s2 b2 hb
  go_wp2_with fail
  go_ret
  exact ⟨g, w2.heap.size, rfl, Row.new w2 _ _ _ rfl, S2.out.below ((Below.refl _ _).alloc (Nat.le_refl _) _), B2.out.trans (((Below.refl _ _).alloc (Nat.le_refl _) _).mono B2.out.size)⟩

set_option maxRecDepth 100000 in
set_option maxHeartbeats 2000000 in
theorem funcs2 (w : World) :
    Calls Tryz.prog 68 #[.agg #[.string ⟨#[72, 83, 53, 49, 50]⟩, .bool false, .bool true]] w fun e w' => ∃ c, e = .returned (.func (.func 117) #[] #[.pointer (some ⟨c, 0, none⟩)]) ∧ Row w' c 210 [.func (.func 93) #[] #[]] ∧ w.heap.size ≤ c ∧ Below w.heap.size w w' := by
  go_enter Tryz.func68, Tryz.ntmps68
  go_wp2_with (first | (go_at_call 85; refine (alg0 _).mono ?_; rintro e w1 ⟨rfl, b1⟩; have b1 := Lib.hid b1) | (go_at_call 89; refine (alg1 _).mono ?_; rintro e w2 ⟨rfl, b2⟩; have b2 := Lib.hid b2) | (go_at_call 92; refine (alg2 _).mono ?_; rintro e w3 ⟨rfl, b3⟩; have b3 := Lib.hid b3))
  have hb := (((((Below.refl _ _).alloc (Nat.le_refl _) _).trans (b1.out.mono (Below.size ((Below.refl _ _).alloc (Nat.le_refl _) _)))).trans (b2.out.mono (Below.size (((Below.refl _ _).alloc (Nat.le_refl _) _).trans (b1.out.mono (Below.size ((Below.refl _ _).alloc (Nat.le_refl _) _))))))).trans (b3.out.mono (Below.size ((((Below.refl _ _).alloc (Nat.le_refl _) _).trans (b1.out.mono (Below.size ((Below.refl _ _).alloc (Nat.le_refl _) _)))).trans (b2.out.mono (Below.size (((Below.refl _ _).alloc (Nat.le_refl _) _).trans (b1.out.mono (Below.size ((Below.refl _ _).alloc (Nat.le_refl _) _))))))))))
  have hb := Lib.hid hb
  refine (makeSign _ _).mono ?_
  rintro e wz ⟨rfl, rz, bz⟩
  have rz := Lib.hid rz
  have bz := Lib.hid bz
  go_wp2_with fail
  go_ret
  exact ⟨_, rfl, rz.out, hb.out.size, hb.out.trans (bz.out.mono hb.out.size)⟩

set_option maxRecDepth 100000 in
set_option maxHeartbeats 2000000 in
theorem newSigner2 (w : World) :
    Calls Tryz.prog 44 #[.agg #[.string ⟨#[72, 83, 53, 49, 50]⟩, .bool false, .bool true]] w fun e w' => ∃ g, e = .returned (.iface 153 (.pointer (some ⟨g, 0, none⟩))) ∧ SignerAt 93 ⟨#[72, 83, 53, 49, 50]⟩ w.heap.size g w' ∧ Below w.heap.size w w' := by
  go_enter Tryz.func44, Tryz.ntmps44
  go_wp2_with fail
  obtain ⟨w1, hw1⟩ : ∃ w1 : World, w1 = w.alloc (.cells #[.string ⟨#[72, 83, 53, 49, 50]⟩, .bool false, .bool true] 112) := ⟨_, rfl⟩
  rw [← hw1]
  have R1 : Row w1 w.heap.size 112 [.string ⟨#[72, 83, 53, 49, 50]⟩, .bool false, .bool true] := by rw [hw1]; exact Row.new w _ _ _ rfl
  have B1 := Lib.hid (show Below w.heap.size w w1 by rw [hw1]; exact (Below.refl _ _).alloc (Nat.le_refl _) _)
  have hX : w.heap.size < w1.heap.size := R1.lt
  have c0 : w1.cell? ⟨w.heap.size, 0, none⟩ = some (.string ⟨#[72, 83, 53, 49, 50]⟩) := by rw [R1.cell]; rfl
  have c1 : w1.cell? ⟨w.heap.size, 1, none⟩ = some (.bool false) := by rw [R1.cell]; rfl
  have c2 : w1.cell? ⟨w.heap.size, 2, none⟩ = some (.bool true) := by rw [R1.cell]; rfl
  clear hw1 R1
  generalize hB : w.heap.size = B at *
  have HB := Lib.hid hB
  clear hB
  go_region_held3 (fun w' => w'.cell? ⟨B, 0, none⟩ = some (.string ⟨#[72, 83, 53, 49, 50]⟩) ∧ w'.cell? ⟨B, 1, none⟩ = some (.bool false) ∧ w'.cell? ⟨B, 2, none⟩ = some (.bool true))
    (first | go_keep | exact ⟨(b2.cell (p := ⟨B, 0, none⟩) hX).trans c0, (b2.cell (p := ⟨B, 1, none⟩) hX).trans c1, (b2.cell (p := ⟨B, 2, none⟩) hX).trans c2⟩)
    (first | (go_at_call 68; refine (funcs2 _).mono ?_; rintro e w2 ⟨c, rfl, r2, hc2, b2⟩))
  obtain ⟨w3, hw3⟩ : ∃ w3 : World, w3 = w2.alloc (.cells #[.string ⟨#[72, 83, 53, 49, 50]⟩, .bool false, .bool true, .func (.func 117) #[] #[.pointer (some ⟨c, 0, none⟩)]] 158) := ⟨_, rfl⟩
  rw [← hw3]
  have hs2 : w1.heap.size ≤ w2.heap.size := b2.size
  have hc2' : w1.heap.size ≤ c := hc2
  have S3 := Lib.hid (show SignerAt 93 ⟨#[72, 83, 53, 49, 50]⟩ B w2.heap.size w3 by rw [hw3]; exact ⟨⟨c, Row.new w2 _ _ _ rfl, r2.allocd _, by omega⟩, by omega⟩)
  have b2' : Below w1.heap.size w1 w2 := ⟨b2.os, b2.tape, b2.output, b2.size, b2.block⟩
  have B3 := Lib.hid (show Below B w w3 by rw [hw3]; exact (B1.out.trans (b2'.mono (by omega))).trans (((Below.refl _ _).alloc (Nat.le_refl _) _).mono (by omega)))
  clear hw3 b2 b2' r2 hc2 hc2' hs2
  go_wp2_with fail
  go_ret
  rw [HB.out]
  exact ⟨_, rfl, S3.out, B3.out⟩

set_option maxRecDepth 100000 in
set_option maxHeartbeats 2000000 in
theorem newVerifier2 (w : World) :
    Calls Tryz.prog 45 #[.agg #[.string ⟨#[72, 83, 53, 49, 50]⟩, .bool false, .bool true]] w fun e w' => ∃ g h, e = .returned (.iface 159 (.pointer (some ⟨h, 0, none⟩))) ∧ Row w' h 161 [.iface 153 (.pointer (some ⟨g, 0, none⟩))] ∧ SignerAt 93 ⟨#[72, 83, 53, 49, 50]⟩ w.heap.size g w' ∧ Below w.heap.size w w' := by
  go_enter Tryz.func45, Tryz.ntmps45
  go_wp2_with fail
  refine (newSigner2 _).mono ?_
  rintro e w2 ⟨g, rfl, s2, b2⟩
  have hb : Below w.heap.size w w2 := ((Below.refl _ _).alloc (Nat.le_refl _) _).trans (b2.mono (by simp))
  have S2 := Lib.hid (s2.mono (b' := w.heap.size) (by simp))
  have B2 := Lib.hid hb
  clear s2 b2 hb
  go_wp2_with fail
  go_ret
  exact ⟨g, w2.heap.size, rfl, Row.new w2 _ _ _ rfl, S2.out.below ((Below.refl _ _).alloc (Nat.le_refl _) _), B2.out.trans (((Below.refl _ _).alloc (Nat.le_refl _) _).mono B2.out.size)⟩
end Go.Proofs.YtaemdppihpefnaaGreatDoor
