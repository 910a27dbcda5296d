/- (*sha512.Digest).Sum, whatever the table holds. -/
import Derived.Test.YtaemdppihpefnaaGreatDoorSum512
import Derived.Laws.OwnMore
namespace Go.Proofs.YtaemdppihpefnaaGreatDoor
open Go.RowKit
set_option linter.unusedVariables false

theorem cells_len64 {d : D64} (hx : d.x.length = 128) : d.cells.length = 139 := by
  simp [D64.cells, dig64, cs64, cs8, words8, hx]
theorem cells_one64 (d : D64) : ∀ v ∈ d.cells, v.oneCell' = true := by
  intro v hv
  simp only [D64.cells, dig64, cs64, cs8, words8, List.mem_append, List.mem_map, List.mem_cons, List.not_mem_nil, or_false] at hv
  rcases hv with ⟨_, _, rfl⟩ | ⟨_, _, rfl⟩ | rfl | rfl | rfl <;> rfl
theorem done64_len (K : List Int) (d : D64) (n : Nat) : (done64 K d n).length = 64 := dig8_len _
theorem done48_len (K : List Int) (d : D64) (n : Nat) : (done48 K d n).length = 64 := dig6_len _

set_option maxRecDepth 100000 in
set_option maxHeartbeats 1000000 in
theorem sum512 (K : List Int) (hK : K.length = 80) (g : Nat) (d : D64) (n : Nat) (w : World)
    (hx : d.x.length = 128) (hsz : d.sz = 64) (hnx : d.nx = n % 128) (hlen : d.len = n) (hn : n ≤ 1099511627776) (hrow : Row w g 263 d.cells) (hkt : Row w 9 385 (cs64 K))
    (base : Nat) (v : Value) (hown : w.ownsRow base 5 1 v 0 []) (hbase : base ≤ w.heap.size) :
    Calls Tryz.prog 275 #[.pointer (some ⟨g, 0, none⟩), v] w fun e w' => ∃ v', e = .returned v' ∧ w'.ownsRow base 5 1 v' 64 ((cs8 (done64 K d n)).take 64) ∧ w.grownBy w' v.ownBlock := by
  have hgl := hrow.lt
  have hkl := hkt.lt
  have hz1 : Tryz.zeroCells263.toList.length = 139 := by kernel_rfl
  have hi1 : (Tryz.prog.info? 263).map (·.size) = some 139 := by kernel_rfl
  have hi2 : (Tryz.prog.info? 257).map (·.size) = some 64 := by kernel_rfl
  have Z1 := Lib.hid (Row.new w Tryz.zeroCells263 263 _ rfl)
  have hs1 : (Tryz.prog.info? 263).map (·.size) = some d.cells.toArray.size := by rw [hi1]; simp [cells_len64 hx]
  have hs2 : d.cells.length = Tryz.zeroCells263.toList.length := by rw [hz1, cells_len64 hx]
  have hs3 : (Tryz.prog.info? 263).map (·.size) = some d.cells.length := by rw [hi1, cells_len64 hx]
  have G : Hid (∀ w1, Row w1 w.heap.size 263 d.cells → Only w.heap.size (w.alloc (.cells Tryz.zeroCells263 263)) w1 →
      Calls Tryz.prog 278 #[.pointer (some ⟨w.heap.size, 0, none⟩)] w1 fun e w2 => e = .returned (.agg (cs8 (done64 K d n)).toArray) ∧ Hid (Below w.heap.size w w2) ∧ Hid (w.heap.size < w2.heap.size)) := by
    refine Lib.hid fun w1 r1 o1 => ?_
    have hb1 : Below w.heap.size w w1 := ((Below.refl _ _).alloc (Nat.le_refl _) _).trans (o1.below (Nat.le_refl _))
    have k1 := hkt.below hb1 hkl
    refine (check512 K hK w.heap.size d n w1 hx hsz hnx hlen hn r1 k1 (by omega)).mono ?_
    intro e w2 ⟨he, r2, b2⟩
    have hl2 := r2.lt
    exact ⟨he, Lib.hid (hb1.trans (b2.below (Nat.le_refl _) (by have := r1.lt; omega))), Lib.hid hl2⟩
  have hdl := done64_len K d n
  obtain ⟨X, hX⟩ : ∃ X, cs8 (done64 K d n) = X := ⟨_, rfl⟩
  have hXl : X.length = 64 := by rw [← hX, length_cs8, hdl]
  have hX1 : ∀ v ∈ X, v.oneCell' = true := by rw [← hX]; exact one_cs8 _
  rw [hX] at G
  rw [hX]
  have hs4 : (Tryz.prog.info? 257).map (·.size) = some X.length := by rw [hi2, hXl]
  have HR := Lib.hid hrow
  have hs1 := Lib.hid hs1
  have hs2 := Lib.hid hs2
  have hs3 := Lib.hid hs3
  have hs4 := Lib.hid hs4
  have HX1 := Lib.hid hX1
  have HXl := Lib.hid hXl
  have HXt : Hid ((X.take 64).length = 64) := Lib.hid (by rw [List.length_take, hXl]; decide)
  have HXt1 : Hid (∀ v ∈ X.take 64, v.oneCell' = true) := Lib.hid fun v hv => hX1 v (List.mem_of_mem_take hv)
  have Hx := Lib.hid hx
  have Hsz := Lib.hid hsz
  have Hown := Lib.hid hown
  have Hdc := Lib.hid (cells_one64 d)
  clear hrow hkt hx hsz hnx hlen hz1 hi1 hi2 hdl hX hXl hX1 hown
  obtain ⟨i0, hi, hz0, hz1, hz2⟩ := info_parts (P := Tryz.prog) (e := 5) (z := .int .u8 0) (size := 1) (bytes := 1) (by kernel_rfl)
  have Hi := Lib.hid hi
  have Hz0 := Lib.hid hz0
  have Hz1 := Lib.hid hz1
  have Hz2 := Lib.hid hz2
  clear hi hz0 hz1 hz2
  have Z2 : Hid (∀ wx : World, Row (wx.alloc (.cells #[.int .u8 0, .int .u8 0, .int .u8 0, .int .u8 0, .int .u8 0, .int .u8 0, .int .u8 0, .int .u8 0, .int .u8 0, .int .u8 0, .int .u8 0, .int .u8 0, .int .u8 0, .int .u8 0, .int .u8 0, .int .u8 0, .int .u8 0, .int .u8 0, .int .u8 0, .int .u8 0, .int .u8 0, .int .u8 0, .int .u8 0, .int .u8 0, .int .u8 0, .int .u8 0, .int .u8 0, .int .u8 0, .int .u8 0, .int .u8 0, .int .u8 0, .int .u8 0, .int .u8 0, .int .u8 0, .int .u8 0, .int .u8 0, .int .u8 0, .int .u8 0, .int .u8 0, .int .u8 0, .int .u8 0, .int .u8 0, .int .u8 0, .int .u8 0, .int .u8 0, .int .u8 0, .int .u8 0, .int .u8 0, .int .u8 0, .int .u8 0, .int .u8 0, .int .u8 0, .int .u8 0, .int .u8 0, .int .u8 0, .int .u8 0, .int .u8 0, .int .u8 0, .int .u8 0, .int .u8 0, .int .u8 0, .int .u8 0, .int .u8 0, .int .u8 0] 257)) wx.heap.size 257 (cs8 (List.replicate 64 0))) := Lib.hid fun wx => Row.new wx _ _ _ rfl
  have hs5 : Hid (X.length = (cs8 (List.replicate 64 0)).length) := Lib.hid (by rw [HXl.out]; simp [cs8])
  have G3 : Hid (∀ w2 w3, Below w.heap.size w w2 → w.heap.size < w2.heap.size → Row w3 w2.heap.size 257 X → Only w2.heap.size (w2.alloc (.cells #[.int .u8 0, .int .u8 0, .int .u8 0, .int .u8 0, .int .u8 0, .int .u8 0, .int .u8 0, .int .u8 0, .int .u8 0, .int .u8 0, .int .u8 0, .int .u8 0, .int .u8 0, .int .u8 0, .int .u8 0, .int .u8 0, .int .u8 0, .int .u8 0, .int .u8 0, .int .u8 0, .int .u8 0, .int .u8 0, .int .u8 0, .int .u8 0, .int .u8 0, .int .u8 0, .int .u8 0, .int .u8 0, .int .u8 0, .int .u8 0, .int .u8 0, .int .u8 0, .int .u8 0, .int .u8 0, .int .u8 0, .int .u8 0, .int .u8 0, .int .u8 0, .int .u8 0, .int .u8 0, .int .u8 0, .int .u8 0, .int .u8 0, .int .u8 0, .int .u8 0, .int .u8 0, .int .u8 0, .int .u8 0, .int .u8 0, .int .u8 0, .int .u8 0, .int .u8 0, .int .u8 0, .int .u8 0, .int .u8 0, .int .u8 0, .int .u8 0, .int .u8 0, .int .u8 0, .int .u8 0, .int .u8 0, .int .u8 0, .int .u8 0, .int .u8 0] 257)) w3 →
      w3.cell? ⟨g, 138, none⟩ = some (.int .i64 64) ∧ Hid (w3.ownsRow base 5 1 v 0 []) ∧ Hid (∀ (j : Nat) (u : Value), (X.take 64)[j]? = some u → w3.cell? ((⟨w2.heap.size, 0, none⟩ : Addr).add j) = some u) ∧ Hid (base ≤ w3.heap.size) ∧ Hid (Below w.heap.size w w3)) := by
    refine Lib.hid fun w2 w3 b2 l2 r3 o3 => ?_
    have hb : Below w2.heap.size w2 w3 := ((Below.refl _ _).alloc (Nat.le_refl _) _).trans (o3.below (Nat.le_refl _))
    have hb3 : Below w.heap.size w w3 := b2.trans (hb.mono b2.size)
    refine ⟨?_, ?_, ?_, ?_, Lib.hid hb3⟩
    · rw [hb3.cell (p := ⟨g, 138, none⟩) HR.out.lt, HR.out.cell, ecell_sz Hx.out, Hsz.out]
    · refine Lib.hid (Hown.out.kept (grown_of_below hb3 none) ?_)
      cases h : v.ownBlock with
      | none => exact Or.inl rfl
      | some k => exact Or.inr (by simp)
    · exact Lib.hid (r3.cells_at 0 (X.take 64) (fun j u hj => by rw [Nat.zero_add]; rw [List.getElem?_take] at hj; split at hj; exact hj; cases hj))
    · exact Lib.hid (Nat.le_trans hbase hb3.size)
  have hsl := fun D wx => run_arr_to (P := Tryz.prog) 257 5 64 Tryz.underlying257 (by kernel_rfl) D 0 64 .i64 64 rfl (by decide) wx
  go_enter Tryz.func275, Tryz.ntmps275
  go_wp2_with (first | (refine wpList_load_row rfl 263 (.tmp 10) rfl g rfl 263 d.cells.toArray (0, 0) _ (HR.out.allocd _) Tryz.underlying263 rfl hs1.out ?_) | (refine wpl_store_row rfl 263 (.tmp 12) (.tmp 11) rfl d.cells rfl w.heap.size rfl 263 _ Z1.out hs2.out hs3.out Hdc.out ?_; intro w1 r1 o1; have G1 := Lib.hid (G.out w1 r1 o1); clear r1 o1) | (go_at_call 278; refine G1.out.mono ?_; rintro e w2 ⟨rfl, b2, l2⟩) | (refine wpl_store_row rfl 257 (.tmp 6) (.tmp 14) rfl X rfl w2.heap.size rfl 257 _ (Z2.out w2) hs5.out hs4.out HX1.out ?_; intro w3 r3 o3; obtain ⟨c3, own3, new3, base3, b3⟩ := G3.out w2 w3 b2.out l2.out r3 o3; clear r3 o3) | (refine wpList_append_own _ rfl (.tmp 15) (.tmp 20) 22 rfl base 5 i0 (.int .u8 0) 1 1 Tryz.underlying22 Hi.out Hz0.out Hz1.out Hz2.out rfl (by decide) v 0 [] rfl own3.out ⟨w2.heap.size, 0, none⟩ 64 64 (X.take 64) rfl HXt.out new3.out HXt1.out (by decide) (by decide) base3.out ?_; intro v4 w4 own4 g4 _; have own4 := Lib.hid own4; have g4 := Lib.hid g4))
  go_ret
  refine ⟨v4, rfl, ?_, grown_trans (grown_of_below b3.out _) g4.out⟩
  have := own4.out
  rwa [Nat.zero_add, List.nil_append] at this
set_option maxRecDepth 100000 in
set_option maxHeartbeats 1000000 in
theorem sum384 (K : List Int) (hK : K.length = 80) (g : Nat) (d : D64) (n : Nat) (w : World)
    (hx : d.x.length = 128) (hsz : d.sz = 48) (hnx : d.nx = n % 128) (hlen : d.len = n) (hn : n ≤ 1099511627776) (hrow : Row w g 263 d.cells) (hkt : Row w 9 385 (cs64 K))
    (base : Nat) (v : Value) (hown : w.ownsRow base 5 1 v 0 []) (hbase : base ≤ w.heap.size) :
    Calls Tryz.prog 275 #[.pointer (some ⟨g, 0, none⟩), v] w fun e w' => ∃ v', e = .returned v' ∧ w'.ownsRow base 5 1 v' 48 ((cs8 (done48 K d n)).take 48) ∧ w.grownBy w' v.ownBlock := by
  have hgl := hrow.lt
  have hkl := hkt.lt
  have hz1 : Tryz.zeroCells263.toList.length = 139 := by kernel_rfl
  have hi1 : (Tryz.prog.info? 263).map (·.size) = some 139 := by kernel_rfl
  have hi2 : (Tryz.prog.info? 257).map (·.size) = some 64 := by kernel_rfl
  have Z1 := Lib.hid (Row.new w Tryz.zeroCells263 263 _ rfl)
  have hs1 : (Tryz.prog.info? 263).map (·.size) = some d.cells.toArray.size := by rw [hi1]; simp [cells_len64 hx]
  have hs2 : d.cells.length = Tryz.zeroCells263.toList.length := by rw [hz1, cells_len64 hx]
  have hs3 : (Tryz.prog.info? 263).map (·.size) = some d.cells.length := by rw [hi1, cells_len64 hx]
  have G : Hid (∀ w1, Row w1 w.heap.size 263 d.cells → Only w.heap.size (w.alloc (.cells Tryz.zeroCells263 263)) w1 →
      Calls Tryz.prog 278 #[.pointer (some ⟨w.heap.size, 0, none⟩)] w1 fun e w2 => e = .returned (.agg (cs8 (done48 K d n)).toArray) ∧ Hid (Below w.heap.size w w2) ∧ Hid (w.heap.size < w2.heap.size)) := by
    refine Lib.hid fun w1 r1 o1 => ?_
    have hb1 : Below w.heap.size w w1 := ((Below.refl _ _).alloc (Nat.le_refl _) _).trans (o1.below (Nat.le_refl _))
    have k1 := hkt.below hb1 hkl
    refine (check384 K hK w.heap.size d n w1 hx hsz hnx hlen hn r1 k1 (by omega)).mono ?_
    intro e w2 ⟨he, r2, b2⟩
    have hl2 := r2.lt
    exact ⟨he, Lib.hid (hb1.trans (b2.below (Nat.le_refl _) (by have := r1.lt; omega))), Lib.hid hl2⟩
  have hdl := done48_len K d n
  obtain ⟨X, hX⟩ : ∃ X, cs8 (done48 K d n) = X := ⟨_, rfl⟩
  have hXl : X.length = 64 := by rw [← hX, length_cs8, hdl]
  have hX1 : ∀ v ∈ X, v.oneCell' = true := by rw [← hX]; exact one_cs8 _
  rw [hX] at G
  rw [hX]
  have hs4 : (Tryz.prog.info? 257).map (·.size) = some X.length := by rw [hi2, hXl]
  have HR := Lib.hid hrow
  have hs1 := Lib.hid hs1
  have hs2 := Lib.hid hs2
  have hs3 := Lib.hid hs3
  have hs4 := Lib.hid hs4
  have HX1 := Lib.hid hX1
  have HXl := Lib.hid hXl
  have HXt : Hid ((X.take 48).length = 48) := Lib.hid (by rw [List.length_take, hXl]; decide)
  have HXt1 : Hid (∀ v ∈ X.take 48, v.oneCell' = true) := Lib.hid fun v hv => hX1 v (List.mem_of_mem_take hv)
  have Hx := Lib.hid hx
  have Hsz := Lib.hid hsz
  have Hown := Lib.hid hown
  have Hdc := Lib.hid (cells_one64 d)
  clear hrow hkt hx hsz hnx hlen hz1 hi1 hi2 hdl hX hXl hX1 hown
  obtain ⟨i0, hi, hz0, hz1, hz2⟩ := info_parts (P := Tryz.prog) (e := 5) (z := .int .u8 0) (size := 1) (bytes := 1) (by kernel_rfl)
  have Hi := Lib.hid hi
  have Hz0 := Lib.hid hz0
  have Hz1 := Lib.hid hz1
  have Hz2 := Lib.hid hz2
  clear hi hz0 hz1 hz2
  have Z2 : Hid (∀ wx : World, Row (wx.alloc (.cells #[.int .u8 0, .int .u8 0, .int .u8 0, .int .u8 0, .int .u8 0, .int .u8 0, .int .u8 0, .int .u8 0, .int .u8 0, .int .u8 0, .int .u8 0, .int .u8 0, .int .u8 0, .int .u8 0, .int .u8 0, .int .u8 0, .int .u8 0, .int .u8 0, .int .u8 0, .int .u8 0, .int .u8 0, .int .u8 0, .int .u8 0, .int .u8 0, .int .u8 0, .int .u8 0, .int .u8 0, .int .u8 0, .int .u8 0, .int .u8 0, .int .u8 0, .int .u8 0, .int .u8 0, .int .u8 0, .int .u8 0, .int .u8 0, .int .u8 0, .int .u8 0, .int .u8 0, .int .u8 0, .int .u8 0, .int .u8 0, .int .u8 0, .int .u8 0, .int .u8 0, .int .u8 0, .int .u8 0, .int .u8 0, .int .u8 0, .int .u8 0, .int .u8 0, .int .u8 0, .int .u8 0, .int .u8 0, .int .u8 0, .int .u8 0, .int .u8 0, .int .u8 0, .int .u8 0, .int .u8 0, .int .u8 0, .int .u8 0, .int .u8 0, .int .u8 0] 257)) wx.heap.size 257 (cs8 (List.replicate 64 0))) := Lib.hid fun wx => Row.new wx _ _ _ rfl
  have hs5 : Hid (X.length = (cs8 (List.replicate 64 0)).length) := Lib.hid (by rw [HXl.out]; simp [cs8])
  have G3 : Hid (∀ w2 w3, Below w.heap.size w w2 → w.heap.size < w2.heap.size → Row w3 w2.heap.size 257 X → Only w2.heap.size (w2.alloc (.cells #[.int .u8 0, .int .u8 0, .int .u8 0, .int .u8 0, .int .u8 0, .int .u8 0, .int .u8 0, .int .u8 0, .int .u8 0, .int .u8 0, .int .u8 0, .int .u8 0, .int .u8 0, .int .u8 0, .int .u8 0, .int .u8 0, .int .u8 0, .int .u8 0, .int .u8 0, .int .u8 0, .int .u8 0, .int .u8 0, .int .u8 0, .int .u8 0, .int .u8 0, .int .u8 0, .int .u8 0, .int .u8 0, .int .u8 0, .int .u8 0, .int .u8 0, .int .u8 0, .int .u8 0, .int .u8 0, .int .u8 0, .int .u8 0, .int .u8 0, .int .u8 0, .int .u8 0, .int .u8 0, .int .u8 0, .int .u8 0, .int .u8 0, .int .u8 0, .int .u8 0, .int .u8 0, .int .u8 0, .int .u8 0, .int .u8 0, .int .u8 0, .int .u8 0, .int .u8 0, .int .u8 0, .int .u8 0, .int .u8 0, .int .u8 0, .int .u8 0, .int .u8 0, .int .u8 0, .int .u8 0, .int .u8 0, .int .u8 0, .int .u8 0, .int .u8 0] 257)) w3 →
      w3.cell? ⟨g, 138, none⟩ = some (.int .i64 48) ∧ Hid (w3.ownsRow base 5 1 v 0 []) ∧ Hid (∀ (j : Nat) (u : Value), (X.take 48)[j]? = some u → w3.cell? ((⟨w2.heap.size, 0, none⟩ : Addr).add j) = some u) ∧ Hid (base ≤ w3.heap.size) ∧ Hid (Below w.heap.size w w3)) := by
    refine Lib.hid fun w2 w3 b2 l2 r3 o3 => ?_
    have hb : Below w2.heap.size w2 w3 := ((Below.refl _ _).alloc (Nat.le_refl _) _).trans (o3.below (Nat.le_refl _))
    have hb3 : Below w.heap.size w w3 := b2.trans (hb.mono b2.size)
    refine ⟨?_, ?_, ?_, ?_, Lib.hid hb3⟩
    · rw [hb3.cell (p := ⟨g, 138, none⟩) HR.out.lt, HR.out.cell, ecell_sz Hx.out, Hsz.out]
    · refine Lib.hid (Hown.out.kept (grown_of_below hb3 none) ?_)
      cases h : v.ownBlock with
      | none => exact Or.inl rfl
      | some k => exact Or.inr (by simp)
    · exact Lib.hid (r3.cells_at 0 (X.take 48) (fun j u hj => by rw [Nat.zero_add]; rw [List.getElem?_take] at hj; split at hj; exact hj; cases hj))
    · exact Lib.hid (Nat.le_trans hbase hb3.size)
  have hsl := fun D wx => run_arr_to (P := Tryz.prog) 257 5 64 Tryz.underlying257 (by kernel_rfl) D 0 48 .i64 48 rfl (by decide) wx
  go_enter Tryz.func275, Tryz.ntmps275
  go_wp2_with (first | (refine wpList_load_row rfl 263 (.tmp 10) rfl g rfl 263 d.cells.toArray (0, 0) _ (HR.out.allocd _) Tryz.underlying263 rfl hs1.out ?_) | (refine wpl_store_row rfl 263 (.tmp 12) (.tmp 11) rfl d.cells rfl w.heap.size rfl 263 _ Z1.out hs2.out hs3.out Hdc.out ?_; intro w1 r1 o1; have G1 := Lib.hid (G.out w1 r1 o1); clear r1 o1) | (go_at_call 278; refine G1.out.mono ?_; rintro e w2 ⟨rfl, b2, l2⟩) | (refine wpl_store_row rfl 257 (.tmp 6) (.tmp 14) rfl X rfl w2.heap.size rfl 257 _ (Z2.out w2) hs5.out hs4.out HX1.out ?_; intro w3 r3 o3; obtain ⟨c3, own3, new3, base3, b3⟩ := G3.out w2 w3 b2.out l2.out r3 o3; clear r3 o3) | (refine wpList_append_own _ rfl (.tmp 15) (.tmp 20) 22 rfl base 5 i0 (.int .u8 0) 1 1 Tryz.underlying22 Hi.out Hz0.out Hz1.out Hz2.out rfl (by decide) v 0 [] rfl own3.out ⟨w2.heap.size, 0, none⟩ 48 64 (X.take 48) rfl HXt.out new3.out HXt1.out (by decide) (by decide) base3.out ?_; intro v4 w4 own4 g4 _; have own4 := Lib.hid own4; have g4 := Lib.hid g4))
  go_ret
  refine ⟨v4, rfl, ?_, grown_trans (grown_of_below b3.out _) g4.out⟩
  have := own4.out
  rwa [Nat.zero_add, List.nil_append] at this
end Go.Proofs.YtaemdppihpefnaaGreatDoor
