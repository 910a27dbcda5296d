/- The algorithms HS256, HS384, HS512 out of the registry. -/
import Derived.Test.YtaemdppihpefnaaGreatDoorReg
namespace Go.Proofs.YtaemdppihpefnaaGreatDoor
open Go.RowKit
set_option linter.unusedVariables false

/-- A name that is registered as a symmetric signature's. -/
def HsName (s : ByteArray) : Prop := ∃ l r, regT = l ++ (s, saE (s, [false, true]) |>.2) :: r ∧ (∀ x ∈ l, (s == x.1) = false) ∧ (s == s) = true
def hsName (n : Nat) : ByteArray := if n = 0 then ⟨#[72, 83, 50, 53, 54]⟩ else if n = 1 then ⟨#[72, 83, 51, 56, 52]⟩ else ⟨#[72, 83, 53, 49, 50]⟩
theorem hs_at (i : Nat) (s : ByteArray) (hi : regNames[i]? = some s) (he : regT = regT.take i ++ (s, (saE (s, [false, true])).2) :: regT.drop (i + 1)) (hs : (s == s) = true) : HsName s := by
  refine ⟨regT.take i, regT.drop (i + 1), he, ?_, hs⟩
  have hn : regNames = regT.map (·.1) := rfl
  intro x hx
  refine fresh_spec regNames reg_fresh i s hi x.1 ?_
  rw [hn, ← List.map_take]
  exact List.mem_map_of_mem hx
theorem hs0 : HsName ⟨#[72, 83, 50, 53, 54]⟩ := hs_at 31 _ (by decide +kernel) (by kernel_rfl) (by decide +kernel)
theorem hs1 : HsName ⟨#[72, 83, 51, 56, 52]⟩ := hs_at 32 _ (by decide +kernel) (by kernel_rfl) (by decide +kernel)
theorem hs2 : HsName ⟨#[72, 83, 53, 49, 50]⟩ := hs_at 33 _ (by decide +kernel) (by kernel_rfl) (by decide +kernel)

/-- Two results, of which the first lies in a row. -/
theorem results_cell_tmp {P : Program} {fn : Func} {p q : Tmp} {ty : TypeId} (h : fn.results = #[.cell p ty, .tmp q]) (tmps : Array Value) (w : World) (g : Nat) (t : TypeId) (cs : Array Value) (fr : Nat × Nat) (d : TypeDesc) {v : Value}
    (hp : tmps.getD p undef = .pointer (some ⟨g, 0, none⟩)) (hg : w.heap[g]? = some (.cells cs t fr))
    (hu : P.underlying ty = some d) (hd : (match d with | .struct _ | .array _ _ => true | _ => false) = true) (hi : (P.info? ty).map (·.size) = some cs.size) (hq : tmps.getD q undef = v) :
    (results fn tmps).run P w = .ok (.tuple #[.agg cs, v]) w := by
  have hp' : tmps[p]?.getD undef = .pointer (some ⟨g, 0, none⟩) := by simpa using hp
  have hq' : tmps[q]?.getD undef = v := by simpa using hq
  simp [results, h, hp', hq', asAddr, run_loadVar_row w g t ty cs fr d hg hu hd hi]

set_option maxRecDepth 100000 in
set_option maxHeartbeats 1000000 in
theorem lookAlg (s : ByteArray) (h : HsName s) (w : World) :
    Calls Tryz.prog 84 #[.int .u8 1, .string s] w fun e w' => e = .returned (.tuple #[.iface 112 (.agg #[.string s, .bool false, .bool true]), .bool true]) ∧ Below w.heap.size w w' := by
  obtain ⟨l, r, hreg, hfr, hss⟩ := h
  have hget := fun (wy : World) (hA : MapAt wy w.heap.size regT) => run_mapGet (P := Tryz.prog) 250 9 248 Tryz.underlying250 Tryz.underlying9 w.heap.size l r s (.agg #[.int .u8 1, .iface 112 (.agg #[.string s, .bool false, .bool true]), .bool true]) hfr hss wy (by rw [hreg] at hA; exact hA)
  have Hget := Lib.hid hget
  clear hget hfr hss hreg
  go_enter Tryz.func84, Tryz.ntmps84
  go_wp2_with (go_at_call 115; refine (registry _).mono ?_; rintro e w1 ⟨rfl, m1, b1⟩; have hg := Hget.out w1 m1; have b1 := Lib.hid b1; clear m1)
  go_ret2
  refine ⟨rfl, b1.out.trans ((Below.refl _ _).alloc ?_ _)⟩
  exact b1.out.size

set_option maxRecDepth 100000 in
set_option maxHeartbeats 1000000 in
theorem lookBuiltin (s : ByteArray) (h : HsName s) (w : World) :
    Calls Tryz.prog 116 #[.string s] w fun e w' => e = .returned (.agg #[.string s, .bool false, .bool true]) ∧ Below w.heap.size w w' := by
  have G := fun wx => Lib.hid (lookAlg s h wx)
  have dn : ∀ (b : Bool) (wx : World), (Op.unary .not (.bool b)).run Tryz.prog wx = .ok (.bool (!b)) wx := fun _ _ => rfl
  have hta : ∀ wx, (Instr.typeAssert (.iface 112 (.agg #[.string s, .bool false, .bool true])) 201 112 false).run Tryz.prog wx = .ok (.agg #[.string s, .bool false, .bool true]) wx := fun _ => by kernel_rfl
  have hi : (Tryz.prog.info? 112).map (·.size) = some 3 := by kernel_rfl
  have hi := Lib.hid hi
  go_enter Tryz.func116, Tryz.ntmps116
  go_wp2_with (first | (go_at_call 84; refine (G _).out.mono ?_; rintro e w1 ⟨rfl, b1⟩; have b1 := Lib.hid b1; have r1 := Lib.hid (Row.below (Row.new w _ _ _ rfl) b1.out (by simp))) | (refine wpl_store_row rfl 112 (.tmp 2) (.tmp 14) rfl [.string s, .bool false, .bool true] rfl w.heap.size rfl 112 _ r1.out rfl hi.out (one_sb3 _ _ _) ?_; intro w2 r2 o2; have r2 := Lib.hid r2; have o2 := Lib.hid o2))
  refine bodyPost_ret (v := .agg #[.string s, .bool false, .bool true]) (results_cell_row rfl _ _ w.heap.size 112 _ (0, 0) _ rfl r2.out Tryz.underlying112 rfl hi.out) rfl ⟨rfl, ((((Below.refl _ _).alloc (Nat.le_refl _) _).trans (b1.out.mono (by simp))).trans (o2.out.below (Nat.le_refl _)))⟩

set_option maxRecDepth 100000 in
set_option maxHeartbeats 1000000 in
theorem lookSig (s : ByteArray) (h : HsName s) (w : World) :
    Calls Tryz.prog 66 #[.string s] w fun e w' => e = .returned (.tuple #[.agg #[.string s, .bool false, .bool true], .bool true]) ∧ Below w.heap.size w w' := by
  have G := fun wx => Lib.hid (lookAlg s h wx)
  have hta : ∀ wx, (Instr.typeAssert (.iface 112 (.agg #[.string s, .bool false, .bool true])) 201 112 false).run Tryz.prog wx = .ok (.agg #[.string s, .bool false, .bool true]) wx := fun _ => by kernel_rfl
  have hi : (Tryz.prog.info? 112).map (·.size) = some 3 := by kernel_rfl
  have hi := Lib.hid hi
  go_enter Tryz.func66, Tryz.ntmps66
  go_wp2_with (first | (go_at_call 84; refine (G _).out.mono ?_; rintro e w1 ⟨rfl, b1⟩; have b1 := Lib.hid b1; have r1 := Lib.hid (Row.below (Row.new w _ _ _ rfl) b1.out (by simp))) | (refine wpl_store_row rfl 112 (.tmp 2) (.tmp 14) rfl [.string s, .bool false, .bool true] rfl w.heap.size rfl 112 _ r1.out rfl hi.out (one_sb3 _ _ _) ?_; intro w2 r2 o2; have r2 := Lib.hid r2; have o2 := Lib.hid o2))
  refine bodyPost_ret (v := .tuple #[.agg #[.string s, .bool false, .bool true], .bool true]) (results_cell_tmp rfl _ _ w.heap.size 112 _ (0, 0) _ rfl r2.out Tryz.underlying112 rfl hi.out rfl) rfl ⟨rfl, ((((Below.refl _ _).alloc (Nat.le_refl _) _).trans (b1.out.mono (by simp))).trans (o2.out.below (Nat.le_refl _)))⟩

set_option maxRecDepth 100000 in
set_option maxHeartbeats 1000000 in
theorem alg0 (w : World) :
    Calls Tryz.prog 85 #[] w fun e w' => e = .returned (.agg #[.string ⟨#[72, 83, 50, 53, 54]⟩, .bool false, .bool true]) ∧ Below w.heap.size w w' := by
  have G := fun wx => Lib.hid (lookBuiltin ⟨#[72, 83, 50, 53, 54]⟩ hs0 wx)
  have hi : (Tryz.prog.info? 112).map (·.size) = some 3 := by kernel_rfl
  have hi := Lib.hid hi
  go_enter Tryz.func85, Tryz.ntmps85
  go_wp2_with (first | (go_at_call 116; refine (G _).out.mono ?_; rintro e w1 ⟨rfl, b1⟩; have b1 := Lib.hid b1; have r1 := Lib.hid (Row.below (Row.new w _ _ _ rfl) b1.out (by simp))) | (refine wpl_store_row rfl 112 (.tmp 0) (.tmp 1) rfl [.string ⟨#[72, 83, 50, 53, 54]⟩, .bool false, .bool true] rfl w.heap.size rfl 112 _ r1.out rfl hi.out (one_sb3 _ _ _) ?_; intro w2 r2 o2; have r2 := Lib.hid r2; have o2 := Lib.hid o2))
  refine bodyPost_ret (v := .agg #[.string ⟨#[72, 83, 50, 53, 54]⟩, .bool false, .bool true]) (results_cell_row rfl _ _ w.heap.size 112 _ (0, 0) _ rfl r2.out Tryz.underlying112 rfl hi.out) rfl ⟨rfl, ((((Below.refl _ _).alloc (Nat.le_refl _) _).trans (b1.out.mono (by simp))).trans (o2.out.below (Nat.le_refl _)))⟩

set_option maxRecDepth 100000 in
set_option maxHeartbeats 1000000 in
theorem hmacOf0 (w : World) :
    Calls Tryz.prog 43 #[.string ⟨#[72, 83, 50, 53, 54]⟩] w fun e w' => e = .returned (.tuple #[.agg #[.string ⟨#[72, 83, 50, 53, 54]⟩, .bool false, .bool true], .bool true]) ∧ Below w.heap.size w w' := by
  have G := fun wx => Lib.hid (lookSig ⟨#[72, 83, 50, 53, 54]⟩ hs0 wx)
  have hi : (Tryz.prog.info? 112).map (·.size) = some 3 := by kernel_rfl
  have hi := Lib.hid hi
  go_enter Tryz.func43, Tryz.ntmps43
  go_wp2_with (first | (go_at_call 66; refine (G _).out.mono ?_; rintro e w1 ⟨rfl, b1⟩; have b1 := Lib.hid b1; have r1 := Lib.hid (Row.below (Row.new w _ _ _ rfl) b1.out (by simp))) | (refine wpl_store_row rfl 112 (.tmp 2) (.tmp 11) rfl [.string ⟨#[72, 83, 50, 53, 54]⟩, .bool false, .bool true] rfl w.heap.size rfl 112 _ r1.out rfl hi.out (one_sb3 _ _ _) ?_; intro w2 r2 o2; have r2 := Lib.hid r2; have o2 := Lib.hid o2))
  refine bodyPost_ret (v := .tuple #[.agg #[.string ⟨#[72, 83, 50, 53, 54]⟩, .bool false, .bool true], .bool true]) (results_cell_tmp rfl _ _ w.heap.size 112 _ (0, 0) _ rfl r2.out Tryz.underlying112 rfl hi.out rfl) rfl ⟨rfl, ((((Below.refl _ _).alloc (Nat.le_refl _) _).trans (b1.out.mono (by simp))).trans (o2.out.below (Nat.le_refl _)))⟩

set_option maxRecDepth 100000 in
set_option maxHeartbeats 1000000 in
theorem alg1 (w : World) :
    Calls Tryz.prog 89 #[] w fun e w' => e = .returned (.agg #[.string ⟨#[72, 83, 51, 56, 52]⟩, .bool false, .bool true]) ∧ Below w.heap.size w w' := by
  have G := fun wx => Lib.hid (lookBuiltin ⟨#[72, 83, 51, 56, 52]⟩ hs1 wx)
  have hi : (Tryz.prog.info? 112).map (·.size) = some 3 := by kernel_rfl
  have hi := Lib.hid hi
  go_enter Tryz.func89, Tryz.ntmps89
  go_wp2_with (first | (go_at_call 116; refine (G _).out.mono ?_; rintro e w1 ⟨rfl, b1⟩; have b1 := Lib.hid b1; have r1 := Lib.hid (Row.below (Row.new w _ _ _ rfl) b1.out (by simp))) | (refine wpl_store_row rfl 112 (.tmp 0) (.tmp 1) rfl [.string ⟨#[72, 83, 51, 56, 52]⟩, .bool false, .bool true] rfl w.heap.size rfl 112 _ r1.out rfl hi.out (one_sb3 _ _ _) ?_; intro w2 r2 o2; have r2 := Lib.hid r2; have o2 := Lib.hid o2))
  refine bodyPost_ret (v := .agg #[.string ⟨#[72, 83, 51, 56, 52]⟩, .bool false, .bool true]) (results_cell_row rfl _ _ w.heap.size 112 _ (0, 0) _ rfl r2.out Tryz.underlying112 rfl hi.out) rfl ⟨rfl, ((((Below.refl _ _).alloc (Nat.le_refl _) _).trans (b1.out.mono (by simp))).trans (o2.out.below (Nat.le_refl _)))⟩

set_option maxRecDepth 100000 in
set_option maxHeartbeats 1000000 in
theorem hmacOf1 (w : World) :
    Calls Tryz.prog 43 #[.string ⟨#[72, 83, 51, 56, 52]⟩] w fun e w' => e = .returned (.tuple #[.agg #[.string ⟨#[72, 83, 51, 56, 52]⟩, .bool false, .bool true], .bool true]) ∧ Below w.heap.size w w' := by
  have G := fun wx => Lib.hid (lookSig ⟨#[72, 83, 51, 56, 52]⟩ hs1 wx)
  have hi : (Tryz.prog.info? 112).map (·.size) = some 3 := by kernel_rfl
  have hi := Lib.hid hi
  go_enter Tryz.func43, Tryz.ntmps43
  go_wp2_with (first | (go_at_call 66; refine (G _).out.mono ?_; rintro e w1 ⟨rfl, b1⟩; have b1 := Lib.hid b1; have r1 := Lib.hid (Row.below (Row.new w _ _ _ rfl) b1.out (by simp))) | (refine wpl_store_row rfl 112 (.tmp 2) (.tmp 11) rfl [.string ⟨#[72, 83, 51, 56, 52]⟩, .bool false, .bool true] rfl w.heap.size rfl 112 _ r1.out rfl hi.out (one_sb3 _ _ _) ?_; intro w2 r2 o2; have r2 := Lib.hid r2; have o2 := Lib.hid o2))
  refine bodyPost_ret (v := .tuple #[.agg #[.string ⟨#[72, 83, 51, 56, 52]⟩, .bool false, .bool true], .bool true]) (results_cell_tmp rfl _ _ w.heap.size 112 _ (0, 0) _ rfl r2.out Tryz.underlying112 rfl hi.out rfl) rfl ⟨rfl, ((((Below.refl _ _).alloc (Nat.le_refl _) _).trans (b1.out.mono (by simp))).trans (o2.out.below (Nat.le_refl _)))⟩

set_option maxRecDepth 100000 in
set_option maxHeartbeats 1000000 in
theorem alg2 (w : World) :
    Calls Tryz.prog 92 #[] w fun e w' => e = .returned (.agg #[.string ⟨#[72, 83, 53, 49, 50]⟩, .bool false, .bool true]) ∧ Below w.heap.size w w' := by
  have G := fun wx => Lib.hid (lookBuiltin ⟨#[72, 83, 53, 49, 50]⟩ hs2 wx)
  have hi : (Tryz.prog.info? 112).map (·.size) = some 3 := by kernel_rfl
  have hi := Lib.hid hi
  go_enter Tryz.func92, Tryz.ntmps92
  go_wp2_with (first | (go_at_call 116; refine (G _).out.mono ?_; rintro e w1 ⟨rfl, b1⟩; have b1 := Lib.hid b1; have r1 := Lib.hid (Row.below (Row.new w _ _ _ rfl) b1.out (by simp))) | (refine wpl_store_row rfl 112 (.tmp 0) (.tmp 1) rfl [.string ⟨#[72, 83, 53, 49, 50]⟩, .bool false, .bool true] rfl w.heap.size rfl 112 _ r1.out rfl hi.out (one_sb3 _ _ _) ?_; intro w2 r2 o2; have r2 := Lib.hid r2; have o2 := Lib.hid o2))
  refine bodyPost_ret (v := .agg #[.string ⟨#[72, 83, 53, 49, 50]⟩, .bool false, .bool true]) (results_cell_row rfl _ _ w.heap.size 112 _ (0, 0) _ rfl r2.out Tryz.underlying112 rfl hi.out) rfl ⟨rfl, ((((Below.refl _ _).alloc (Nat.le_refl _) _).trans (b1.out.mono (by simp))).trans (o2.out.below (Nat.le_refl _)))⟩

set_option maxRecDepth 100000 in
set_option maxHeartbeats 1000000 in
theorem hmacOf2 (w : World) :
    Calls Tryz.prog 43 #[.string ⟨#[72, 83, 53, 49, 50]⟩] w fun e w' => e = .returned (.tuple #[.agg #[.string ⟨#[72, 83, 53, 49, 50]⟩, .bool false, .bool true], .bool true]) ∧ Below w.heap.size w w' := by
  have G := fun wx => Lib.hid (lookSig ⟨#[72, 83, 53, 49, 50]⟩ hs2 wx)
  have hi : (Tryz.prog.info? 112).map (·.size) = some 3 := by kernel_rfl
  have hi := Lib.hid hi
  go_enter Tryz.func43, Tryz.ntmps43
  go_wp2_with (first | (go_at_call 66; refine (G _).out.mono ?_; rintro e w1 ⟨rfl, b1⟩; have b1 := Lib.hid b1; have r1 := Lib.hid (Row.below (Row.new w _ _ _ rfl) b1.out (by simp))) | (refine wpl_store_row rfl 112 (.tmp 2) (.tmp 11) rfl [.string ⟨#[72, 83, 53, 49, 50]⟩, .bool false, .bool true] rfl w.heap.size rfl 112 _ r1.out rfl hi.out (one_sb3 _ _ _) ?_; intro w2 r2 o2; have r2 := Lib.hid r2; have o2 := Lib.hid o2))
  refine bodyPost_ret (v := .tuple #[.agg #[.string ⟨#[72, 83, 53, 49, 50]⟩, .bool false, .bool true], .bool true]) (results_cell_tmp rfl _ _ w.heap.size 112 _ (0, 0) _ rfl r2.out Tryz.underlying112 rfl hi.out rfl) rfl ⟨rfl, ((((Below.refl _ _).alloc (Nat.le_refl _) _).trans (b1.out.mono (by simp))).trans (o2.out.below (Nat.le_refl _)))⟩
end Go.Proofs.YtaemdppihpefnaaGreatDoor
