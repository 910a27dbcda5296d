/- Bytes that lie outside a block; cuts of them. -/
import Derived.Test.YtaemdppihpefnaaGreatDoorBase
import Derived.Laws.CopyRow
import Derived.Laws.Rows
namespace Go.Proofs.YtaemdppihpefnaaGreatDoor
open Go.RowKit
set_option linter.unusedVariables false

theorem Only.thn {g : Nat} {a b c : World} (h : Only g a b) (k : Only g b c) : Only g a c :=
  ⟨k.os.trans h.os, k.tape.trans h.tape, k.output.trans h.output, k.size.trans h.size, fun n hn => (k.block n hn).trans (h.block n hn)⟩
theorem But.only_new {g k : Nat} {w w1 w2 : World} (h : But g w w1) (o : Only k w1 w2) (hk : w.heap.size ≤ k) : But g w w2 :=
  ⟨o.os.trans h.os, o.tape.trans h.tape, o.output.trans h.output, by rw [o.size]; exact h.size, fun i hi hg => (o.block i (by omega)).trans (h.block i hi hg)⟩
theorem But.alloc {g : Nat} {w w1 : World} (h : But g w w1) (o : Obj) : But g w (w1.alloc o) :=
  ⟨h.os, h.tape, h.output, by have := h.size; simp; omega, fun i hi hg => ((Below.refl w1.heap.size w1).alloc (Nat.le_refl _) o |>.block i (Nat.lt_of_lt_of_le hi h.size)).trans (h.block i hi hg)⟩
theorem Row.allocd {w : World} {g : Nat} {t : TypeId} {cur : List Value} (h : Row w g t cur) (o : Obj) : Row (w.alloc o) g t cur :=
  h.below ((Below.refl w.heap.size w).alloc (Nat.le_refl _) o) h.lt
theorem grown_of_below {w w' : World} (h : Below w.heap.size w w') (r : Option Nat) : w.grownBy w' r := ⟨h.os, h.tape, h.output, h.size, fun k hk _ => h.block k hk⟩
theorem grown_trans {w w1 w2 : World} {r : Option Nat} (h : w.grownBy w1 r) (k : w1.grownBy w2 r) : w.grownBy w2 r :=
  ⟨k.os.trans h.os, k.tape.trans h.tape, k.output.trans h.output, Nat.le_trans h.size k.size, fun i hi hr => (k.block i (Nat.lt_of_lt_of_le hi h.size) hr).trans (h.block i hi hr)⟩
theorem below_drewd {B : Nat} {a w : World} (h : Below B a w) : Below B a w.drew := ⟨h.os, h.tape, h.output, h.size, h.block⟩
theorem row_drewd {w : World} {g : Nat} {T : TypeId} {cur : List Value} (h : Row w g T cur) : Row w.drew g T cur := h
theorem But.trans_below {g B : Nat} {a b c : World} (h : But g a b) (k : Below B b c) (hB : a.heap.size ≤ B) : But g a c :=
  ⟨k.os.trans h.os, k.tape.trans h.tape, k.output.trans h.output, Nat.le_trans h.size k.size, fun i hi hg => (k.block i (by omega)).trans (h.block i hi hg)⟩
theorem cs8_splice (x p : List Int) (o : Nat) : splice (cs8 x) o (cs8 p) = cs8 (splice x o p) := by
  simp [splice, cs8, List.map_take, List.map_drop]
/-- The slice v does not lead into block g. -/
def Off (g : Nat) (v : Value) : Prop := ∀ a n c, v = .slice (some a) n c → 0 < n → a.block ≠ g
theorem Bs.but {w w' : World} {g : Nat} {v : Value} {xs : List Int} (h : Bs w v xs) (ho : Off g v) (hb : But g w w') : Bs w' v xs := by
  obtain ⟨p, c, rfl, hc, hn, hx⟩ := h
  refine ⟨p, c, rfl, hc, hn, fun hl => ?_⟩
  obtain ⟨b, o, rfl, hcell⟩ := hx hl
  have hbg : b ≠ g := ho ⟨b, o, none⟩ _ _ rfl hl
  refine ⟨b, o, rfl, fun i hi => ?_⟩
  have h1 := hcell i hi
  have hlt : b < w.heap.size := World.block_lt_of_cell? w _ h1
  rw [World.cell?_of_block (w := w) (w' := w') (a := ⟨b, o + i, none⟩) (hb.block b hlt hbg)]
  exact h1
theorem Off.of_old {w : World} {g : Nat} {v : Value} {xs : List Int} (h : Bs w v xs) (hg : w.heap.size ≤ g) : Off g v := by
  intro a n c hv hn hag
  obtain ⟨p, c', hv', _, _, hx⟩ := h
  rw [hv'] at hv
  simp only [Value.slice.injEq] at hv
  obtain ⟨rfl, rfl, rfl⟩ := hv
  obtain ⟨b, o, hp, hcell⟩ := hx hn
  cases hp
  have h1 := hcell 0 hn
  have hlt : b < w.heap.size := World.block_lt_of_cell? w _ h1
  have : b = g := hag
  omega
theorem Off.of_own {w : World} {g B : Nat} {e : TypeId} {v : Value} {n : Nat} {xs : List Value} (h : w.ownsRow B e 1 v n xs) (hg : g < B) : Off g v := by
  intro a m c hv _
  have := (h.lt a.block (by rw [hv]; rfl)).1
  omega
theorem Row.cells_at {w : World} {g : Nat} {t : TypeId} {cur : List Value} (h : Row w g t cur) (o : Nat) (xs : List Value) (hx : ∀ j v, xs[j]? = some v → cur[o + j]? = some v) :
    ∀ (j : Nat) v, xs[j]? = some v → w.cell? ((⟨g, o, none⟩ : Addr).add j) = some v := by
  intro j v hj
  rw [Go.WideShapes.add_plain, h.cell]
  exact hx j v hj
/-- The bytes at the beginning, where they are copied from. -/
theorem Bs.head {w : World} {a : Addr} {n c : Nat} {xs : List Int} (h : Bs w (.slice (some a) n c) xs) (k : Nat) : ∀ (j : Nat) u, (cs8 (xs.take k))[j]? = some u → w.cell? (a.add j) = some u := by
  intro j u hj
  refine h.cells.2 j u ?_
  unfold cs8 at hj ⊢
  rw [List.map_take] at hj
  rw [List.getElem?_take] at hj
  split at hj
  · exact hj
  · cases hj
/-- 'x[l:]' at an array behind a pointer. -/
theorem run_arr_from {P : Program} (t elem : TypeId) (n : Nat) (ht : P.underlying t = some (.array n elem)) (hs : (P.info? elem).map (·.size) = some 1)
    (g o l : Nat) (k : IntKind) (L : Int) (hL : L = (l : Int)) (hl : l < n) (w : World) :
    (Instr.sliceAt t (.pointer (some ⟨g, o, none⟩)) (some (.int k L)) none none).run P w = .ok (.slice (some ⟨g, o + l, none⟩) (n - l) (n - l)) w := by
  subst hL
  obtain ⟨i, hi, hsz⟩ := Option.map_eq_some_iff.1 hs
  simp [Instr.sliceAt, Instr.slice, Instr.sliceBounds, Instr.sliceBound, asIntOf, Instr.sureAddr, asAddr, run_underlying ht, sizeOf, typeInfo, hi, hsz, show ¬ n = l by omega, Go.WideShapes.add_plain]
  intro hh; exact absurd hh (by omega)
/-- 'x[:h]' at an array behind a pointer. -/
theorem run_arr_to {P : Program} (t elem : TypeId) (n : Nat) (ht : P.underlying t = some (.array n elem)) (hs : (P.info? elem).map (·.size) = some 1)
    (g o l : Nat) (k : IntKind) (L : Int) (hL : L = (l : Int)) (hl : l ≤ n) (w : World) :
    (Instr.sliceAt t (.pointer (some ⟨g, o, none⟩)) none (some (.int k L)) none).run P w = .ok (.slice (some ⟨g, o, none⟩) l n) w := by
  subst hL
  obtain ⟨i, hi, hsz⟩ := Option.map_eq_some_iff.1 hs
  simp [Instr.sliceAt, Instr.slice, Instr.sliceBounds, Instr.sliceBound, asIntOf, Instr.sureAddr, asAddr, run_underlying ht, sizeOf, typeInfo, hi, Addr.add]
  intro hh; exact absurd hh (by omega)
/-- 'x[l:]' at a slice whose address is known. -/
theorem run_sl_from {P : Program} (t e : TypeId) (ht : P.underlying t = some (.slice e)) (hs : (P.info? e).map (·.size) = some 1)
    (g o n c l o' n' c' : Nat) (k : IntKind) (L : Int) (hL : L = (l : Int)) (hl : l ≤ n) (hc : l < c) (ho : o + l = o') (hn' : n - l = n') (hc' : c - l = c') (w : World) :
    (Instr.sliceAt t (.slice (some ⟨g, o, none⟩) n c) (some (.int k L)) none none).run P w = .ok (.slice (some ⟨g, o', none⟩) n' c') w := by
  subst hL ho hn' hc'
  obtain ⟨i, hi, hsz⟩ := Option.map_eq_some_iff.1 hs
  simp [Instr.sliceAt, Instr.slice, Instr.sliceBounds, Instr.sliceBound, asIntOf, run_underlying ht, sizeOf, typeInfo, hi, hsz, show ¬ c = l by omega, Go.WideShapes.add_plain]
  intro hh; exact absurd hh (by omega)
/-- 'make([]T, n)', as an equation. -/
theorem run_make_row0 {P : Program} (t e : TypeId) (z : Value) (bytes : Nat) (ht : P.underlying t = some (.slice e)) (hi : (P.info? e).map (fun i => (i.zero, i.size, i.bytes)) = some (some z, 1, bytes)) (hzc : z.cells = #[z])
    (kl kc : IntKind) (n : Nat) (hb2 : bytes * n ≤ 281474976710656) (h63 : n ≤ maxLen) (w : World) :
    (Instr.makeSlice t (.int kl n) (.int kc n)).run P w = .ok (.slice (some ⟨w.heap.size, 0, none⟩) n n) (w.alloc (.cells (List.replicate n z).toArray e)) := by
  obtain ⟨i, hi1, hz, hs, hby⟩ := info_parts hi
  subst hby
  have h63' : (n : Int) ≤ 9223372036854775807 := by
    have h := h63
    simp [maxLen] at h
    omega
  have hb' : (i.bytes : Int) * (n : Int) ≤ 281474976710656 := by
    have h : ((i.bytes * n : Nat) : Int) ≤ 281474976710656 := by omega
    rwa [Int.natCast_mul] at h
  have hr := run_make (P := P) w t e i z ht hi1 hz kl kc n n (by omega) (Int.le_refl _) hb' h63'
  rw [hs, Nat.mul_one, Int.toNat_natCast, made_one z hzc n] at hr
  exact hr
section laws
variable {P : Program} {w : World} {ops : Array Oper} {rest : List Oper} {o : Oper} {a : Act} {Q : Exit → Act → World → Prop}

/-- 'x[l:]' at a slice that is one of bytes in some world. -/
theorem wpl_from0 (hgd : o.guard = none) (x lo : Operand) (t : TypeId) (ho : o.op = Op.slice t x (some lo) none none) (e : TypeId) (ht : P.underlying t = some (.slice e)) (hs : (P.info? e).map (·.size) = some 1)
    (v : Value) (hx : a.eval x = v) (xs : List Int) (w0 : World) (hb : Bs w0 v xs) (k : IntKind) (L : Int) (l : Nat) (hl : a.eval lo = .int k L) (hL : L = (l : Int)) (hle : l ≤ xs.length)
    (h : ∀ v', (∀ w', Bs w' v xs → Bs w' v' (xs.drop l)) → wpList P ops Q rest (a.put o.dst v') w) : wpList P ops Q (o :: rest) a w := by
  subst hL
  obtain ⟨p, c, rfl, hc, hn⟩ := id hb
  refine wpList_plain hgd fun K hK => ?_
  obtain ⟨i, hi, hsz⟩ := Option.map_eq_some_iff.1 hs
  have hb2 : ∀ w', Bs w' (.slice p xs.length c) xs → Bs w' (.slice (cutA p l c) (xs.length - l) (c - l)) (xs.drop l) := fun w' hb => by
    have hb2 := hb.cut l xs.length hle (Nat.le_refl _)
    rwa [List.take_length] at hb2
  have hr : (Instr.sliceAt t (.slice p xs.length c) (some (.int k l)) none none).run P w = .ok (.slice (cutA p l c) (xs.length - l) (c - l)) w := by
    simp [Instr.sliceAt, Instr.slice, Instr.sliceBounds, Instr.sliceBound, asIntOf, run_underlying ht, sizeOf, typeInfo, hi, hsz, cutA]
    intro hh; exact absurd hh (by omega)
  unfold Oper.wp
  simp only [execOp, ho, hx, hl, Option.map_some, Option.map_none, Sem.run_bind, Sem.run_pure, hr, Result.andThen_ok, Oper.upon]
  exact hK _ _ (h _ hb2)

/-- 'x[:h]' at a slice that is one of bytes in some world. -/
theorem wpl_to0 (hgd : o.guard = none) (x hi : Operand) (t : TypeId) (ho : o.op = Op.slice t x none (some hi) none) (e : TypeId) (ht : P.underlying t = some (.slice e)) (hs : (P.info? e).map (·.size) = some 1)
    (v : Value) (hx : a.eval x = v) (xs : List Int) (w0 : World) (hb : Bs w0 v xs) (k : IntKind) (L : Int) (l : Nat) (hl : a.eval hi = .int k L) (hL : L = (l : Int)) (hle : l ≤ xs.length)
    (h : ∀ v', (∀ w', Bs w' v xs → Bs w' v' (xs.take l)) → wpList P ops Q rest (a.put o.dst v') w) : wpList P ops Q (o :: rest) a w := by
  subst hL
  obtain ⟨p, c, rfl, hc, hn⟩ := id hb
  refine wpList_plain hgd fun K hK => ?_
  obtain ⟨i, hi1, hsz⟩ := Option.map_eq_some_iff.1 hs
  have hb2 : ∀ w', Bs w' (.slice p xs.length c) xs → Bs w' (.slice (cutA p 0 c) (l - 0) (c - 0)) (xs.take l) := fun w' hb => by
    have hb2 := hb.cut 0 l (Nat.zero_le _) hle
    rwa [List.drop_zero] at hb2
  have hr : (Instr.sliceAt t (.slice p xs.length c) none (some (.int k l)) none).run P w = .ok (.slice (cutA p 0 c) (l - 0) (c - 0)) w := by
    simp [Instr.sliceAt, Instr.slice, Instr.sliceBounds, Instr.sliceBound, asIntOf, run_underlying ht, sizeOf, typeInfo, hi1, cutA]
    intro hh; exact absurd hh (by omega)
  unfold Oper.wp
  simp only [execOp, ho, hx, hl, Option.map_some, Option.map_none, Sem.run_bind, Sem.run_pure, hr, Result.andThen_ok, Oper.upon]
  exact hK _ _ (h _ hb2)
/-- A whole variable is stored into a row of its own. -/
theorem wpl_store_row (hgd : o.guard = none) (t : TypeId) (x v : Operand) (ho : o.op = Op.store t x v) (cs : List Value) (hv : a.eval v = .agg cs.toArray) (g : Nat) (hx : a.eval x = .pointer (some ⟨g, 0, none⟩))
    (T : TypeId) (cur : List Value) (hg : Row w g T cur) (hl : cs.length = cur.length) (hs : (P.info? t).map (·.size) = some cs.length) (h1 : ∀ v ∈ cs, v.oneCell' = true)
    (h : ∀ w', Row w' g T cs → Only g w w' → wpList P ops Q rest (a.put o.dst undef) w') : wpList P ops Q (o :: rest) a w := by
  refine wpList_plain hgd fun K hK => ?_
  obtain ⟨i, hi, hsz⟩ := Option.map_eq_some_iff.1 hs
  have hst := run_storeCells_at P g 0 T cs 0 cur.toArray w hg (by simp [hl]) h1
  have e : ((cur.toArray.toList.take (0 + 0) ++ cs ++ cur.toArray.toList.drop (0 + 0 + cs.length)).toArray) = cs.toArray := by simp [hl]
  rw [e] at hst
  have hr : (Instr.storeAt t (.pointer (some ⟨g, 0, none⟩)) (.agg cs.toArray)).run P w = .ok () (w.setRow g cs.toArray) := by
    simp [Instr.storeAt, Instr.sureAddr, storeVar, Value.cells, sizeOf, typeInfo, hi, hsz, hst]
  unfold Oper.wp
  simp only [execOp, ho, hx, hv, Sem.run_bind, Sem.run_pure, hr, Result.andThen_ok, Oper.upon]
  exact hK _ _ (h _ (hg.setRow cs) (Only.setRow _ _ _))
end laws
end Go.Proofs.YtaemdppihpefnaaGreatDoor
