/- bytes.Clone, at every slice. -/
import Derived.Test.YtaemdppihpefnaaGreatDoorBase
import Derived.Test.YtaemdppihpefnaaGreatDoorProg
import Derived.Laws.CopyRow
import Derived.Laws.Rows
import Derived.Deep.QuietTactic
import Derived.BigQuiet
import Derived.Deep.AppendLies
import Derived.OwnWalk
import Derived.MapKept
import Derived.Recover
import Derived.StillTailTactics
import Derived.Outline
namespace Go.Proofs.YtaemdppihpefnaaGreatDoor
open Go.RowKit

set_option maxHeartbeats 400000 in
/-- bytes.Clone: a slice of the same bytes in new memory (nil of nil). -/
theorem clone (v : Value) (xs : List Int) (w : World) (h : Bs w v xs) (hbig : xs.length ≤ 140737488355328) :
   Calls Tryz.prog 7 #[v] w fun e w' => ∃ v', e = .returned v' ∧ w'.ownsRow w.heap.size 5 1 v' xs.length (cs8 xs) ∧ Below w.heap.size w w' := by
  obtain ⟨p, c, rfl, hc, hn, hx⟩ := id h
  have q22 := fun (w : World) (a : Option Addr) (n c n' c' : Nat) => Lib.run_eql_slice_nil (P := Tryz.prog) w 22 5 a n c n' c' Tryz.underlying22
  cases p with
  | none =>
    have hz : xs = [] := List.eq_nil_of_length_eq_zero (by have := hn rfl; omega)
    subst hz
    clear hx hc hn h
    go_enter Tryz.func7, Tryz.ntmps7
    go_wp2
    go_ret
    exact ⟨_, rfl, World.ownsRow_nil _ _ _ _, Below.refl _ _⟩
  | some a =>
    have Hn := (h.below ((Below.refl w.heap.size w).alloc (Nat.le_refl _) (.cells #[] 5))).cells.2
    clear hx hn h
    go_enter Tryz.func7, Tryz.ntmps7
    obtain ⟨i0, hi, hz0, hz1, hz2⟩ := info_parts (P := Tryz.prog) (e := 5) (z := .int .u8 0) (size := 1) (bytes := 1) (by kernel_rfl)
    go_wp2_with (at_builtin; refine wpList_append_own _ rfl _ _ 22 rfl w.heap.size 5 i0 (.int .u8 0) 1 1 Tryz.underlying22 hi hz0 hz1 hz2 rfl (by decide) _ _ _ rfl (World.ownsRow_made w #[] 0 (Nat.le_refl _) (by decide) rfl) a xs.length c (cs8 xs) rfl (by simp [cs8]) ?c1 ?c2 ?c3 ?c4 ?c5 ?_)
    case c1 => exact Hn
    case c2 => exact one_cs8 xs
    case c3 => unfold maxLen; omega
    case c4 => omega
    case c5 => simp
    intro v' w1 hown hgrow _
    go_wp2
    go_ret
    refine ⟨_, rfl, ?_, ((Below.refl _ _).alloc (Nat.le_refl _) _).grown hgrow (by simp) (by intro k hk; simp [Value.ownBlock] at hk; omega)⟩
    first | exact hown | (rw [Nat.zero_add, List.nil_append] at hown; exact hown)

end Go.Proofs.YtaemdppihpefnaaGreatDoor

/- Bytes that lie outside a block; cuts of them. -/
namespace Go.Proofs.YtaemdppihpefnaaGreatDoor
open Go.RowKit
set_option linter.unusedVariables false

theorem Only.thn {g : Nat} {a b c : World} (h : Only g a b) (k : Only g b c) : Only g a c :=
  ⟨k.os.trans h.os, k.tape.trans h.tape, k.output.trans h.output, k.size.trans h.size, fun n hn => (k.block n hn).trans (h.block n hn)⟩
theorem But.only_new {g k : Nat} {w w1 w2 : World} (h : But g w w1) (o : Only k w1 w2) (hk : w.heap.size ≤ k) : But g w w2 :=
  ⟨o.os.trans h.os, o.tape.trans h.tape, o.output.trans h.output, by rw [o.size]; exact h.size, fun i hi hg => (o.block i (by omega)).trans (h.block i hi hg)⟩
theorem But.alloc {g : Nat} {w w1 : World} (h : But g w w1) (o : Obj) : But g w (w1.alloc o) :=
  ⟨h.os, h.tape, h.output, by have := h.size; simp; omega, fun i hi hg => ((Below.refl w1.heap.size w1).alloc (Nat.le_refl _) o |>.block i (Nat.lt_of_lt_of_le hi h.size)).trans (h.block i hi hg)⟩
theorem Row.allocd {w : World} {g : Nat} {t : TypeId} {cur : List Value} (h : Row w g t cur) (o : Obj) : Row (w.alloc o) g t cur :=
  h.below ((Below.refl w.heap.size w).alloc (Nat.le_refl _) o) h.lt
theorem grown_of_below {w w' : World} (h : Below w.heap.size w w') (r : Option Nat) : w.grownBy w' r := ⟨h.os, h.tape, h.output, h.size, fun k hk _ => h.block k hk⟩
theorem grown_trans {w w1 w2 : World} {r : Option Nat} (h : w.grownBy w1 r) (k : w1.grownBy w2 r) : w.grownBy w2 r :=
  ⟨k.os.trans h.os, k.tape.trans h.tape, k.output.trans h.output, Nat.le_trans h.size k.size, fun i hi hr => (k.block i (Nat.lt_of_lt_of_le hi h.size) hr).trans (h.block i hi hr)⟩
theorem below_drewd {B : Nat} {a w : World} (h : Below B a w) : Below B a w.drew := ⟨h.os, h.tape, h.output, h.size, h.block⟩
theorem row_drewd {w : World} {g : Nat} {T : TypeId} {cur : List Value} (h : Row w g T cur) : Row w.drew g T cur := h
theorem But.trans_below {g B : Nat} {a b c : World} (h : But g a b) (k : Below B b c) (hB : a.heap.size ≤ B) : But g a c :=
  ⟨k.os.trans h.os, k.tape.trans h.tape, k.output.trans h.output, Nat.le_trans h.size k.size, fun i hi hg => (k.block i (by omega)).trans (h.block i hi hg)⟩
theorem cs8_splice (x p : List Int) (o : Nat) : splice (cs8 x) o (cs8 p) = cs8 (splice x o p) := by
  simp [splice, cs8, List.map_take, List.map_drop]
/-- The slice v does not lead into block g. -/
def Off (g : Nat) (v : Value) : Prop := ∀ a n c, v = .slice (some a) n c → 0 < n → a.block ≠ g
theorem Bs.but {w w' : World} {g : Nat} {v : Value} {xs : List Int} (h : Bs w v xs) (ho : Off g v) (hb : But g w w') : Bs w' v xs := by
  obtain ⟨p, c, rfl, hc, hn, hx⟩ := h
  refine ⟨p, c, rfl, hc, hn, fun hl => ?_⟩
  obtain ⟨b, o, rfl, hcell⟩ := hx hl
  have hbg : b ≠ g := ho ⟨b, o, none⟩ _ _ rfl hl
  refine ⟨b, o, rfl, fun i hi => ?_⟩
  have h1 := hcell i hi
  have hlt : b < w.heap.size := World.block_lt_of_cell? w _ h1
  rw [World.cell?_of_block (w := w) (w' := w') (a := ⟨b, o + i, none⟩) (hb.block b hlt hbg)]
  exact h1
theorem Off.of_old {w : World} {g : Nat} {v : Value} {xs : List Int} (h : Bs w v xs) (hg : w.heap.size ≤ g) : Off g v := by
  intro a n c hv hn hag
  obtain ⟨p, c', hv', _, _, hx⟩ := h
  rw [hv'] at hv
  simp only [Value.slice.injEq] at hv
  obtain ⟨rfl, rfl, rfl⟩ := hv
  obtain ⟨b, o, hp, hcell⟩ := hx hn
  cases hp
  have h1 := hcell 0 hn
  have hlt : b < w.heap.size := World.block_lt_of_cell? w _ h1
  have : b = g := hag
  omega
theorem Off.of_own {w : World} {g B : Nat} {e : TypeId} {v : Value} {n : Nat} {xs : List Value} (h : w.ownsRow B e 1 v n xs) (hg : g < B) : Off g v := by
  intro a m c hv _
  have := (h.lt a.block (by rw [hv]; rfl)).1
  omega
theorem Row.cells_at {w : World} {g : Nat} {t : TypeId} {cur : List Value} (h : Row w g t cur) (o : Nat) (xs : List Value) (hx : ∀ j v, xs[j]? = some v → cur[o + j]? = some v) :
    ∀ (j : Nat) v, xs[j]? = some v → w.cell? ((⟨g, o, none⟩ : Addr).add j) = some v := by
  intro j v hj
  rw [Go.WideShapes.add_plain, h.cell]
  exact hx j v hj
/-- The bytes at the beginning, where they are copied from. -/
theorem Bs.head {w : World} {a : Addr} {n c : Nat} {xs : List Int} (h : Bs w (.slice (some a) n c) xs) (k : Nat) : ∀ (j : Nat) u, (cs8 (xs.take k))[j]? = some u → w.cell? (a.add j) = some u := by
  intro j u hj
  refine h.cells.2 j u ?_
  unfold cs8 at hj ⊢
  rw [List.map_take] at hj
  rw [List.getElem?_take] at hj
  split at hj
  · exact hj
  · cases hj
/-- 'x[l:]' at an array behind a pointer. -/
theorem run_arr_from {P : Program} (t elem : TypeId) (n : Nat) (ht : P.underlying t = some (.array n elem)) (hs : (P.info? elem).map (·.size) = some 1)
    (g o l : Nat) (k : IntKind) (L : Int) (hL : L = (l : Int)) (hl : l < n) (w : World) :
    (Instr.sliceAt t (.pointer (some ⟨g, o, none⟩)) (some (.int k L)) none none).run P w = .ok (.slice (some ⟨g, o + l, none⟩) (n - l) (n - l)) w := by
  subst hL
  obtain ⟨i, hi, hsz⟩ := Option.map_eq_some_iff.1 hs
  simp [Instr.sliceAt, Instr.slice, Instr.sliceBounds, Instr.sliceBound, asIntOf, Instr.sureAddr, asAddr, run_underlying ht, sizeOf, typeInfo, hi, hsz, show ¬ n = l by omega, Go.WideShapes.add_plain]
  intro hh; exact absurd hh (by omega)
/-- 'x[:h]' at an array behind a pointer. -/
theorem run_arr_to {P : Program} (t elem : TypeId) (n : Nat) (ht : P.underlying t = some (.array n elem)) (hs : (P.info? elem).map (·.size) = some 1)
    (g o l : Nat) (k : IntKind) (L : Int) (hL : L = (l : Int)) (hl : l ≤ n) (w : World) :
    (Instr.sliceAt t (.pointer (some ⟨g, o, none⟩)) none (some (.int k L)) none).run P w = .ok (.slice (some ⟨g, o, none⟩) l n) w := by
  subst hL
  obtain ⟨i, hi, hsz⟩ := Option.map_eq_some_iff.1 hs
  simp [Instr.sliceAt, Instr.slice, Instr.sliceBounds, Instr.sliceBound, asIntOf, Instr.sureAddr, asAddr, run_underlying ht, sizeOf, typeInfo, hi, Addr.add]
  intro hh; exact absurd hh (by omega)
/-- 'x[l:]' at a slice whose address is known. -/
theorem run_sl_from {P : Program} (t e : TypeId) (ht : P.underlying t = some (.slice e)) (hs : (P.info? e).map (·.size) = some 1)
    (g o n c l o' n' c' : Nat) (k : IntKind) (L : Int) (hL : L = (l : Int)) (hl : l ≤ n) (hc : l < c) (ho : o + l = o') (hn' : n - l = n') (hc' : c - l = c') (w : World) :
    (Instr.sliceAt t (.slice (some ⟨g, o, none⟩) n c) (some (.int k L)) none none).run P w = .ok (.slice (some ⟨g, o', none⟩) n' c') w := by
  subst hL ho hn' hc'
  obtain ⟨i, hi, hsz⟩ := Option.map_eq_some_iff.1 hs
  simp [Instr.sliceAt, Instr.slice, Instr.sliceBounds, Instr.sliceBound, asIntOf, run_underlying ht, sizeOf, typeInfo, hi, hsz, show ¬ c = l by omega, Go.WideShapes.add_plain]
  intro hh; exact absurd hh (by omega)
/-- 'make([]T, n)', as an equation. -/
theorem run_make_row0 {P : Program} (t e : TypeId) (z : Value) (bytes : Nat) (ht : P.underlying t = some (.slice e)) (hi : (P.info? e).map (fun i => (i.zero, i.size, i.bytes)) = some (some z, 1, bytes)) (hzc : z.cells = #[z])
    (kl kc : IntKind) (n : Nat) (hb2 : bytes * n ≤ 281474976710656) (h63 : n ≤ maxLen) (w : World) :
    (Instr.makeSlice t (.int kl n) (.int kc n)).run P w = .ok (.slice (some ⟨w.heap.size, 0, none⟩) n n) (w.alloc (.cells (List.replicate n z).toArray e)) := by
  obtain ⟨i, hi1, hz, hs, hby⟩ := info_parts hi
  subst hby
  have h63' : (n : Int) ≤ 9223372036854775807 := by
    have h := h63
    simp [maxLen] at h
    omega
  have hb' : (i.bytes : Int) * (n : Int) ≤ 281474976710656 := by
    have h : ((i.bytes * n : Nat) : Int) ≤ 281474976710656 := by omega
    rwa [Int.natCast_mul] at h
  have hr := run_make (P := P) w t e i z ht hi1 hz kl kc n n (by omega) (Int.le_refl _) hb' h63'
  rw [hs, Nat.mul_one, Int.toNat_natCast, made_one z hzc n] at hr
  exact hr
section laws
variable {P : Program} {w : World} {ops : Array Oper} {rest : List Oper} {o : Oper} {a : Act} {Q : Exit → Act → World → Prop}

/-- 'x[l:]' at a slice that is one of bytes in some world. -/
theorem wpl_from0 (hgd : o.guard = none) (x lo : Operand) (t : TypeId) (ho : o.op = Op.slice t x (some lo) none none) (e : TypeId) (ht : P.underlying t = some (.slice e)) (hs : (P.info? e).map (·.size) = some 1)
    (v : Value) (hx : a.eval x = v) (xs : List Int) (w0 : World) (hb : Bs w0 v xs) (k : IntKind) (L : Int) (l : Nat) (hl : a.eval lo = .int k L) (hL : L = (l : Int)) (hle : l ≤ xs.length)
    (h : ∀ v', (∀ w', Bs w' v xs → Bs w' v' (xs.drop l)) → wpList P ops Q rest (a.put o.dst v') w) : wpList P ops Q (o :: rest) a w := by
  subst hL
  obtain ⟨p, c, rfl, hc, hn⟩ := id hb
  refine wpList_plain hgd fun K hK => ?_
  obtain ⟨i, hi, hsz⟩ := Option.map_eq_some_iff.1 hs
  have hb2 : ∀ w', Bs w' (.slice p xs.length c) xs → Bs w' (.slice (cutA p l c) (xs.length - l) (c - l)) (xs.drop l) := fun w' hb => by
    have hb2 := hb.cut l xs.length hle (Nat.le_refl _)
    rwa [List.take_length] at hb2
  have hr : (Instr.sliceAt t (.slice p xs.length c) (some (.int k l)) none none).run P w = .ok (.slice (cutA p l c) (xs.length - l) (c - l)) w := by
    simp [Instr.sliceAt, Instr.slice, Instr.sliceBounds, Instr.sliceBound, asIntOf, run_underlying ht, sizeOf, typeInfo, hi, hsz, cutA]
    intro hh; exact absurd hh (by omega)
  unfold Oper.wp
  simp only [execOp, ho, hx, hl, Option.map_some, Option.map_none, Sem.run_bind, Sem.run_pure, hr, Result.andThen_ok, Oper.upon]
  exact hK _ _ (h _ hb2)

/-- 'x[:h]' at a slice that is one of bytes in some world. -/
theorem wpl_to0 (hgd : o.guard = none) (x hi : Operand) (t : TypeId) (ho : o.op = Op.slice t x none (some hi) none) (e : TypeId) (ht : P.underlying t = some (.slice e)) (hs : (P.info? e).map (·.size) = some 1)
    (v : Value) (hx : a.eval x = v) (xs : List Int) (w0 : World) (hb : Bs w0 v xs) (k : IntKind) (L : Int) (l : Nat) (hl : a.eval hi = .int k L) (hL : L = (l : Int)) (hle : l ≤ xs.length)
    (h : ∀ v', (∀ w', Bs w' v xs → Bs w' v' (xs.take l)) → wpList P ops Q rest (a.put o.dst v') w) : wpList P ops Q (o :: rest) a w := by
  subst hL
  obtain ⟨p, c, rfl, hc, hn⟩ := id hb
  refine wpList_plain hgd fun K hK => ?_
  obtain ⟨i, hi1, hsz⟩ := Option.map_eq_some_iff.1 hs
  have hb2 : ∀ w', Bs w' (.slice p xs.length c) xs → Bs w' (.slice (cutA p 0 c) (l - 0) (c - 0)) (xs.take l) := fun w' hb => by
    have hb2 := hb.cut 0 l (Nat.zero_le _) hle
    rwa [List.drop_zero] at hb2
  have hr : (Instr.sliceAt t (.slice p xs.length c) none (some (.int k l)) none).run P w = .ok (.slice (cutA p 0 c) (l - 0) (c - 0)) w := by
    simp [Instr.sliceAt, Instr.slice, Instr.sliceBounds, Instr.sliceBound, asIntOf, run_underlying ht, sizeOf, typeInfo, hi1, cutA]
    intro hh; exact absurd hh (by omega)
  unfold Oper.wp
  simp only [execOp, ho, hx, hl, Option.map_some, Option.map_none, Sem.run_bind, Sem.run_pure, hr, Result.andThen_ok, Oper.upon]
  exact hK _ _ (h _ hb2)
/-- A whole variable is stored into a row of its own. -/
theorem wpl_store_row (hgd : o.guard = none) (t : TypeId) (x v : Operand) (ho : o.op = Op.store t x v) (cs : List Value) (hv : a.eval v = .agg cs.toArray) (g : Nat) (hx : a.eval x = .pointer (some ⟨g, 0, none⟩))
    (T : TypeId) (cur : List Value) (hg : Row w g T cur) (hl : cs.length = cur.length) (hs : (P.info? t).map (·.size) = some cs.length) (h1 : ∀ v ∈ cs, v.oneCell' = true)
    (h : ∀ w', Row w' g T cs → Only g w w' → wpList P ops Q rest (a.put o.dst undef) w') : wpList P ops Q (o :: rest) a w := by
  refine wpList_plain hgd fun K hK => ?_
  obtain ⟨i, hi, hsz⟩ := Option.map_eq_some_iff.1 hs
  have hst := run_storeCells_at P g 0 T cs 0 cur.toArray w hg (by simp [hl]) h1
  have e : ((cur.toArray.toList.take (0 + 0) ++ cs ++ cur.toArray.toList.drop (0 + 0 + cs.length)).toArray) = cs.toArray := by simp [hl]
  rw [e] at hst
  have hr : (Instr.storeAt t (.pointer (some ⟨g, 0, none⟩)) (.agg cs.toArray)).run P w = .ok () (w.setRow g cs.toArray) := by
    simp [Instr.storeAt, Instr.sureAddr, storeVar, Value.cells, sizeOf, typeInfo, hi, hsz, hst]
  unfold Oper.wp
  simp only [execOp, ho, hx, hv, Sem.run_bind, Sem.run_pure, hr, Result.andThen_ok, Oper.upon]
  exact hK _ _ (h _ (hg.setRow cs) (Only.setRow _ _ _))
end laws
end Go.Proofs.YtaemdppihpefnaaGreatDoor

/- A hash behind an interface: what its methods do (a bundle of contracts). -/
namespace Go.Proofs.YtaemdppihpefnaaGreatDoor
open Go.RowKit
set_option linter.unusedVariables false

/-- A hash: the type of its pointers, its states, and the contracts of its methods. -/
structure HK where
  T : TypeId
  cT : TypeId
  St : Type
  cells : St → List Value
  n : St → Nat
  ok : St → Prop
  init : St
  write : St → List Int → St
  reset : St → St
  sum : St → List Int
  block : Nat
  size : Nat
  kg : Nat
  kT : TypeId
  kC : List Value
  fNew : FuncId
  fWrite : FuncId
  fSum : FuncId
  fBlock : FuncId
  fReset : FuncId
  block_pos : 0 < block
  block_le : block ≤ 128
  size_pos : 0 < size
  size_le : size ≤ 64
  size_block : size ≤ block
  init_ok : ok init
  init_n : n init = 0
  write_ok : ∀ s p, ok s → p.length ≤ 65536 → n s + p.length ≤ 1099511627776 → ok (write s p) ∧ n (write s p) = n s + p.length
  reset_ok : ∀ s, ok s → ok (reset s) ∧ n (reset s) = 0
  sum_len : ∀ s, (sum s).length = size
  sum_byt : ∀ s, Byt (sum s)
  eNew : ∀ args w, (callFunc fNew args).run Tryz.prog w = .ok (.enter fNew args) w
  eWrite : ∀ args w, (callFunc fWrite args).run Tryz.prog w = .ok (.enter fWrite args) w
  eSum : ∀ args w, (callFunc fSum args).run Tryz.prog w = .ok (.enter fSum args) w
  eBlock : ∀ args w, (callFunc fBlock args).run Tryz.prog w = .ok (.enter fBlock args) w
  eReset : ∀ args w, (callFunc fReset args).run Tryz.prog w = .ok (.enter fReset args) w
  mBlock : ∀ (a : Addr) (w : World), (method 508 T (.pointer (some a)) "BlockSize").run Tryz.prog w = .ok (fBlock, .pointer (some a)) w
  mWrite : ∀ (a : Addr) (w : World), (method 508 T (.pointer (some a)) "Write").run Tryz.prog w = .ok (fWrite, .pointer (some a)) w
  mSum : ∀ (a : Addr) (w : World), (method 508 T (.pointer (some a)) "Sum").run Tryz.prog w = .ok (fSum, .pointer (some a)) w
  mReset : ∀ (a : Addr) (w : World), (method 508 T (.pointer (some a)) "Reset").run Tryz.prog w = .ok (fReset, .pointer (some a)) w
  nilAheadW : ∀ (a : Addr) (w : World), (nilAhead 508 T (.pointer (some a)) "Write").run Tryz.prog w = .ok (some false) w
  nilAheadS : ∀ (a : Addr) (w : World), (nilAhead 508 T (.pointer (some a)) "Sum").run Tryz.prog w = .ok (some false) w
  cmp : ∀ (g1 g2 : Nat) (c1 c2 : List Value) (w : World), g1 ≠ g2 → Row w g1 cT c1 → Row w g2 cT c2 → (binOp .eql 207 (.iface T (.pointer (some ⟨g1, 0, none⟩))) (.iface T (.pointer (some ⟨g2, 0, none⟩)))).run Tryz.prog w = .ok (.bool false) w
  cnew : ∀ w, Calls Tryz.prog fNew #[] w fun e w' => e = .returned (.iface T (.pointer (some ⟨w.heap.size, 0, none⟩))) ∧ Row w' w.heap.size cT (cells init) ∧ Below w.heap.size w w' ∧ w'.heap.size = w.heap.size + 1
  cwrite : ∀ g s v p w, ok s → Row w g cT (cells s) → Row w kg kT kC → kg ≠ g → Bs w v p → Off g v → p.length ≤ 65536 → n s + p.length ≤ 1099511627776 →
    Calls Tryz.prog fWrite #[.pointer (some ⟨g, 0, none⟩), v] w fun e w' => e = .returned (.tuple #[.int .i64 p.length, .nilIface]) ∧ Row w' g cT (cells (write s p)) ∧ But g w w'
  csum : ∀ g s w base v, ok s → n s ≤ 1099511627776 → Row w g cT (cells s) → Row w kg kT kC → w.ownsRow base 5 1 v 0 [] → base ≤ w.heap.size →
    Calls Tryz.prog fSum #[.pointer (some ⟨g, 0, none⟩), v] w fun e w' => ∃ v', e = .returned v' ∧ w'.ownsRow base 5 1 v' size (cs8 (sum s)) ∧ w.grownBy w' v.ownBlock
  cblock : ∀ v w, Calls Tryz.prog fBlock #[v] w fun e w' => e = .returned (.int .i64 block) ∧ w = w'
  creset : ∀ g s w, ok s → Row w g cT (cells s) → Calls Tryz.prog fReset #[.pointer (some ⟨g, 0, none⟩)] w fun e w' => e = .returned (.tuple #[]) ∧ Row w' g cT (cells (reset s)) ∧ Only g w w'
end Go.Proofs.YtaemdppihpefnaaGreatDoor

/- Words for the block functions: eight words, rows of words. -/
namespace Go.Proofs.YtaemdppihpefnaaGreatDoor
open Go.RowKit
set_option linter.unusedVariables false

/-- The cells of some words. -/
def cs32 (xs : List Int) : List Value := xs.map (Value.int .u32)
theorem length_cs32 (xs : List Int) : (cs32 xs).length = xs.length := by simp [cs32]
theorem get_cs32 (xs : List Int) (i : Nat) (hi : i < xs.length) : (cs32 xs)[i]? = some (.int .u32 (xs.getD i 0)) := by simp [cs32, List.getD, hi]
def cs64 (xs : List Int) : List Value := xs.map (Value.int .u64)
theorem length_cs64 (xs : List Int) : (cs64 xs).length = xs.length := by simp [cs64]
theorem get_cs64 (xs : List Int) (i : Nat) (hi : i < xs.length) : (cs64 xs)[i]? = some (.int .u64 (xs.getD i 0)) := by simp [cs64, List.getD, hi]

theorem row_drewN {w : World} {g : Nat} {t : TypeId} {cur : List Value} (h : Row w g t cur) (n : Nat) : Row (w.drewN n) g t cur := h
theorem row_drew {w : World} {g : Nat} {T : TypeId} {cur : List Value} (h : Row w g T cur) : Row w.drew g T cur := h
theorem row_start (w : World) (cs : Array Value) (t : TypeId) (n : Nat) (xs : List Value) (h : cs.toList = xs) : Row ((w.alloc (.cells cs t)).drewN n) w.heap.size t xs := by
  subst h; exact row_drewN (Row.new w cs t _ rfl) n
theorem below_start (w : World) (o : Obj) (n : Nat) : Below w.heap.size w ((w.alloc o).drewN n) := below_drewN ((Below.refl _ _).alloc (Nat.le_refl _) _) n
theorem set32 {w : World} {g : Nat} {t : TypeId} {Y : List Int} (h : Row w g t (cs32 Y)) (k : Nat) (z : Int) : Row ((w.setCell ⟨g, k, none⟩ (.int .u32 z)).drew) g t (cs32 (Y.set k z)) := by
  have := h.set k (.int .u32 z)
  unfold cs32 at *
  rw [List.map_set]
  exact this
theorem set64 {w : World} {g : Nat} {t : TypeId} {Y : List Int} (h : Row w g t (cs64 Y)) (k : Nat) (z : Int) : Row ((w.setCell ⟨g, k, none⟩ (.int .u64 z)).drew) g t (cs64 (Y.set k z)) := by
  have := h.set k (.int .u64 z)
  unfold cs64 at *
  rw [List.map_set]
  exact this
/-- Eight words. -/
structure S8 where
  (a b c d e f g h : Int)
def words8 (s : S8) : List Int := [s.a, s.b, s.c, s.d, s.e, s.f, s.g, s.h]
theorem set8 {w : World} {g : Nat} {T : TypeId} {x0 x1 x2 x3 x4 x5 x6 x7 : Value} {rest : List Value} (h : Row w g T (x0 :: x1 :: x2 :: x3 :: x4 :: x5 :: x6 :: x7 :: rest)) (y0 y1 y2 y3 y4 y5 y6 y7 : Value) :
    Row (((((((((w.setCell ⟨g, 0, none⟩ y0).setCell ⟨g, 1, none⟩ y1).setCell ⟨g, 2, none⟩ y2).setCell ⟨g, 3, none⟩ y3).setCell ⟨g, 4, none⟩ y4).setCell ⟨g, 5, none⟩ y5).setCell ⟨g, 6, none⟩ y6).setCell ⟨g, 7, none⟩ y7).drew) g T (y0 :: y1 :: y2 :: y3 :: y4 :: y5 :: y6 :: y7 :: rest) := by
  have h0 := h.set 0 y0
  have h1 := h0.set 1 y1
  have h2 := h1.set 2 y2
  have h3 := h2.set 3 y3
  have h4 := h3.set 4 y4
  have h5 := h4.set 5 y5
  have h6 := h5.set 6 y6
  have h7 := h6.set 7 y7
  simp only [List.set_cons_zero, List.set_cons_succ] at h7
  exact row_drew h7
end Go.Proofs.YtaemdppihpefnaaGreatDoor

/- bits.RotateLeft32: a word turned, in the walk's own spelling. -/
namespace Go.Proofs.YtaemdppihpefnaaGreatDoor
open Go.RowKit
set_option linter.unusedVariables false

/-- By how many places a word is turned to the left. -/
def rotBy32 (k : Int) : Int := bits .and .u64 (IntKind.u64.wrap k) 31
/-- A word of 32 bits, turned. -/
def rot32 (x k : Int) : Int := bits .or .u32 (IntKind.u32.wrap (x * 2 ^ (rotBy32 k).toNat)) (x / 2 ^ (32 - rotBy32 k).toNat)

set_option maxRecDepth 100000 in
set_option maxHeartbeats 1000000 in
theorem rot32_any (x k : Int) (w : World) (hk : 1 ≤ rotBy32 k ∧ rotBy32 k ≤ 31) :
    Calls Tryz.prog 272 #[.int .u32 x, .int .i64 k] w fun e w' => e = .returned (.int .u32 (rot32 x k)) ∧ w = w' := by
  obtain ⟨h1, h2⟩ := hk
  unfold rot32
  obtain ⟨s, hs⟩ : ∃ s, rotBy32 k = s := ⟨_, rfl⟩
  rw [hs] at h1 h2 ⊢
  unfold rotBy32 at hs
  have Hw := Lib.hid (IntKind.wrap_u32 (x * 2 ^ s.toNat)) 
  go_enter Tryz.func272, Tryz.ntmps272
  go_wp2
  go_ret
  exact ⟨by first | rfl | (rw [Hw.out]; rfl), rfl⟩
theorem rot32_q (x k : Int) (w : World) (hk : 1 ≤ rotBy32 k ∧ rotBy32 k ≤ 31) :
    Calls Tryz.prog 272 #[.int .u32 x, .int .i64 k] w fun e w' => e = .returned (.int .u32 (rot32 x k)) ∧ w' = w :=
  (rot32_any x k w hk).mono fun _ _ h => ⟨h.1, h.2.symm⟩
end Go.Proofs.YtaemdppihpefnaaGreatDoor

/- Numbers laid as bytes, the greatest first (pub/sha256). -/
namespace Go.Proofs.YtaemdppihpefnaaGreatDoor
open Go.RowKit
set_option linter.unusedVariables false

/-- Some cells of a row, set one behind the other from place o on. -/
def setL (cur : List Value) (o : Nat) : List Value → List Value
  | [] => cur
  | y :: ys => setL (cur.set o y) (o + 1) ys
theorem setL_len : ∀ (ys : List Value) (cur : List Value) (o : Nat), (setL cur o ys).length = cur.length
  | [], _, _ => rfl
  | y :: ys, cur, o => by rw [setL, setL_len ys]; simp
theorem setL_snoc : ∀ (ys : List Value) (cur : List Value) (o : Nat) (y : Value), setL cur o (ys ++ [y]) = (setL cur o ys).set (o + ys.length) y
  | [], _, _, _ => rfl
  | x :: ys, cur, o, y => by
    rw [List.cons_append, setL, setL_snoc ys, setL, List.length_cons]
    congr 1; omega

theorem Only.tr {g : Nat} {a b c : World} (h : Only g a b) (k : Only g b c) : Only g a c :=
  ⟨k.os.trans h.os, k.tape.trans h.tape, k.output.trans h.output, k.size.trans h.size, fun n hn => (k.block n hn).trans (h.block n hn)⟩

/-- The four bytes of a word. -/
def put32 (v : Int) : List Int := [v / 16777216 % 256, v / 65536 % 256, v / 256 % 256, v % 256]

set_option maxRecDepth 100000 in
set_option maxHeartbeats 1000000 in
theorem bePut32 (g o n c : Nat) (T : TypeId) (cur : List Value) (v : Int) (w : World) (h : Row w g T cur) (hn : 4 ≤ n) (hl : o + 4 ≤ cur.length) :
    Calls Tryz.prog 268 #[.slice (some ⟨g, o, none⟩) n c, .int .u32 v] w fun e w' => e = .returned (.tuple #[]) ∧ Row w' g T (setL cur o (cs8 (put32 v))) ∧ Only g w w' := by
  obtain ⟨x0, e0⟩ : ∃ x, cur[o]? = some x := ⟨cur[o]'(by omega), by simp⟩
  obtain ⟨x1, e1⟩ : ∃ x, cur[o + 1]? = some x := ⟨cur[o + 1]'(by omega), by simp⟩
  obtain ⟨x2, e2⟩ : ∃ x, cur[o + 2]? = some x := ⟨cur[o + 2]'(by omega), by simp⟩
  obtain ⟨x3, e3⟩ : ∃ x, cur[o + 3]? = some x := ⟨cur[o + 3]'(by omega), by simp⟩
  have c0 : w.cell? ⟨g, o, none⟩ = some x0 := by rw [h.cell, e0]
  have c1 : w.cell? ⟨g, o + 1, none⟩ = some x1 := by rw [h.cell, e1]
  have c2 : w.cell? ⟨g, o + 2, none⟩ = some x2 := by rw [h.cell, e2]
  have c3 : w.cell? ⟨g, o + 3, none⟩ = some x3 := by rw [h.cell, e3]
  have f0 := h.unfrozen o
  have f1 := h.unfrozen (o + 1)
  have f2 := h.unfrozen (o + 2)
  have f3 := h.unfrozen (o + 3)
  have hn' : (4 : Int) ≤ n := by omega
  have H := Lib.hid h
  clear h e0 e1 e2 e3
  go_enter Tryz.func268, Tryz.ntmps268
  go_wp2
  go_end0
  exact ⟨rfl, (((H.out.set o _).set (o + 1) _).set (o + 2) _).set (o + 3) _, (((Only.set _ _ _ _).tr (Only.set _ _ _ _)).tr (Only.set _ _ _ _)).tr (Only.set _ _ _ _)⟩

/-- The first k bytes of a long word. -/
def put64 (v : Int) (k : Nat) : List Int := (List.range k).map fun i => v / (2 ^ (56 - 8 * i) : Nat) % 256
theorem put64_len (v : Int) (k : Nat) : (put64 v k).length = k := by simp [put64]
theorem put64_step (v : Int) (cur : List Value) (o k : Nat) : setL cur o (cs8 (put64 v (k + 1))) = (setL cur o (cs8 (put64 v k))).set (o + k) (.int .u8 (v / (2 ^ (56 - 8 * k) : Nat) % 256)) := by
  have h : cs8 (put64 v (k + 1)) = cs8 (put64 v k) ++ [.int .u8 (v / (2 ^ (56 - 8 * k) : Nat) % 256)] := by simp [put64, List.range_succ, cs8]
  rw [h, setL_snoc]
  simp [cs8, put64_len]

set_option maxRecDepth 100000 in
set_option maxHeartbeats 1000000 in
theorem bePut64 (g o n c : Nat) (T : TypeId) (cur : List Value) (v : Int) (w : World) (h : Row w g T cur) (hn : 8 ≤ n) (hl : o + 8 ≤ cur.length) :
    Calls Tryz.prog 267 #[.slice (some ⟨g, o, none⟩) n c, .int .u64 v] w fun e w' => e = .returned (.tuple #[]) ∧ Row w' g T (setL cur o (cs8 (put64 v 8))) ∧ Only g w w' := by
  obtain ⟨x7, e7⟩ : ∃ x, cur[o + 7]? = some x := ⟨cur[o + 7]'(by omega), by simp⟩
  have c7 : w.cell? ⟨g, o + 7, none⟩ = some x7 := by rw [h.cell, e7]
  have hn' : (8 : Int) ≤ n := by omega
  have h0 : Row w g T (setL cur o (cs8 (put64 v 0))) := h
  have H := Lib.hid h0
  clear h h0 e7
  go_enter Tryz.func267, Tryz.ntmps267
  go_wp2_with fail
  go_loopw [4] (fun t wr => ∃ k : Nat, k ≤ 8 ∧ t = .int .i64 k ∧ Hid (Row wr g T (setL cur o (cs8 (put64 v k)))) ∧ Hid (Only g w wr)) (fun t _ => 8 - (intOf t).toNat)
  case atStart => exact ⟨0, by omega, rfl, H, Lib.hid ⟨rfl, rfl, rfl, rfl, fun _ _ => rfl⟩⟩
  case round =>
    obtain ⟨k, hk, rfl, Hr, Ho⟩ := hrel
    clear c7
    by_cases hlt : k < 8
    · obtain ⟨v0, hv0⟩ : ∃ v0, (setL cur o (cs8 (put64 v k)))[o + k]? = some v0 := ⟨(setL cur o (cs8 (put64 v k)))[o + k]'(by rw [setL_len]; omega), by simp⟩
      have hcell : wr.cell? ⟨g, o + k, none⟩ = some v0 := by rw [Hr.out.cell, hv0]
      have hfr := Hr.out.unfrozen (o + k)
      have hkn : (k : Int) < n := by omega
      clear hv0
      go_wp2
      refine ⟨⟨k + 1, by omega, by go_num, ?_, Lib.hid (Ho.out.tr (Only.set _ _ _ _))⟩, by simp [intOf]; omega⟩
      rw [put64_step]
      have hb := Hr.out.set (o + k) (.int .u8 (v / (2 ^ (56 - 8 * k) : Nat) % 256))
      simp only [Int.natCast_pow, Int.cast_ofNat_Int] at hb ⊢
      exact Lib.hid hb
    · obtain rfl : k = 8 := by omega
      go_wp2
      go_end0
      exact ⟨rfl, Hr.out, Ho.out⟩
set_option maxRecDepth 100000 in
set_option maxHeartbeats 1000000 in
/-- The same of pub/sha512. -/
theorem bePut64h (g o n c : Nat) (T : TypeId) (cur : List Value) (v : Int) (w : World) (h : Row w g T cur) (hn : 8 ≤ n) (hl : o + 8 ≤ cur.length) :
    Calls Tryz.prog 281 #[.slice (some ⟨g, o, none⟩) n c, .int .u64 v] w fun e w' => e = .returned (.tuple #[]) ∧ Row w' g T (setL cur o (cs8 (put64 v 8))) ∧ Only g w w' := by
  obtain ⟨x7, e7⟩ : ∃ x, cur[o + 7]? = some x := ⟨cur[o + 7]'(by omega), by simp⟩
  have c7 : w.cell? ⟨g, o + 7, none⟩ = some x7 := by rw [h.cell, e7]
  have hn' : (8 : Int) ≤ n := by omega
  have h0 : Row w g T (setL cur o (cs8 (put64 v 0))) := h
  have H := Lib.hid h0
  clear h h0 e7
  go_enter Tryz.func281, Tryz.ntmps281
  go_wp2_with fail
  go_loopw [4] (fun t wr => ∃ k : Nat, k ≤ 8 ∧ t = .int .i64 k ∧ Hid (Row wr g T (setL cur o (cs8 (put64 v k)))) ∧ Hid (Only g w wr)) (fun t _ => 8 - (intOf t).toNat)
  case atStart => exact ⟨0, by omega, rfl, H, Lib.hid ⟨rfl, rfl, rfl, rfl, fun _ _ => rfl⟩⟩
  case round =>
    obtain ⟨k, hk, rfl, Hr, Ho⟩ := hrel
    clear c7
    by_cases hlt : k < 8
    · obtain ⟨v0, hv0⟩ : ∃ v0, (setL cur o (cs8 (put64 v k)))[o + k]? = some v0 := ⟨(setL cur o (cs8 (put64 v k)))[o + k]'(by rw [setL_len]; omega), by simp⟩
      have hcell : wr.cell? ⟨g, o + k, none⟩ = some v0 := by rw [Hr.out.cell, hv0]
      have hfr := Hr.out.unfrozen (o + k)
      have hkn : (k : Int) < n := by omega
      clear hv0
      go_wp2
      refine ⟨⟨k + 1, by omega, by go_num, ?_, Lib.hid (Ho.out.tr (Only.set _ _ _ _))⟩, by simp [intOf]; omega⟩
      rw [put64_step]
      have hb := Hr.out.set (o + k) (.int .u8 (v / (2 ^ (56 - 8 * k) : Nat) % 256))
      simp only [Int.natCast_pow, Int.cast_ofNat_Int] at hb ⊢
      exact Lib.hid hb
    · obtain rfl : k = 8 := by omega
      go_wp2
      go_end0
      exact ⟨rfl, Hr.out, Ho.out⟩
end Go.Proofs.YtaemdppihpefnaaGreatDoor

/- Laws of append for one element and for a row of elements, and of what stays. No program is in sight. -/
namespace Go.Proofs.YtaemdppihpefnaaGreatDoor
open Go.RowKit
set_option linter.unusedVariables false

theorem But.grown {g : Nat} {a w w' : World} {row : Option Nat} (h : But g a w) (hg : w.grownBy w' row) (hr : ∀ k, row = some k → a.heap.size ≤ k) : But g a w' :=
  ⟨hg.os.trans h.os, hg.tape.trans h.tape, hg.output.trans h.output, Nat.le_trans h.size hg.size,
    fun k hk hne => (hg.block k (Nat.lt_of_lt_of_le hk h.size) (fun e => by have := hr k e.symm; omega)).trans (h.block k hk hne)⟩
theorem But.below' {g : Nat} {a w w' : World} (h : But g a w) (k : Below w.heap.size w w') : But g a w' := h.trans (But.of_below k)
theorem But.cellAt {g : Nat} {a w : World} (h : But g a w) {k j : Nat} (hk : k < a.heap.size) (hne : k ≠ g) : w.cell? ⟨k, j, none⟩ = a.cell? ⟨k, j, none⟩ :=
  World.cell?_of_block (h.block k hk hne)
theorem Row.grown {w w' : World} {g : Nat} {t : TypeId} {cur : List Value} {row : Option Nat} (h : Row w g t cur) (hg : w.grownBy w' row) (hne : some g ≠ row) : Row w' g t cur := by
  have hl := h.lt
  unfold Row at h ⊢
  rw [hg.block g hl hne]; exact h
/-- What is owned lies at or behind its base. -/
theorem own_ge {w : World} {B : Nat} {e : TypeId} {sz : Nat} {v : Value} {n : Nat} {xs : List Value} (h : w.ownsRow B e sz v n xs) : ∀ k, v.ownBlock = some k → B ≤ k := fun k hk => (h.lt k hk).1
theorem own_below {w w' : World} {B : Nat} {e : TypeId} {sz : Nat} {v : Value} {n : Nat} {xs : List Value} (h : w.ownsRow B e sz v n xs) (hb : Below w.heap.size w w') : w'.ownsRow B e sz v n xs :=
  h.kept (row := none) ⟨hb.os, hb.tape, hb.output, hb.size, fun k hk _ => hb.block k hk⟩ (by cases v.ownBlock <;> simp)

/-- Seven new rows. -/
theorem seven {w W : World} {a b c d e f g : Array Value} {T1 T2 T3 T4 T5 T6 T7 : TypeId}
    (h : ((((((w.alloc (.cells a T1)).alloc (.cells b T2)).alloc (.cells c T3)).alloc (.cells d T4)).alloc (.cells e T5)).alloc (.cells f T6)).alloc (.cells g T7) = W) :
    Row W w.heap.size T1 a.toList ∧ Row W (w.heap.size + 1) T2 b.toList ∧ Row W (w.heap.size + 1 + 1) T3 c.toList ∧ Row W (w.heap.size + 1 + 1 + 1) T4 d.toList ∧ Row W (w.heap.size + 1 + 1 + 1 + 1) T5 e.toList ∧
      Row W (w.heap.size + 1 + 1 + 1 + 1 + 1) T6 f.toList ∧ Row W (w.heap.size + 1 + 1 + 1 + 1 + 1 + 1) T7 g.toList ∧ W.heap.size = w.heap.size + 1 + 1 + 1 + 1 + 1 + 1 + 1 ∧ Below w.heap.size w W := by
  have st : ∀ (w : World) (o : Obj), Below w.heap.size w (w.alloc o) := fun w o => (Below.refl _ _).alloc (Nat.le_refl _) o
  have nw : ∀ (w : World) (cs : Array Value) (t : TypeId) (g : Nat), g = w.heap.size → Row (w.alloc (.cells cs t)) g t cs.toList := fun w cs t g hg => Row.new w cs t g hg
  have sz : ∀ (w : World) (o : Obj), (w.alloc o).heap.size = w.heap.size + 1 := fun w o => by simp
  obtain ⟨w1, h1⟩ : ∃ w1 : World, w1 = w.alloc (.cells a T1) := ⟨_, rfl⟩
  rw [← h1] at h
  obtain ⟨w2, h2⟩ : ∃ w2 : World, w2 = w1.alloc (.cells b T2) := ⟨_, rfl⟩
  rw [← h2] at h
  obtain ⟨w3, h3⟩ : ∃ w3 : World, w3 = w2.alloc (.cells c T3) := ⟨_, rfl⟩
  rw [← h3] at h
  obtain ⟨w4, h4⟩ : ∃ w4 : World, w4 = w3.alloc (.cells d T4) := ⟨_, rfl⟩
  rw [← h4] at h
  obtain ⟨w5, h5⟩ : ∃ w5 : World, w5 = w4.alloc (.cells e T5) := ⟨_, rfl⟩
  rw [← h5] at h
  obtain ⟨w6, h6⟩ : ∃ w6 : World, w6 = w5.alloc (.cells f T6) := ⟨_, rfl⟩
  rw [← h6] at h
  have z1 : w1.heap.size = w.heap.size + 1 := by rw [h1]; exact sz _ _
  have z2 : w2.heap.size = w.heap.size + 1 + 1 := by rw [h2, sz, z1]
  have z3 : w3.heap.size = w.heap.size + 1 + 1 + 1 := by rw [h3, sz, z2]
  have z4 : w4.heap.size = w.heap.size + 1 + 1 + 1 + 1 := by rw [h4, sz, z3]
  have z5 : w5.heap.size = w.heap.size + 1 + 1 + 1 + 1 + 1 := by rw [h5, sz, z4]
  have z6 : w6.heap.size = w.heap.size + 1 + 1 + 1 + 1 + 1 + 1 := by rw [h6, sz, z5]
  have z7 : W.heap.size = w.heap.size + 1 + 1 + 1 + 1 + 1 + 1 + 1 := by rw [← h, sz, z6]
  have b1 : Below w.heap.size w w1 := by rw [h1]; exact st _ _
  have b2 : Below w1.heap.size w1 w2 := by rw [h2]; exact st _ _
  have b3 : Below w2.heap.size w2 w3 := by rw [h3]; exact st _ _
  have b4 : Below w3.heap.size w3 w4 := by rw [h4]; exact st _ _
  have b5 : Below w4.heap.size w4 w5 := by rw [h5]; exact st _ _
  have b6 : Below w5.heap.size w5 w6 := by rw [h6]; exact st _ _
  have b7 : Below w6.heap.size w6 W := by rw [← h]; exact st _ _
  have r1 : Row w1 w.heap.size T1 a.toList := by rw [h1]; exact nw _ _ _ _ rfl
  have r2 : Row w2 (w.heap.size + 1) T2 b.toList := by rw [h2]; exact nw _ _ _ _ z1.symm
  have r3 : Row w3 (w.heap.size + 1 + 1) T3 c.toList := by rw [h3]; exact nw _ _ _ _ z2.symm
  have r4 : Row w4 (w.heap.size + 1 + 1 + 1) T4 d.toList := by rw [h4]; exact nw _ _ _ _ z3.symm
  have r5 : Row w5 (w.heap.size + 1 + 1 + 1 + 1) T5 e.toList := by rw [h5]; exact nw _ _ _ _ z4.symm
  have r6 : Row w6 (w.heap.size + 1 + 1 + 1 + 1 + 1) T6 f.toList := by rw [h6]; exact nw _ _ _ _ z5.symm
  have r7 : Row W (w.heap.size + 1 + 1 + 1 + 1 + 1 + 1) T7 g.toList := by rw [← h]; exact nw _ _ _ _ z6.symm
  exact ⟨(((((r1.below b2 r1.lt).below b3 (by omega)).below b4 (by omega)).below b5 (by omega)).below b6 (by omega)).below b7 (by omega),
    ((((r2.below b3 r2.lt).below b4 (by omega)).below b5 (by omega)).below b6 (by omega)).below b7 (by omega),
    (((r3.below b4 r3.lt).below b5 (by omega)).below b6 (by omega)).below b7 (by omega), ((r4.below b5 r4.lt).below b6 (by omega)).below b7 (by omega),
    (r5.below b6 r5.lt).below b7 (by omega), r6.below b7 r6.lt, r7, z7,
    (((((b1.trans (b2.mono b1.size)).trans (b3.mono (by omega))).trans (b4.mono (by omega))).trans (b5.mono (by omega))).trans (b6.mono (by omega))).trans (b7.mono (by omega))⟩

/-- Three new rows. -/
theorem three {w W : World} {a b c : Array Value} {T1 T2 T3 : TypeId} (h : ((w.alloc (.cells a T1)).alloc (.cells b T2)).alloc (.cells c T3) = W) :
    Row W w.heap.size T1 a.toList ∧ Row W (w.heap.size + 1) T2 b.toList ∧ Row W (w.heap.size + 1 + 1) T3 c.toList ∧ W.heap.size = w.heap.size + 1 + 1 + 1 ∧ Below w.heap.size w W := by
  have st : ∀ (w : World) (o : Obj), Below w.heap.size w (w.alloc o) := fun w o => (Below.refl _ _).alloc (Nat.le_refl _) o
  have sz : ∀ (w : World) (o : Obj), (w.alloc o).heap.size = w.heap.size + 1 := fun w o => by simp
  obtain ⟨w1, h1⟩ : ∃ w1 : World, w1 = w.alloc (.cells a T1) := ⟨_, rfl⟩
  rw [← h1] at h
  obtain ⟨w2, h2⟩ : ∃ w2 : World, w2 = w1.alloc (.cells b T2) := ⟨_, rfl⟩
  rw [← h2] at h
  have z1 : w1.heap.size = w.heap.size + 1 := by rw [h1]; exact sz _ _
  have z2 : w2.heap.size = w.heap.size + 1 + 1 := by rw [h2, sz, z1]
  have z3 : W.heap.size = w.heap.size + 1 + 1 + 1 := by rw [← h, sz, z2]
  have b1 : Below w.heap.size w w1 := by rw [h1]; exact st _ _
  have b2 : Below w1.heap.size w1 w2 := by rw [h2]; exact st _ _
  have b3 : Below w2.heap.size w2 W := by rw [← h]; exact st _ _
  have r1 : Row w1 w.heap.size T1 a.toList := by rw [h1]; exact Row.new w _ _ _ rfl
  have r2 : Row w2 (w.heap.size + 1) T2 b.toList := by rw [h2]; exact Row.new w1 _ _ _ z1.symm
  have r3 : Row W (w.heap.size + 1 + 1) T3 c.toList := by rw [← h]; exact Row.new w2 _ _ _ z2.symm
  exact ⟨(r1.below b2 r1.lt).below b3 (by omega), r2.below b3 r2.lt, r3, z3, (b1.trans (b2.mono b1.size)).trans (b3.mono (by omega))⟩

/-- Two new rows. -/
theorem two {w W : World} {a b : Array Value} {T1 T2 : TypeId} (h : (w.alloc (.cells a T1)).alloc (.cells b T2) = W) :
    Row W w.heap.size T1 a.toList ∧ Row W (w.heap.size + 1) T2 b.toList ∧ W.heap.size = w.heap.size + 1 + 1 ∧ Below w.heap.size w W := by
  have st : ∀ (w : World) (o : Obj), Below w.heap.size w (w.alloc o) := fun w o => (Below.refl _ _).alloc (Nat.le_refl _) o
  have sz : ∀ (w : World) (o : Obj), (w.alloc o).heap.size = w.heap.size + 1 := fun w o => by simp
  obtain ⟨w1, h1⟩ : ∃ w1 : World, w1 = w.alloc (.cells a T1) := ⟨_, rfl⟩
  rw [← h1] at h
  have z1 : w1.heap.size = w.heap.size + 1 := by rw [h1]; exact sz _ _
  have z3 : W.heap.size = w.heap.size + 1 + 1 := by rw [← h, sz, z1]
  have b1 : Below w.heap.size w w1 := by rw [h1]; exact st _ _
  have b3 : Below w1.heap.size w1 W := by rw [← h]; exact st _ _
  have r1 : Row w1 w.heap.size T1 a.toList := by rw [h1]; exact Row.new w _ _ _ rfl
  have r3 : Row W (w.heap.size + 1) T2 b.toList := by rw [← h]; exact Row.new w1 _ _ _ z1.symm
  exact ⟨r1.below b3 r1.lt, r3, z3, b1.trans (b3.mono b1.size)⟩

theorem cs8_snoc {ys : List Int} {u : Int} : cs8 ys ++ [Value.int .u8 u] = cs8 (ys ++ [u]) := by simp [cs8]
theorem own_of_row {w : World} {g : Nat} {e : TypeId} {cur : List Value} (h : Row w g e cur) (base n cap : Nat) (hb : base ≤ g) (hn : n ≤ cap) (hc : cur.length = cap) (hm : cap ≤ maxLen) : w.ownsRow base e 1 (.slice (some ⟨g, 0, none⟩) n cap) n (cur.take n) :=
  ⟨by rw [List.length_take]; omega, .inr ⟨g, cap, cur.toArray, rfl, hb, h, hn, hm, by simp [hc], by simp⟩⟩

theorem own_take {w : World} {B B' : Nat} {e : TypeId} {g n c : Nat} {zs : List Int} (h : w.ownsRow B e 1 (.slice (some ⟨g, 0, none⟩) n c) n (cs8 zs)) (m : Nat) (hm : m ≤ n) (hB : B' ≤ B) :
    w.ownsRow B' e 1 (.slice (some ⟨g, 0, none⟩) m c) m (cs8 (zs.take m)) := by
  have hl : zs.length = n := by have := h.1; simpa [cs8] using this
  rcases h.2 with ⟨h, _⟩ | ⟨g', cap, cur, h, hb, hg, hn, hx, hs, ht⟩
  · cases h
  · simp only [Value.slice.injEq, Option.some.injEq, Addr.mk.injEq, and_true, true_and] at h
    obtain ⟨rfl, rfl⟩ := h
    refine ⟨by simp [cs8]; omega, .inr ⟨g, c, cur, rfl, Nat.le_trans hB hb, hg, Nat.le_trans hm hn, hx, hs, ?_⟩⟩
    have : cs8 (zs.take m) = (cs8 zs).take m := by simp [cs8, List.map_take]
    rw [this, ← ht, List.take_take]
    congr 1; omega

theorem set8b {w : World} {g : Nat} {t : TypeId} {Y : List Int} (h : Row w g t (cs8 Y)) (k : Nat) (z : Int) : Row (w.setCell ⟨g, k, none⟩ (.int .u8 z)) g t (cs8 (Y.set k z)) := by
  have := h.set k (.int .u8 z)
  simpa [cs8, List.map_set] using this
theorem cs8_append (xs ys : List Int) : cs8 xs ++ cs8 ys = cs8 (xs ++ ys) := by simp [cs8]
theorem own_lower {w : World} {b b' : Nat} {e : TypeId} {v : Value} {n : Nat} {xs : List Value} (h : w.ownsRow b e 1 v n xs) (hb : b' ≤ b) : w.ownsRow b' e 1 v n xs := by
  obtain ⟨h1, h2⟩ := h
  refine ⟨h1, ?_⟩
  rcases h2 with h2 | ⟨g, cap, cur, hv, hg, r⟩
  · exact .inl h2
  · exact .inr ⟨g, cap, cur, hv, Nat.le_trans hb hg, r⟩
theorem own_full {w : World} {g : Nat} {e : TypeId} {Y : List Int} (h : Row w g e (cs8 Y)) (base n : Nat) (hb : base ≤ g) (hn : Y.length = n) (hm : n ≤ maxLen) : w.ownsRow base e 1 (.slice (some ⟨g, 0, none⟩) n n) n (cs8 Y) := by
  have := own_of_row h base n n hb (Nat.le_refl _) (by simp [cs8, hn]) hm
  rwa [List.take_of_length_le (by simp [cs8, hn])] at this

section laws
variable {P : Program} {w : World} {ops : Array Oper} {rest : List Oper} {o : Oper} {a : Act} {Q : Exit → Act → World → Prop}

/-- 'append(s, x)', x one element of one cell in a row of its own, s owned. -/
theorem wpl_append1 (hgd : o.guard = none) (s x : Operand) (t : TypeId)
    (ho : o.op = .call { callee := .builtin .append, args := #[s, x], argTypes := #[t, t] })
    (base : Nat) (e : TypeId) (z : Value) (bytes : Nat) (ht : P.underlying t = some (.slice e)) (hi : (P.info? e).map (fun i => (i.zero, i.size, i.bytes)) = some (some z, 1, bytes)) (hzs : z.cells.size = 1) (hby : bytes ≤ 16)
    (v : Value) (n : Nat) (xs : List Value) (hs : a.eval s = v) (hown : w.ownsRow base e 1 v n xs)
    (G c : Nat) (u : Value) (hx : a.eval x = .slice (some ⟨G, 0, none⟩) 1 c) (hu : w.cell? ⟨G, 0, none⟩ = some u) (h1 : u.oneCell' = true)
    (hn : n ≤ 1000000) (hbase : base ≤ w.heap.size)
    (h : ∀ g c' w', w'.ownsRow base e 1 (.slice (some ⟨g, 0, none⟩) (n + 1) c') (n + 1) (xs ++ [u]) → w.grownBy w' v.ownBlock → base ≤ g → g < w'.heap.size → wpList P ops Q rest (a.put o.dst (.slice (some ⟨g, 0, none⟩) (n + 1) c')) w') :
    wpList P ops Q (o :: rest) a w := by
  obtain ⟨i, hi1, hz, hs1, hb1⟩ := info_parts hi
  refine wpList_append_lies w hgd s x t ho base e i z 1 bytes ht hi1 hz hs1 hb1 hzs (by decide) v n xs hs hown ⟨G, 0, none⟩ 1 c [u] hx rfl ?_ ?_ (by decide) (by unfold maxLen; omega) ?_ hbase _ rfl ?_
  · intro j y hy
    cases j with
    | zero => simp at hy; subst hy; exact hu
    | succ j => simp at hy
  · intro y hy; simp at hy; subst hy; exact h1
  · have : (n + 1) * bytes ≤ 1000001 * 16 := Nat.mul_le_mul (by omega) hby
    omega
  · intro g c' w' ho2 hg hat hlt
    exact h g c' w' ho2 hg ((ho2.lt g rfl).1) hlt

/-- 'append(s, x..)', x some bytes, s owned. -/
theorem wpl_appendN (hgd : o.guard = none) (s x : Operand) (t : TypeId)
    (ho : o.op = .call { callee := .builtin .append, args := #[s, x], argTypes := #[t, t] })
    (base : Nat) (e : TypeId) (ht : P.underlying t = some (.slice e)) (hi : (P.info? e).map (fun i => (i.zero, i.size, i.bytes)) = some (some (.int .u8 0), 1, 1))
    (v : Value) (n : Nat) (xs : List Value) (hs : a.eval s = v) (hown : w.ownsRow base e 1 v n xs)
    (p : Option Addr) (m c : Nat) (ys : List Int) (hx : a.eval x = .slice p m c) (hb : Bs w (.slice p m c) ys) (hm : 0 < m)
    (hn : n + m ≤ 1000000) (hbase : base ≤ w.heap.size)
    (h : ∀ g c' w', w'.ownsRow base e 1 (.slice (some ⟨g, 0, none⟩) (n + m) c') (n + m) (xs ++ cs8 ys) → w.grownBy w' v.ownBlock → base ≤ g → g < w'.heap.size → wpList P ops Q rest (a.put o.dst (.slice (some ⟨g, 0, none⟩) (n + m) c')) w') :
    wpList P ops Q (o :: rest) a w := by
  obtain ⟨i, hi1, hz, hs1, hb1⟩ := info_parts hi
  obtain ⟨b, of, rfl, _⟩ := hb.at hm
  obtain ⟨hmy, hcells⟩ := hb.cells
  refine wpList_append_lies w hgd s x t ho base e i _ 1 1 ht hi1 hz hs1 hb1 rfl (by decide) v n xs hs hown ⟨b, of, none⟩ m c (cs8 ys) hx (by simp [cs8, hmy]) hcells (one_cs8 ys) hm (by unfold maxLen; omega) (by omega) hbase _ rfl ?_
  intro g c' w' ho2 hg hat hlt
  exact h g c' w' ho2 hg ((ho2.lt g rfl).1) hlt

theorem run_makeN (P : Program) (t e : TypeId) (z : Value) (bytes : Nat) (ht : P.underlying t = some (.slice e)) (hi : (P.info? e).map (fun i => (i.zero, i.size, i.bytes)) = some (some z, 1, bytes)) (hzc : z.cells = #[z]) (n : Nat) (hb2 : bytes * n ≤ 281474976710656) (h63 : n ≤ maxLen) (w : World) :
    (Instr.makeSlice t (.int .i64 n) (.int .i64 n)).run P w = .ok (.slice (some ⟨w.heap.size, 0, none⟩) n n) (w.alloc (.cells (List.replicate n z).toArray e)) := by
  obtain ⟨i, hi1, hz, hs, hby⟩ := info_parts hi
  subst hby
  have h63' : (n : Int) ≤ 9223372036854775807 := by
    have h := h63
    simp [maxLen] at h
    omega
  have hb' : (i.bytes : Int) * (n : Int) ≤ 281474976710656 := by
    have h : ((i.bytes * n : Nat) : Int) ≤ 281474976710656 := by omega
    rwa [Int.natCast_mul] at h
  have hr := run_make (P := P) w t e i z ht hi1 hz .i64 .i64 n n (by omega) (Int.le_refl _) hb' h63'
  rw [hs, Nat.mul_one, Int.toNat_natCast, made_one z hzc n] at hr
  exact hr

/-- 'append(s, x..)', x bytes, nil or none or some; s owned, not empty. -/
theorem run_appendB (t ty : TypeId) (base : Nat) (e : TypeId) (ht : P.underlying t = some (.slice e)) (hi : (P.info? e).map (fun i => (i.zero, i.size, i.bytes)) = some (some (.int .u8 0), 1, 1))
    (v : Value) (n : Nat) (xs : List Value) (hown : w.ownsRow base e 1 v n xs) (hn0 : 0 < n)
    (vb : Value) (ys : List Int) (hb : Bs w vb ys) (hn : n + ys.length ≤ 1000000) (hbase : base ≤ w.heap.size) :
    ∃ g c' w', (Builtin.append_ #[t, t] ty #[v, vb]).run P w = .ok (.slice (some ⟨g, 0, none⟩) (n + ys.length) c') w' ∧
      w'.ownsRow base e 1 (.slice (some ⟨g, 0, none⟩) (n + ys.length) c') (n + ys.length) (xs ++ cs8 ys) ∧ w.grownBy w' v.ownBlock ∧ base ≤ g ∧ g < w'.heap.size := by
  obtain ⟨i, hi1, hz, hs1, hb1⟩ := info_parts hi
  obtain ⟨p, c, rfl, hc, hnn, hx⟩ := id hb
  cases p with
  | none =>
    have hc0 : c = 0 := hnn rfl
    subst hc0
    have hz : ys = [] := List.eq_nil_of_length_eq_zero (by omega)
    subst hz
    obtain ⟨g, cap, rfl, hbg, hlt⟩ := hown.form hn0
    have hr := run_append_owned_none (P := P) w base t ty e i 1 ht hi1 _ n xs hown
    refine ⟨g, cap, w, hr, by simpa [cs8] using hown, ⟨rfl, rfl, rfl, Nat.le_refl _, fun _ _ _ => rfl⟩, hbg, hlt⟩
  | some ad =>
    obtain ⟨hmy, hcells⟩ := hb.cells
    obtain ⟨v', w', hr, h2, h3, -⟩ := run_append_own (P := P) w base t ty e i _ 1 1 ht hi1 hz hs1 hb1 rfl (by decide) v n xs hown ad ys.length c (cs8 ys) (by simp [cs8]) hcells (one_cs8 ys) (by unfold maxLen; omega) (by omega) hbase
    obtain ⟨g, cap, rfl, hbg, hlt⟩ := h2.form (by omega)
    exact ⟨g, cap, w', hr, h2, h3, hbg, hlt⟩

theorem step_appendB {K : Act → World → Prop} {E : Prop} (hgd : o.guard = none) (s x : Operand) (t : TypeId)
    (ho : o.op = .call { callee := .builtin .append, args := #[s, x], argTypes := #[t, t] })
    (base : Nat) (e : TypeId) (ht : P.underlying t = some (.slice e)) (hi : (P.info? e).map (fun i => (i.zero, i.size, i.bytes)) = some (some (.int .u8 0), 1, 1))
    (v : Value) (n : Nat) (xs : List Value) (hs : a.eval s = v) (hown : w.ownsRow base e 1 v n xs) (hn0 : 0 < n)
    (vb : Value) (ys : List Int) (hx : a.eval x = vb) (hb : Bs w vb ys) (hn : n + ys.length ≤ 1000000) (hbase : base ≤ w.heap.size)
    (h : ∀ g c' w', w'.ownsRow base e 1 (.slice (some ⟨g, 0, none⟩) (n + ys.length) c') (n + ys.length) (xs ++ cs8 ys) → w.grownBy w' v.ownBlock → base ≤ g → g < w'.heap.size → K (a.put o.dst (.slice (some ⟨g, 0, none⟩) (n + ys.length) c')) w') :
    if Region.wanted o (yielded ops a.tmps) = true then Oper.wp P o a w K Q else E := by
  have hw : Region.wanted o (yielded ops a.tmps) = true := by simp [Region.wanted, hgd]
  rw [if_pos hw]
  obtain ⟨g, c', w', hr, h2, h3, h4, h5⟩ := run_appendB (P := P) t o.type base e ht hi v n xs hown hn0 vb ys hb hn hbase
  unfold Oper.wp execOp
  simp only [ho, resolve, invoke, builtin, Sem.run_bind, Sem.run_pure, Result.andThen_ok, List.map_toArray, List.map_cons, List.map_nil, hs, hx, hr]
  exact h g c' w' h2 h3 h4 h5

/-- 'append(s, x..)', x bytes, nil or none or some; s owned, or nil. -/
theorem run_appendG (t ty : TypeId) (base : Nat) (e : TypeId) (ht : P.underlying t = some (.slice e)) (hi : (P.info? e).map (fun i => (i.zero, i.size, i.bytes)) = some (some (.int .u8 0), 1, 1))
    (v : Value) (n : Nat) (xs : List Value) (hown : w.ownsRow base e 1 v n xs)
    (vb : Value) (ys : List Int) (hb : Bs w vb ys) (hn : n + ys.length ≤ 100000000) (hbase : base ≤ w.heap.size) :
    ∃ v' w', (Builtin.append_ #[t, t] ty #[v, vb]).run P w = .ok v' w' ∧ w'.ownsRow base e 1 v' (n + ys.length) (xs ++ cs8 ys) ∧ w.grownBy w' v.ownBlock := by
  obtain ⟨i, hi1, hz, hs1, hb1⟩ := info_parts hi
  obtain ⟨p, c, rfl, hc, hnn, hx⟩ := id hb
  cases p with
  | none =>
    have hc0 : c = 0 := hnn rfl
    subst hc0
    have hz : ys = [] := List.eq_nil_of_length_eq_zero (by omega)
    subst hz
    have hr := run_append_owned_none (P := P) w base t ty e i 1 ht hi1 _ n xs hown
    exact ⟨v, w, hr, by simpa [cs8] using hown, ⟨rfl, rfl, rfl, Nat.le_refl _, fun _ _ _ => rfl⟩⟩
  | some ad =>
    obtain ⟨hmy, hcells⟩ := hb.cells
    obtain ⟨v', w', hr, h2, h3, -⟩ := run_append_own (P := P) w base t ty e i _ 1 1 ht hi1 hz hs1 hb1 rfl (by decide) v n xs hown ad ys.length c (cs8 ys) (by simp [cs8]) hcells (one_cs8 ys) (by unfold maxLen; omega) (by omega) hbase
    exact ⟨v', w', hr, h2, h3⟩
theorem own_slice {base : Nat} {e : TypeId} {v : Value} {n : Nat} {xs : List Value} (h : w.ownsRow base e 1 v n xs) : ∃ a c, v = .slice a n c := by
  rcases h.2 with ⟨rfl, rfl⟩ | ⟨g, c, cur, rfl, _⟩
  · exact ⟨_, _, rfl⟩
  · exact ⟨_, _, rfl⟩
end laws
end Go.Proofs.YtaemdppihpefnaaGreatDoor

/- A map with strings for keys that is known whole; a struct stored into a part of a row. No program is in sight. -/
namespace Go.Proofs.YtaemdppihpefnaaGreatDoor
open Go.RowKit
set_option linter.unusedVariables false

/-- An entry of a map. -/
def ent (s : ByteArray) (v : Value) (i : Nat) : MapEntry := { key := .string s, val := v, born := i }
/-- The entries of a map that was filled in this order, from number i on. -/
def ents : List (ByteArray × Value) → Nat → List MapEntry
  | [], _ => []
  | (s, v) :: r, i => ent s v i :: ents r (i + 1)
theorem ents_snoc : ∀ (l : List (ByteArray × Value)) (i : Nat) (x : ByteArray × Value), ents (l ++ [x]) i = ents l i ++ [ent x.1 x.2 (i + l.length)]
  | [], i, x => rfl
  | (s, v) :: r, i, x => by
    simp only [List.cons_append, ents, ents_snoc r (i + 1) x, List.length_cons]
    congr 4; omega
/-- Block m is the map of these keys and values, laid in this order. -/
def MapAt (w : World) (m : Nat) (l : List (ByteArray × Value)) : Prop := w.heap[m]? = some (.map (ents l 0).toArray l.length)

theorem findNow_none (s : ByteArray) : ∀ (l : List (ByteArray × Value)) (i j : Nat), (∀ x ∈ l, (s == x.1) = false) → Instr.findNow .string (.string s) (ents l i) j = some none
  | [], _, _, _ => rfl
  | (t, v) :: r, i, j, h => by
    have h1 := h (t, v) (by simp)
    simp only [ents, Instr.findNow, ent, Instr.sameNow]
    simp only at h1
    rw [h1]
    exact findNow_none s r (i + 1) (j + 1) (fun x hx => h x (by simp [hx]))
theorem findNow_some (s : ByteArray) (v : Value) : ∀ (l : List (ByteArray × Value)) (r : List (ByteArray × Value)) (i j : Nat), (∀ x ∈ l, (s == x.1) = false) → (s == s) = true → ∃ k, Instr.findNow .string (.string s) (ents (l ++ (s, v) :: r) i) j = some (some (k, v))
  | [], r, i, j, _, hs => ⟨j, by simp only [List.nil_append, ents, Instr.findNow, ent, Instr.sameNow]; rw [hs]⟩
  | (t, u) :: l, r, i, j, h, hs => by
    have h1 := h (t, u) (by simp)
    simp only [List.cons_append, ents, Instr.findNow, ent, Instr.sameNow]
    simp only at h1
    rw [h1]
    exact findNow_some s v l r (i + 1) (j + 1) (fun x hx => h x (by simp [hx])) hs

/-- 'm[s] = v', a key that is not there. -/
theorem run_mapPut {P : Program} (t k e : TypeId) (ht : P.underlying t = some (.map k e)) (hk : P.underlying k = some .string) (m : Nat) (l : List (ByteArray × Value)) (s : ByteArray) (v : Value) (hs : ∀ x ∈ l, (s == x.1) = false) (w : World) (hm : MapAt w m l) :
    (Instr.mapUpdate t (.map (some m)) (.string s) v).run P w = .ok () { w with heap := w.heap.setIfInBounds m (.map (ents (l ++ [(s, v)]) 0).toArray (l.length + 1)) } := by
  have hf := findNow_none s l 0 0 hs
  have hm : w.heap[m]? = some (.map (ents l 0).toArray l.length) := hm
  have hck : MapKept.IsKey .string (.string s) := by simp [MapKept.IsKey]
  simp [Instr.mapUpdate, run_underlying ht, MapKept.run_getObj_map hm, MapKept.run_checkKey hk hck, Instr.findKey, run_underlying hk, hf, MapKept.run_setObj_map _ hm, ents_snoc, ent]
theorem MapAt.put {w : World} {m : Nat} {l : List (ByteArray × Value)} (h : MapAt w m l) (s : ByteArray) (v : Value) : MapAt { w with heap := w.heap.setIfInBounds m (.map (ents (l ++ [(s, v)]) 0).toArray (l.length + 1)) } m (l ++ [(s, v)]) := by
  have hl : m < w.heap.size := (Array.getElem?_eq_some_iff.1 h).1
  simp [MapAt, hl]
theorem only_put (w : World) (m : Nat) (o : Obj) : Only m w { w with heap := w.heap.setIfInBounds m o } :=
  ⟨rfl, rfl, rfl, by simp, fun k hk => by simp [Ne.symm hk]⟩
theorem MapAt.lt {w : World} {m : Nat} {l : List (ByteArray × Value)} (h : MapAt w m l) : m < w.heap.size := (Array.getElem?_eq_some_iff.1 h).1
theorem MapAt.below {w w' : World} {m B : Nat} {l : List (ByteArray × Value)} (h : MapAt w m l) (hb : Below B w w') (hm : m < B) : MapAt w' m l := by
  unfold MapAt at *; rw [hb.block m hm]; exact h
/-- 'v, ok := m[s]', a key that is there. -/
theorem run_mapGet {P : Program} (t k e : TypeId) (ht : P.underlying t = some (.map k e)) (hk : P.underlying k = some .string) (m : Nat) (l r : List (ByteArray × Value)) (s : ByteArray) (v : Value) (hs : ∀ x ∈ l, (s == x.1) = false) (he : (s == s) = true) (w : World) (hm : MapAt w m (l ++ (s, v) :: r)) :
    (Instr.lookup t (.map (some m)) (.string s) true).run P w = .ok (.tuple #[v, .bool true]) w := by
  obtain ⟨i, hf⟩ := findNow_some s v l r 0 0 hs he
  have hm : w.heap[m]? = some (.map (ents (l ++ (s, v) :: r) 0).toArray (l ++ (s, v) :: r).length) := hm
  have hck : MapKept.IsKey .string (.string s) := by simp [MapKept.IsKey]
  simp [Instr.lookup, run_underlying ht, MapKept.run_getObj_map hm, MapKept.run_checkKey hk hck, Instr.findKey, run_underlying hk, hf]

section laws
variable {P : Program} {w : World} {ops : Array Oper} {rest : List Oper} {o : Oper} {a : Act} {Q : Exit → Act → World → Prop}
/-- A struct is stored into a part of a row. -/
theorem wpl_store_part (hgd : o.guard = none) (t : TypeId) (x v : Operand) (ho : o.op = Op.store t x v) (cs : List Value) (hv : a.eval v = .agg cs.toArray) (g off : Nat) (hx : a.eval x = .pointer (some ⟨g, off, none⟩))
    (T : TypeId) (cur : List Value) (hg : Row w g T cur) (hl : off + cs.length ≤ cur.length) (hs : (P.info? t).map (·.size) = some cs.length) (h1 : ∀ v ∈ cs, v.oneCell' = true)
    (h : ∀ w', Row w' g T (splice cur off cs) → Only g w w' → wpList P ops Q rest (a.put o.dst undef) w') : wpList P ops Q (o :: rest) a w := by
  refine wpList_plain hgd fun K hK => ?_
  obtain ⟨i, hi, hsz⟩ := Option.map_eq_some_iff.1 hs
  have hst := run_storeCells_at P g off T cs 0 cur.toArray w hg (by simpa using hl) h1
  have e : ((cur.toArray.toList.take (off + 0) ++ cs ++ cur.toArray.toList.drop (off + 0 + cs.length)).toArray) = (splice cur off cs).toArray := by simp [splice]
  rw [e] at hst
  have hr : (Instr.storeAt t (.pointer (some ⟨g, off, none⟩)) (.agg cs.toArray)).run P w = .ok () (w.setRow g (splice cur off cs).toArray) := by
    simp [Instr.storeAt, Instr.sureAddr, storeVar, Value.cells, sizeOf, typeInfo, hi, hsz, hst]
  unfold Oper.wp
  simp only [execOp, ho, hx, hv, Sem.run_bind, Sem.run_pure, hr, Result.andThen_ok, Oper.upon]
  exact hK _ _ (h _ (hg.setRow _) (Only.setRow _ _ _))
end laws
end Go.Proofs.YtaemdppihpefnaaGreatDoor

/- bytes.Equal, at every slice. -/
namespace Go.Proofs.YtaemdppihpefnaaGreatDoor
open Go.RowKit

set_option maxHeartbeats 400000 in
/-- bytes.Equal: whether the bytes are the same. -/
theorem equal (v1 v2 : Value) (xs ys : List Int) (w : World) (h1 : Bs w v1 xs) (h2 : Bs w v2 ys) (hx : Byt xs) (hy : Byt ys) :
   Calls Tryz.prog 12 #[v1, v2] w fun e w' => e = .returned (.bool (decide (xs = ys))) ∧ w = w' := by
  have hcv1 := h1.convert Tryz.underlying22 Tryz.underlying5 Tryz.underlying9
  have hcv2 := h2.convert Tryz.underlying22 Tryz.underlying5 Tryz.underlying9
  clear h1 h2
  rw [← str_beq xs ys hx hy]
  clear hx hy
  go_enter Tryz.func12, Tryz.ntmps12
  go_wp2
  go_ret
  exact ⟨rfl, rfl⟩
end Go.Proofs.YtaemdppihpefnaaGreatDoor

/- hmac.New's look whether two hashes are one (a closure that defers a recover). -/
namespace Go.Proofs.YtaemdppihpefnaaGreatDoor
open Go.RowKit
set_option linter.unusedVariables false

theorem caught (w : World) :
    CallsD Tryz.prog 148 #[] .returning w fun e u' w' => e = .returned (.tuple #[]) ∧ u' = .returning ∧ w' = w := by
  refine callsD_of_wpS Tryz.func148 rfl fun c₀ cs hu => ?_
  apply wpS_region
  simp [wpOpsS, go_sem, recoverD, hu, Tryz.ntmps148, bodyPostS, results, Tryz.results148]
  cases c₀
  simp_all

set_option maxRecDepth 100000 in
set_option maxHeartbeats 1000000 in
theorem uniq (T : TypeId) (V U B G1 G2 : Nat) (w : World) (hne : G1 ≠ G2) (hV : w.cell? ⟨V, 0, none⟩ = some (.pointer (some ⟨B, 0, none⟩)))
    (h2 : w.cell? ⟨B, 2, none⟩ = some (.iface T (.pointer (some ⟨G1, 0, none⟩)))) (h3 : w.cell? ⟨B, 3, none⟩ = some (.iface T (.pointer (some ⟨G2, 0, none⟩))))
    (hcmp : ∀ wx : World, wx.heap = w.heap → (binOp .eql 207 (.iface T (.pointer (some ⟨G1, 0, none⟩))) (.iface T (.pointer (some ⟨G2, 0, none⟩)))).run Tryz.prog wx = .ok (.bool false) wx) :
    Calls Tryz.prog 147 #[.pointer (some ⟨V, 0, none⟩), .pointer (some ⟨U, 0, none⟩)] w fun e w' => e = .returned (.tuple #[]) ∧ ∃ n, w' = w.drewN n := by
  go_enter_defers Tryz.func147, Tryz.ntmps147
  go_wp2_with fail
  go_still_tail 8, (by kernel_rfl)
  change wpList _ _ _ _ _ w.drew
  have hc := hcmp w.drew rfl
  obtain ⟨wd, hwd⟩ : ∃ wd : World, wd = w.drew := ⟨_, rfl⟩
  rw [← hwd] at hc ⊢
  have Hwd := Lib.hid hwd
  clear hcmp hwd
  go_wp2_with fail
  refine leaves_cons (f := 148) (args := #[]) (by simp) (by simp [go_sem]) ?_
  refine (caught _).mono ?_
  rintro e u' w'' ⟨rfl, rfl, rfl⟩
  simp [Leaves, settle, results, Tryz.results147, go_sem]
  exact ⟨1, Hwd.out⟩
end Go.Proofs.YtaemdppihpefnaaGreatDoor

/- bits.RotateLeft64: a word turned, in the walk's own spelling. -/
namespace Go.Proofs.YtaemdppihpefnaaGreatDoor
open Go.RowKit
set_option linter.unusedVariables false

/-- By how many places a word is turned to the left. -/
def rotBy64 (k : Int) : Int := bits .and .u64 (IntKind.u64.wrap k) 63
/-- A word of 64 bits, turned. -/
def rot64 (x k : Int) : Int := bits .or .u64 (IntKind.u64.wrap (x * 2 ^ (rotBy64 k).toNat)) (x / 2 ^ (64 - rotBy64 k).toNat)

set_option maxRecDepth 100000 in
set_option maxHeartbeats 1000000 in
theorem rot64_any (x k : Int) (w : World) (hk : 1 ≤ rotBy64 k ∧ rotBy64 k ≤ 63) :
    Calls Tryz.prog 284 #[.int .u64 x, .int .i64 k] w fun e w' => e = .returned (.int .u64 (rot64 x k)) ∧ w = w' := by
  obtain ⟨h1, h2⟩ := hk
  unfold rot64
  obtain ⟨s, hs⟩ : ∃ s, rotBy64 k = s := ⟨_, rfl⟩
  rw [hs] at h1 h2 ⊢
  unfold rotBy64 at hs
  go_enter Tryz.func284, Tryz.ntmps284
  go_wp2
  go_ret
  exact ⟨rfl, rfl⟩
theorem rot64_q (x k : Int) (w : World) (hk : 1 ≤ rotBy64 k ∧ rotBy64 k ≤ 63) :
    Calls Tryz.prog 284 #[.int .u64 x, .int .i64 k] w fun e w' => e = .returned (.int .u64 (rot64 x k)) ∧ w' = w :=
  (rot64_any x k w hk).mono fun _ _ h => ⟨h.1, h.2.symm⟩
end Go.Proofs.YtaemdppihpefnaaGreatDoor
