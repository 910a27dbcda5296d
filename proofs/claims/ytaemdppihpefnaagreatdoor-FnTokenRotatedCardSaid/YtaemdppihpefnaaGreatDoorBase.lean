/- Words on rows of cells, and laws of the walk for make, copy and append in them. No program is in sight. -/
import Derived.WalkKit
import Derived.WalkLawsBesides
import Derived.WalkSpells
import Derived.ProofKit
import Derived.Lib.Hide
import Derived.Lib.Bytes
import Derived.Laws.CopyOwn
namespace Go.Proofs.YtaemdppihpefnaaGreatDoor
open Go.RowKit
set_option linter.unusedVariables false

/-- Block g is a row of the cells cur, none of them frozen. -/
def Row (w : World) (g : Nat) (t : TypeId) (cur : List Value) : Prop := w.heap[g]? = some (.cells cur.toArray t (0, 0))

/-- w' is w, but for block g. -/
structure Only (g : Nat) (w w' : World) : Prop where
  os : w'.os = w.os
  tape : w'.tape = w.tape
  output : w'.output = w.output
  size : w'.heap.size = w.heap.size
  block : ∀ k, k ≠ g → w'.heap[k]? = w.heap[k]?

/-- w' holds what w held, but for block g; there may be new blocks. -/
structure But (g : Nat) (w w' : World) : Prop where
  os : w'.os = w.os
  tape : w'.tape = w.tape
  output : w'.output = w.output
  size : w.heap.size ≤ w'.heap.size
  block : ∀ k, k < w.heap.size → k ≠ g → w'.heap[k]? = w.heap[k]?

theorem But.of_below {g : Nat} {w w' : World} (h : Below w.heap.size w w') : But g w w' := ⟨h.os, h.tape, h.output, h.size, fun k hk _ => h.block k hk⟩
theorem But.refl (g : Nat) (w : World) : But g w w := .of_below (Below.refl _ _)
theorem But.trans {g : Nat} {a b c : World} (h : But g a b) (k : But g b c) : But g a c :=
  ⟨k.os.trans h.os, k.tape.trans h.tape, k.output.trans h.output, Nat.le_trans h.size k.size, fun i hi hg => (k.block i (Nat.lt_of_lt_of_le hi h.size) hg).trans (h.block i hi hg)⟩
theorem But.of_only {g : Nat} {w w' : World} (h : Only g w w') : But g w w' := ⟨h.os, h.tape, h.output, Nat.le_of_eq h.size.symm, fun k _ hg => h.block k hg⟩
theorem But.below {g B : Nat} {w w' : World} (h : But g w w') (hB : B ≤ g) (hs : g ≤ w.heap.size) : Below B w w' :=
  ⟨h.os, h.tape, h.output, h.size, fun k hk => h.block k (by omega) (by omega)⟩
theorem But.drew {g : Nat} {a w : World} (h : But g a w) : But g a w.drew := ⟨h.os, h.tape, h.output, h.size, h.block⟩

/-- The length of a slice's value. -/
def lenOf : Value → Nat
  | .slice _ n _ => n
  | _ => 0

theorem Row.lt {w : World} {g : Nat} {t : TypeId} {cur : List Value} (h : Row w g t cur) : g < w.heap.size := (Array.getElem?_eq_some_iff.1 h).1

theorem Row.cell {w : World} {g : Nat} {t : TypeId} {cur : List Value} (h : Row w g t cur) (j : Nat) : w.cell? ⟨g, j, none⟩ = cur[j]? := by
  rw [cell_of_row w g j _ _ _ h]; simp

theorem Row.unfrozen {w : World} {g : Nat} {t : TypeId} {cur : List Value} (h : Row w g t cur) (j : Nat) : w.frozen? ⟨g, j, none⟩ = false := by
  unfold Row at h
  simp [World.frozen?, h]

theorem Row.below {w w' : World} {B g : Nat} {t : TypeId} {cur : List Value} (h : Row w g t cur) (hb : Below B w w') (hg : g < B) : Row w' g t cur := by
  unfold Row at h ⊢
  rw [hb.block g hg]; exact h

theorem Row.but {w w' : World} {g k : Nat} {t : TypeId} {cur : List Value} (h : Row w g t cur) (hb : But k w w') (hg : g ≠ k) : Row w' g t cur := by
  have hl := (Array.getElem?_eq_some_iff.1 h).1
  unfold Row at h ⊢
  rw [hb.block g hl hg]; exact h

theorem Row.only {w w' : World} {g k : Nat} {t : TypeId} {cur : List Value} (h : Row w g t cur) (hb : Only k w w') (hg : g ≠ k) : Row w' g t cur := by
  unfold Row at h ⊢
  rw [hb.block g hg]; exact h

theorem Only.below {w w' : World} {g B : Nat} (h : Only g w w') (hB : B ≤ g) : Below B w w' :=
  ⟨h.os, h.tape, h.output, Nat.le_of_eq h.size.symm, fun k hk => h.block k (by omega)⟩

theorem Only.set (w : World) (g j : Nat) (u : Value) : Only g w (w.setCell ⟨g, j, none⟩ u) :=
  ⟨rfl, rfl, rfl, by simp [World.setCell], fun _ hk => Below.heap_setCell _ _ _ _ hk⟩

theorem Row.set {w : World} {g : Nat} {t : TypeId} {cur : List Value} (h : Row w g t cur) (j : Nat) (u : Value) : Row (w.setCell ⟨g, j, none⟩ u) g t (cur.set j u) := by
  unfold Row at h ⊢
  simp [World.setCell, Array.getElem?_modify, h]

theorem Row.alloc (w : World) (cur : List Value) (t : TypeId) : Row (w.alloc (.cells cur.toArray t)) w.heap.size t cur := heap_alloc_new w _

theorem Row.new (w : World) (cs : Array Value) (t : TypeId) (g : Nat) (hg : g = w.heap.size) : Row (w.alloc (.cells cs t)) g t cs.toList := by
  subst hg; unfold Row; rw [heap_alloc_new]

theorem Row.setRow {w : World} {g : Nat} {t : TypeId} {cur : List Value} (h : Row w g t cur) (cs : List Value) : Row (w.setRow g cs.toArray) g t cs := setRow_heap w g _ _ _ _ h

theorem Only.setRow (w : World) (g : Nat) (cs : Array Value) : Only g w (w.setRow g cs) :=
  ⟨rfl, rfl, rfl, by simp, fun k hk => setRow_other w g k cs hk⟩

theorem below_alloc {a w : World} (h : Below a.heap.size a w) (o : Obj) : Below a.heap.size a (w.alloc o) := h.alloc h.size o

/-- The value v is a slice of the bytes xs (nil or of no byte, too). -/
def Bs (w : World) (v : Value) (xs : List Int) : Prop :=
  ∃ p c, v = .slice p xs.length c ∧ xs.length ≤ c ∧ (p = none → c = 0) ∧
    (0 < xs.length → ∃ b o, p = some ⟨b, o, none⟩ ∧ ∀ i, i < xs.length → w.cell? ⟨b, o + i, none⟩ = some (.int .u8 (xs.getD i 0)))

/-- Each number is a byte's. -/
def Byt (xs : List Int) : Prop := ∀ x ∈ xs, 0 ≤ x ∧ x < 256

theorem Byt.at {xs : List Int} (h : Byt xs) {i : Nat} (hi : i < xs.length) : 0 ≤ xs.getD i 0 ∧ xs.getD i 0 < 256 := h _ (by simp [List.getD, hi])

/-- The cells of some bytes. -/
def cs8 (xs : List Int) : List Value := xs.map (Value.int .u8)

theorem length_cs8 (xs : List Int) : (cs8 xs).length = xs.length := by simp [cs8]
theorem one_cs8 (xs : List Int) : ∀ u ∈ cs8 xs, u.oneCell' = true := by
  intro u hu; obtain ⟨z, _, rfl⟩ := List.mem_map.1 hu; rfl
theorem get_cs8 (xs : List Int) (i : Nat) (hi : i < xs.length) : (cs8 xs)[i]? = some (.int .u8 (xs.getD i 0)) := by simp [cs8, List.getD, hi]

theorem Bs.below {w w' : World} {v : Value} {xs : List Int} (h : Bs w v xs) (hb : Below w.heap.size w w') : Bs w' v xs := by
  obtain ⟨p, c, hv, hc, hn, hx⟩ := h
  refine ⟨p, c, hv, hc, hn, fun hl => ?_⟩
  obtain ⟨b, o, hp, hcell⟩ := hx hl
  refine ⟨b, o, hp, fun i hi => ?_⟩
  have h1 := hcell i hi
  rw [hb.cell (World.block_lt_of_cell? w _ h1)]
  exact h1

theorem Bs.nil (w : World) : Bs w (.slice none 0 0) [] := ⟨none, 0, rfl, Nat.le_refl _, fun _ => rfl, fun h => by cases h⟩

/-- A part of a row of bytes. -/
theorem Bs.row {w : World} {g : Nat} {t : TypeId} {cur : List Value} (h : Row w g t cur) (o c : Nat) (xs : List Int) (hc : xs.length ≤ c) (hx : ∀ i, i < xs.length → cur[o + i]? = some (.int .u8 (xs.getD i 0))) :
    Bs w (.slice (some ⟨g, o, none⟩) xs.length c) xs :=
  ⟨_, c, rfl, hc, (fun h => by cases h), fun _ => ⟨g, o, rfl, fun i hi => by rw [h.cell]; exact hx i hi⟩⟩

theorem Bs.own {w : World} {B : Nat} {e : TypeId} {v : Value} {n : Nat} {xs : List Int} (h : w.ownsRow B e 1 v n (cs8 xs)) : Bs w v xs := by
  have hl : xs.length = n := by have := h.1; simpa [cs8] using this
  subst hl
  rcases h.2 with ⟨rfl, h0⟩ | ⟨g, cap, cur, rfl, hb, hg, hn, hm, hs, ht⟩
  · refine ⟨none, 0, by rw [h0], by omega, fun _ => rfl, fun hp => by omega⟩
  · refine ⟨_, cap, rfl, hn, (fun h => by cases h), fun _ => ⟨g, 0, rfl, fun i hi => ?_⟩⟩
    have := h.cells (g := g) rfl i (.int .u8 (xs.getD i 0)) (get_cs8 xs i hi)
    rw [Go.WideShapes.add_plain] at this
    exact this

theorem Bs.at {w : World} {p : Option Addr} {n c : Nat} {xs : List Int} (h : Bs w (.slice p n c) xs) (hn : 0 < n) :
    ∃ b o, p = some ⟨b, o, none⟩ ∧ ∀ i, i < n → w.cell? ⟨b, o + i, none⟩ = some (.int .u8 (xs.getD i 0)) := by
  obtain ⟨p', c', hv, hc, hnn, hx⟩ := h
  simp only [Value.slice.injEq] at hv
  obtain ⟨rfl, rfl, rfl⟩ := hv
  exact hx hn

/-- The cells that a slice of bytes leads to. -/
theorem Bs.cells {w : World} {a : Addr} {n c : Nat} {xs : List Int} (h : Bs w (.slice (some a) n c) xs) : n = xs.length ∧ ∀ (j : Nat) u, (cs8 xs)[j]? = some u → w.cell? (a.add j) = some u := by
  obtain ⟨p, c', hv, hc, hn, hx⟩ := h
  simp only [Value.slice.injEq] at hv
  obtain ⟨rfl, rfl, rfl⟩ := hv
  refine ⟨rfl, fun j u hj => ?_⟩
  have hlt : j < xs.length := by
    have := (List.getElem?_eq_some_iff.1 hj).1
    rwa [length_cs8] at this
  obtain ⟨b, o, hp, hcell⟩ := hx (by omega)
  cases hp
  rw [Go.WideShapes.add_plain, hcell j hlt, ← hj, get_cs8 xs j hlt]

theorem Bs.convert {P : Program} {w : World} {src e dst : TypeId} {v : Value} {xs : List Int} (h : Bs w v xs) (hs : P.underlying src = some (.slice e)) (he : P.underlying e = some (.int .u8)) (hd : P.underlying dst = some .string) :
    (_root_.Go.convert src dst v).run P w = .ok (.string (strOfNums xs)) w := by
  obtain ⟨p, c, rfl, hc, hn, hx⟩ := h
  by_cases hl : 0 < xs.length
  · obtain ⟨b, o, rfl, hcell⟩ := hx hl
    exact run_convert_bytes_arg w src e hs he b o xs.length c xs rfl hcell dst hd
  · have hz : xs = [] := List.eq_nil_of_length_eq_zero (by omega)
    subst hz
    cases p with
    | none => exact run_convert_bytes_nil w src e hs he 0 c dst hd
    | some a =>
      have hl : (loadCells a 0).run P w = .ok (([] : List Int).map (Value.int .u8)).toArray w := by
        have := run_loadCells_list (P := P) w a (([] : List Int).map (Value.int .u8)) (fun j v hj => by simp at hj)
        simpa using this
      show (_root_.Go.convert src dst (.slice (some a) 0 c)).run P w = _
      rw [run_convert_bytes_string w src dst e _ 0 c hs he hd, run_bytesToString w _ 0 c [] hl]
      rfl

theorem u8_inj {x y : Int} (hx : 0 ≤ x ∧ x < 256) (hy : 0 ≤ y ∧ y < 256) (h : UInt8.ofNat x.toNat = UInt8.ofNat y.toNat) : x = y := by
  have := congrArg UInt8.toNat h
  simp only [UInt8.toNat_ofNat'] at this
  omega

theorem bytesOf_inj : ∀ (xs ys : List Int), Byt xs → Byt ys → Lib.bytesOf xs = Lib.bytesOf ys → xs = ys
  | [], [], _, _, _ => rfl
  | [], _ :: _, _, _, h => by simp [Lib.bytesOf] at h
  | _ :: _, [], _, _, h => by simp [Lib.bytesOf] at h
  | x :: xs, y :: ys, hx, hy, h => by
    simp only [Lib.bytesOf, List.map_cons, List.cons.injEq] at h
    rw [u8_inj (hx x (by simp)) (hy y (by simp)) h.1, bytesOf_inj xs ys (fun z hz => hx z (by simp [hz])) (fun z hz => hy z (by simp [hz])) h.2]

theorem str_beq (xs ys : List Int) (hx : Byt xs) (hy : Byt ys) : ((strOfNums xs).toList == (strOfNums ys).toList) = decide (xs = ys) := by
  rw [Lib.strOfNums_toList, Lib.strOfNums_toList, Bool.eq_iff_iff]
  simp only [beq_iff_eq, decide_eq_true_eq]
  exact ⟨bytesOf_inj xs ys hx hy, fun h => by rw [h]⟩

theorem results_tmp4 {fn : Func} {t u v x : Tmp} (h : fn.results = #[.tmp t, .tmp u, .tmp v, .tmp x]) (tmps : Array Value) (P : Program) (w : World) :
    (results fn tmps).run P w = .ok (.tuple #[tmps.getD t undef, tmps.getD u undef, tmps.getD v undef, tmps.getD x undef]) w := by
  simp [results, h]

theorem made_one (z : Value) (hz : z.cells = #[z]) (n : Nat) : madeCells z.cells n = (List.replicate n z).toArray := by
  rw [hz]
  apply Array.ext_getElem?
  intro j
  simp only [madeCells]
  by_cases hj : j < n
  · simp [hj, Nat.mod_one]
  · simp [hj]

section laws
variable {P : Program} {w : World} {ops : Array Oper} {rest : List Oper} {o : Oper} {a : Act} {Q : Exit → Act → World → Prop}

/-- 'make([]T, n)', elements of one cell. -/
theorem wpl_make (hgd : o.guard = none) (l c : Operand) (t : TypeId) (ho : o.op = Op.makeSlice t l c) (e : TypeId) (z : Value) (bytes : Nat)
    (ht : P.underlying t = some (.slice e)) (hi : (P.info? e).map (fun i => (i.zero, i.size, i.bytes)) = some (some z, 1, bytes)) (hzc : z.cells = #[z])
    (kl kc : IntKind) (C : Int) (n : Nat) (hl : a.eval l = .int kl C) (hc : a.eval c = .int kc C) (hC : C = (n : Int)) (hb2 : bytes * n ≤ 281474976710656) (h63 : n ≤ maxLen)
    (h : ∀ g w', g = w.heap.size → Row w' g e (List.replicate n z) → w'.heap.size = w.heap.size + 1 → Below w.heap.size w w' → wpList P ops Q rest (a.put o.dst (.slice (some ⟨g, 0, none⟩) n n)) w') :
    wpList P ops Q (o :: rest) a w := by
  subst hC
  obtain ⟨i, hi1, hz, hs, hby⟩ := info_parts hi
  subst hby
  refine wpList_plain hgd fun K hK => ?_
  have h63' : (n : Int) ≤ 9223372036854775807 := by
    have h := h63
    simp [maxLen] at h
    omega
  have hb' : (i.bytes : Int) * (n : Int) ≤ 281474976710656 := by
    have h : ((i.bytes * n : Nat) : Int) ≤ 281474976710656 := by omega
    rwa [Int.natCast_mul] at h
  have hr := run_make (P := P) w t e i z ht hi1 hz kl kc n n (by omega) (Int.le_refl _) hb' h63'
  rw [hs, Nat.mul_one, Int.toNat_natCast, made_one z hzc n] at hr
  unfold Oper.wp
  simp only [execOp, ho, hl, hc, Sem.run_bind, Sem.run_pure, hr, Result.andThen_ok, Oper.upon]
  exact hK _ _ (h _ _ rfl (Row.alloc w _ e) (by simp) ((Below.refl _ _).alloc (Nat.le_refl _) _))

/-- 'copy(dst, src)', dst a part of a row. -/
theorem wpl_copy (hgd : o.guard = none) (d s : Operand) (dT sT : TypeId)
    (ho : o.op = .call { callee := .builtin .copy, args := #[d, s], argTypes := #[dT, sT] }) (elem : TypeId) (hu : P.underlying dT = some (.slice elem)) (hsz : (P.info? elem).map (·.size) = some 1)
    (dp sp : Option Addr) (dLen dCap sLen sCap : Nat) (hd : a.eval d = .slice dp dLen dCap) (hs : a.eval s = .slice sp sLen sCap)
    (g off : Nat) (cur : List Value) (t : TypeId) (hg : Row w g t cur) (cs : List Value) (hn : cs.length = Nat.min sLen dLen)
    (hpos : 0 < cs.length → dp = some ⟨g, off, none⟩ ∧ ∃ ad, sp = some ad ∧ ∀ j v, cs[j]? = some v → w.cell? (ad.add j) = some v)
    (hfit : off + cs.length ≤ cur.length) (h1 : ∀ v ∈ cs, v.oneCell' = true)
    (h : ∀ w', Row w' g t (splice cur off cs) → Only g w w' → wpList P ops Q rest (a.put o.dst (goInt cs.length)) w') :
    wpList P ops Q (o :: rest) a w := by
  by_cases h0 : 0 < cs.length
  · obtain ⟨rfl, ad, rfl, hsrc⟩ := hpos h0
    refine wpList_copy_own hgd d s dT sT ho elem hu hsz g off dLen dCap ad sLen sCap hd hs cur.toArray t hg cs hn hsrc (by simpa using hfit) h1 ?_
    exact h _ (hg.setRow (splice cur off cs)) (Only.setRow _ _ _)
  · have hz : cs = [] := List.eq_nil_of_length_eq_zero (by omega)
    subst hz
    refine wpList_copy_nothing hgd d s dT sT ho elem hu hsz dp sp dLen dCap sLen sCap hd hs (by simpa using hn.symm) ?_
    refine h w ?_ ⟨rfl, rfl, rfl, rfl, fun _ _ => rfl⟩
    simpa [splice] using hg

end laws
/-- A slice's address behind a cut at l (the capacity m): where nothing of the capacity is left, it stays. -/
def cutA (a : Option Addr) (l m : Nat) : Option Addr := if m = l then a else a.map (·.add l)

theorem Bs.cut {w : World} {p : Option Addr} {n c : Nat} {xs : List Int} (h : Bs w (.slice p n c) xs) (l k : Nat) (hl : l ≤ k) (hk : k ≤ n) :
    Bs w (.slice (cutA p l c) (k - l) (c - l)) ((xs.take k).drop l) := by
  obtain ⟨p', c', hv, hc, hn, hx⟩ := h
  simp only [Value.slice.injEq] at hv
  obtain ⟨rfl, rfl, rfl⟩ := hv
  have hlen : ((xs.take k).drop l).length = k - l := by simp; omega
  refine ⟨cutA p l c, c - l, by rw [hlen], by rw [hlen]; omega, fun hp => ?_, fun hpos => ?_⟩
  · unfold cutA at hp
    split at hp
    · omega
    · rw [Option.map_eq_none_iff] at hp
      have := hn hp
      omega
  · rw [hlen] at hpos
    obtain ⟨b, o, rfl, hcell⟩ := hx (by omega)
    refine ⟨b, o + l, ?_, fun i hi => ?_⟩
    · unfold cutA
      rw [if_neg (by omega)]
      simp [Go.WideShapes.add_plain]
    · rw [hlen] at hi
      rw [Nat.add_assoc, hcell (l + i) (by omega)]
      simp [List.getD, List.getElem?_drop, show l + i < k by omega]

theorem Bs.lenOf {w : World} {v : Value} {xs : List Int} (h : Bs w v xs) : YtaemdppihpefnaaGreatDoor.lenOf v = xs.length := by
  obtain ⟨p, c, rfl, _⟩ := h; rfl

section laws
variable {P : Program} {w : World} {ops : Array Oper} {rest : List Oper} {o : Oper} {a : Act} {Q : Exit → Act → World → Prop}

/-- 'x[l:]' at a slice of bytes. -/
theorem wpl_from (hgd : o.guard = none) (x lo : Operand) (t : TypeId) (ho : o.op = Op.slice t x (some lo) none none) (e : TypeId) (ht : P.underlying t = some (.slice e)) (hs : (P.info? e).map (·.size) = some 1)
    (v : Value) (hx : a.eval x = v) (xs : List Int) (hb : Bs w v xs) (k : IntKind) (L : Int) (l : Nat) (hl : a.eval lo = .int k L) (hL : L = (l : Int)) (hle : l ≤ xs.length)
    (h : ∀ v', (∀ w', Bs w' v xs → Bs w' v' (xs.drop l)) → wpList P ops Q rest (a.put o.dst v') w) : wpList P ops Q (o :: rest) a w := by
  subst hL
  obtain ⟨p, c, rfl, hc, hn⟩ := id hb
  refine wpList_plain hgd fun K hK => ?_
  obtain ⟨i, hi, hsz⟩ := Option.map_eq_some_iff.1 hs
  have hb2 : ∀ w', Bs w' (.slice p xs.length c) xs → Bs w' (.slice (cutA p l c) (xs.length - l) (c - l)) (xs.drop l) := fun w' hb => by
    have hb2 := hb.cut l xs.length hle (Nat.le_refl _)
    rwa [List.take_length] at hb2
  have hr : (Instr.sliceAt t (.slice p xs.length c) (some (.int k l)) none none).run P w = .ok (.slice (cutA p l c) (xs.length - l) (c - l)) w := by
    simp [Instr.sliceAt, Instr.slice, Instr.sliceBounds, Instr.sliceBound, asIntOf, run_underlying ht, sizeOf, typeInfo, hi, hsz, cutA]
    intro hh; exact absurd hh (by omega)
  unfold Oper.wp
  simp only [execOp, ho, hx, hl, Option.map_some, Option.map_none, Sem.run_bind, Sem.run_pure, hr, Result.andThen_ok, Oper.upon]
  exact hK _ _ (h _ hb2)

/-- 'x[:h]' at a slice of bytes. -/
theorem wpl_to (hgd : o.guard = none) (x hi : Operand) (t : TypeId) (ho : o.op = Op.slice t x none (some hi) none) (e : TypeId) (ht : P.underlying t = some (.slice e)) (hs : (P.info? e).map (·.size) = some 1)
    (v : Value) (hx : a.eval x = v) (xs : List Int) (hb : Bs w v xs) (k : IntKind) (L : Int) (l : Nat) (hl : a.eval hi = .int k L) (hL : L = (l : Int)) (hle : l ≤ xs.length)
    (h : ∀ v', (∀ w', Bs w' v xs → Bs w' v' (xs.take l)) → wpList P ops Q rest (a.put o.dst v') w) : wpList P ops Q (o :: rest) a w := by
  subst hL
  obtain ⟨p, c, rfl, hc, hn⟩ := id hb
  refine wpList_plain hgd fun K hK => ?_
  obtain ⟨i, hi1, hsz⟩ := Option.map_eq_some_iff.1 hs
  have hb2 : ∀ w', Bs w' (.slice p xs.length c) xs → Bs w' (.slice (cutA p 0 c) (l - 0) (c - 0)) (xs.take l) := fun w' hb => by
    have hb2 := hb.cut 0 l (Nat.zero_le _) hle
    rwa [List.drop_zero] at hb2
  have hr : (Instr.sliceAt t (.slice p xs.length c) none (some (.int k l)) none).run P w = .ok (.slice (cutA p 0 c) (l - 0) (c - 0)) w := by
    simp [Instr.sliceAt, Instr.slice, Instr.sliceBounds, Instr.sliceBound, asIntOf, run_underlying ht, sizeOf, typeInfo, hi1, cutA]
    intro hh; exact absurd hh (by omega)
  unfold Oper.wp
  simp only [execOp, ho, hx, hl, Option.map_some, Option.map_none, Sem.run_bind, Sem.run_pure, hr, Result.andThen_ok, Oper.upon]
  exact hK _ _ (h _ hb2)
end laws
end Go.Proofs.YtaemdppihpefnaaGreatDoor
