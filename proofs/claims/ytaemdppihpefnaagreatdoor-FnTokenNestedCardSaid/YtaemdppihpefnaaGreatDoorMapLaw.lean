/- A map with strings for keys that is known whole; a struct stored into a part of a row. No program is in sight. -/
import Derived.Test.YtaemdppihpefnaaGreatDoorOff
import Derived.MapKept
namespace Go.Proofs.YtaemdppihpefnaaGreatDoor
open Go.RowKit
set_option linter.unusedVariables false

/-- An entry of a map. -/
def ent (s : ByteArray) (v : Value) (i : Nat) : MapEntry := { key := .string s, val := v, born := i }
/-- The entries of a map that was filled in this order, from number i on. -/
def ents : List (ByteArray × Value) → Nat → List MapEntry
  | [], _ => []
  | (s, v) :: r, i => ent s v i :: ents r (i + 1)
theorem ents_snoc : ∀ (l : List (ByteArray × Value)) (i : Nat) (x : ByteArray × Value), ents (l ++ [x]) i = ents l i ++ [ent x.1 x.2 (i + l.length)]
  | [], i, x => rfl
  | (s, v) :: r, i, x => by
    simp only [List.cons_append, ents, ents_snoc r (i + 1) x, List.length_cons]
    congr 4; omega
/-- Block m is the map of these keys and values, laid in this order. -/
def MapAt (w : World) (m : Nat) (l : List (ByteArray × Value)) : Prop := w.heap[m]? = some (.map (ents l 0).toArray l.length)

theorem findNow_none (s : ByteArray) : ∀ (l : List (ByteArray × Value)) (i j : Nat), (∀ x ∈ l, (s == x.1) = false) → Instr.findNow .string (.string s) (ents l i) j = some none
  | [], _, _, _ => rfl
  | (t, v) :: r, i, j, h => by
    have h1 := h (t, v) (by simp)
    simp only [ents, Instr.findNow, ent, Instr.sameNow]
    simp only at h1
    rw [h1]
    exact findNow_none s r (i + 1) (j + 1) (fun x hx => h x (by simp [hx]))
theorem findNow_some (s : ByteArray) (v : Value) : ∀ (l : List (ByteArray × Value)) (r : List (ByteArray × Value)) (i j : Nat), (∀ x ∈ l, (s == x.1) = false) → (s == s) = true → ∃ k, Instr.findNow .string (.string s) (ents (l ++ (s, v) :: r) i) j = some (some (k, v))
  | [], r, i, j, _, hs => ⟨j, by simp only [List.nil_append, ents, Instr.findNow, ent, Instr.sameNow]; rw [hs]⟩
  | (t, u) :: l, r, i, j, h, hs => by
    have h1 := h (t, u) (by simp)
    simp only [List.cons_append, ents, Instr.findNow, ent, Instr.sameNow]
    simp only at h1
    rw [h1]
    exact findNow_some s v l r (i + 1) (j + 1) (fun x hx => h x (by simp [hx])) hs

/-- 'm[s] = v', a key that is not there. -/
theorem run_mapPut {P : Program} (t k e : TypeId) (ht : P.underlying t = some (.map k e)) (hk : P.underlying k = some .string) (m : Nat) (l : List (ByteArray × Value)) (s : ByteArray) (v : Value) (hs : ∀ x ∈ l, (s == x.1) = false) (w : World) (hm : MapAt w m l) :
    (Instr.mapUpdate t (.map (some m)) (.string s) v).run P w = .ok () { w with heap := w.heap.setIfInBounds m (.map (ents (l ++ [(s, v)]) 0).toArray (l.length + 1)) } := by
  have hf := findNow_none s l 0 0 hs
  have hm : w.heap[m]? = some (.map (ents l 0).toArray l.length) := hm
  have hck : MapKept.IsKey .string (.string s) := by simp [MapKept.IsKey]
  simp [Instr.mapUpdate, run_underlying ht, MapKept.run_getObj_map hm, MapKept.run_checkKey hk hck, Instr.findKey, run_underlying hk, hf, MapKept.run_setObj_map _ hm, ents_snoc, ent]
theorem MapAt.put {w : World} {m : Nat} {l : List (ByteArray × Value)} (h : MapAt w m l) (s : ByteArray) (v : Value) : MapAt { w with heap := w.heap.setIfInBounds m (.map (ents (l ++ [(s, v)]) 0).toArray (l.length + 1)) } m (l ++ [(s, v)]) := by
  have hl : m < w.heap.size := (Array.getElem?_eq_some_iff.1 h).1
  simp [MapAt, hl]
theorem only_put (w : World) (m : Nat) (o : Obj) : Only m w { w with heap := w.heap.setIfInBounds m o } :=
  ⟨rfl, rfl, rfl, by simp, fun k hk => by simp [Ne.symm hk]⟩
theorem MapAt.lt {w : World} {m : Nat} {l : List (ByteArray × Value)} (h : MapAt w m l) : m < w.heap.size := (Array.getElem?_eq_some_iff.1 h).1
theorem MapAt.below {w w' : World} {m B : Nat} {l : List (ByteArray × Value)} (h : MapAt w m l) (hb : Below B w w') (hm : m < B) : MapAt w' m l := by
  unfold MapAt at *; rw [hb.block m hm]; exact h
/-- 'v, ok := m[s]', a key that is there. -/
theorem run_mapGet {P : Program} (t k e : TypeId) (ht : P.underlying t = some (.map k e)) (hk : P.underlying k = some .string) (m : Nat) (l r : List (ByteArray × Value)) (s : ByteArray) (v : Value) (hs : ∀ x ∈ l, (s == x.1) = false) (he : (s == s) = true) (w : World) (hm : MapAt w m (l ++ (s, v) :: r)) :
    (Instr.lookup t (.map (some m)) (.string s) true).run P w = .ok (.tuple #[v, .bool true]) w := by
  obtain ⟨i, hf⟩ := findNow_some s v l r 0 0 hs he
  have hm : w.heap[m]? = some (.map (ents (l ++ (s, v) :: r) 0).toArray (l ++ (s, v) :: r).length) := hm
  have hck : MapKept.IsKey .string (.string s) := by simp [MapKept.IsKey]
  simp [Instr.lookup, run_underlying ht, MapKept.run_getObj_map hm, MapKept.run_checkKey hk hck, Instr.findKey, run_underlying hk, hf]

section laws
variable {P : Program} {w : World} {ops : Array Oper} {rest : List Oper} {o : Oper} {a : Act} {Q : Exit → Act → World → Prop}
/-- A struct is stored into a part of a row. -/
theorem wpl_store_part (hgd : o.guard = none) (t : TypeId) (x v : Operand) (ho : o.op = Op.store t x v) (cs : List Value) (hv : a.eval v = .agg cs.toArray) (g off : Nat) (hx : a.eval x = .pointer (some ⟨g, off, none⟩))
    (T : TypeId) (cur : List Value) (hg : Row w g T cur) (hl : off + cs.length ≤ cur.length) (hs : (P.info? t).map (·.size) = some cs.length) (h1 : ∀ v ∈ cs, v.oneCell' = true)
    (h : ∀ w', Row w' g T (splice cur off cs) → Only g w w' → wpList P ops Q rest (a.put o.dst undef) w') : wpList P ops Q (o :: rest) a w := by
  refine wpList_plain hgd fun K hK => ?_
  obtain ⟨i, hi, hsz⟩ := Option.map_eq_some_iff.1 hs
  have hst := run_storeCells_at P g off T cs 0 cur.toArray w hg (by simpa using hl) h1
  have e : ((cur.toArray.toList.take (off + 0) ++ cs ++ cur.toArray.toList.drop (off + 0 + cs.length)).toArray) = (splice cur off cs).toArray := by simp [splice]
  rw [e] at hst
  have hr : (Instr.storeAt t (.pointer (some ⟨g, off, none⟩)) (.agg cs.toArray)).run P w = .ok () (w.setRow g (splice cur off cs).toArray) := by
    simp [Instr.storeAt, Instr.sureAddr, storeVar, Value.cells, sizeOf, typeInfo, hi, hsz, hst]
  unfold Oper.wp
  simp only [execOp, ho, hx, hv, Sem.run_bind, Sem.run_pure, hr, Result.andThen_ok, Oper.upon]
  exact hK _ _ (h _ (hg.setRow _) (Only.setRow _ _ _))
end laws
end Go.Proofs.YtaemdppihpefnaaGreatDoor
