/- Laws of append for one element and for a row of elements, and of what stays. No program is in sight. -/
import Derived.Test.YtaemdppihpefnaaGreatDoorBlockKit
import Derived.Deep.AppendLies
import Derived.OwnWalk
namespace Go.Proofs.YtaemdppihpefnaaGreatDoor
open Go.RowKit
set_option linter.unusedVariables false

theorem But.grown {g : Nat} {a w w' : World} {row : Option Nat} (h : But g a w) (hg : w.grownBy w' row) (hr : ∀ k, row = some k → a.heap.size ≤ k) : But g a w' :=
  ⟨hg.os.trans h.os, hg.tape.trans h.tape, hg.output.trans h.output, Nat.le_trans h.size hg.size,
    fun k hk hne => (hg.block k (Nat.lt_of_lt_of_le hk h.size) (fun e => by have := hr k e.symm; omega)).trans (h.block k hk hne)⟩
theorem But.below' {g : Nat} {a w w' : World} (h : But g a w) (k : Below w.heap.size w w') : But g a w' := h.trans (But.of_below k)
theorem But.cellAt {g : Nat} {a w : World} (h : But g a w) {k j : Nat} (hk : k < a.heap.size) (hne : k ≠ g) : w.cell? ⟨k, j, none⟩ = a.cell? ⟨k, j, none⟩ :=
  World.cell?_of_block (h.block k hk hne)
theorem Row.grown {w w' : World} {g : Nat} {t : TypeId} {cur : List Value} {row : Option Nat} (h : Row w g t cur) (hg : w.grownBy w' row) (hne : some g ≠ row) : Row w' g t cur := by
  have hl := h.lt
  unfold Row at h ⊢
  rw [hg.block g hl hne]; exact h
/-- What is owned lies at or behind its base. -/
theorem own_ge {w : World} {B : Nat} {e : TypeId} {sz : Nat} {v : Value} {n : Nat} {xs : List Value} (h : w.ownsRow B e sz v n xs) : ∀ k, v.ownBlock = some k → B ≤ k := fun k hk => (h.lt k hk).1
theorem own_below {w w' : World} {B : Nat} {e : TypeId} {sz : Nat} {v : Value} {n : Nat} {xs : List Value} (h : w.ownsRow B e sz v n xs) (hb : Below w.heap.size w w') : w'.ownsRow B e sz v n xs :=
  h.kept (row := none) ⟨hb.os, hb.tape, hb.output, hb.size, fun k hk _ => hb.block k hk⟩ (by cases v.ownBlock <;> simp)

/-- Seven new rows. -/
theorem seven {w W : World} {a b c d e f g : Array Value} {T1 T2 T3 T4 T5 T6 T7 : TypeId}
    (h : ((((((w.alloc (.cells a T1)).alloc (.cells b T2)).alloc (.cells c T3)).alloc (.cells d T4)).alloc (.cells e T5)).alloc (.cells f T6)).alloc (.cells g T7) = W) :
    Row W w.heap.size T1 a.toList ∧ Row W (w.heap.size + 1) T2 b.toList ∧ Row W (w.heap.size + 1 + 1) T3 c.toList ∧ Row W (w.heap.size + 1 + 1 + 1) T4 d.toList ∧ Row W (w.heap.size + 1 + 1 + 1 + 1) T5 e.toList ∧
      Row W (w.heap.size + 1 + 1 + 1 + 1 + 1) T6 f.toList ∧ Row W (w.heap.size + 1 + 1 + 1 + 1 + 1 + 1) T7 g.toList ∧ W.heap.size = w.heap.size + 1 + 1 + 1 + 1 + 1 + 1 + 1 ∧ Below w.heap.size w W := by
  have st : ∀ (w : World) (o : Obj), Below w.heap.size w (w.alloc o) := fun w o => (Below.refl _ _).alloc (Nat.le_refl _) o
  have nw : ∀ (w : World) (cs : Array Value) (t : TypeId) (g : Nat), g = w.heap.size → Row (w.alloc (.cells cs t)) g t cs.toList := fun w cs t g hg => Row.new w cs t g hg
  have sz : ∀ (w : World) (o : Obj), (w.alloc o).heap.size = w.heap.size + 1 := fun w o => by simp
  obtain ⟨w1, h1⟩ : ∃ w1 : World, w1 = w.alloc (.cells a T1) := ⟨_, rfl⟩
  rw [← h1] at h
  obtain ⟨w2, h2⟩ : ∃ w2 : World, w2 = w1.alloc (.cells b T2) := ⟨_, rfl⟩
  rw [← h2] at h
  obtain ⟨w3, h3⟩ : ∃ w3 : World, w3 = w2.alloc (.cells c T3) := ⟨_, rfl⟩
  rw [← h3] at h
  obtain ⟨w4, h4⟩ : ∃ w4 : World, w4 = w3.alloc (.cells d T4) := ⟨_, rfl⟩
  rw [← h4] at h
  obtain ⟨w5, h5⟩ : ∃ w5 : World, w5 = w4.alloc (.cells e T5) := ⟨_, rfl⟩
  rw [← h5] at h
  obtain ⟨w6, h6⟩ : ∃ w6 : World, w6 = w5.alloc (.cells f T6) := ⟨_, rfl⟩
  rw [← h6] at h
  have z1 : w1.heap.size = w.heap.size + 1 := by rw [h1]; exact sz _ _
  have z2 : w2.heap.size = w.heap.size + 1 + 1 := by rw [h2, sz, z1]
  have z3 : w3.heap.size = w.heap.size + 1 + 1 + 1 := by rw [h3, sz, z2]
  have z4 : w4.heap.size = w.heap.size + 1 + 1 + 1 + 1 := by rw [h4, sz, z3]
  have z5 : w5.heap.size = w.heap.size + 1 + 1 + 1 + 1 + 1 := by rw [h5, sz, z4]
  have z6 : w6.heap.size = w.heap.size + 1 + 1 + 1 + 1 + 1 + 1 := by rw [h6, sz, z5]
  have z7 : W.heap.size = w.heap.size + 1 + 1 + 1 + 1 + 1 + 1 + 1 := by rw [← h, sz, z6]
  have b1 : Below w.heap.size w w1 := by rw [h1]; exact st _ _
  have b2 : Below w1.heap.size w1 w2 := by rw [h2]; exact st _ _
  have b3 : Below w2.heap.size w2 w3 := by rw [h3]; exact st _ _
  have b4 : Below w3.heap.size w3 w4 := by rw [h4]; exact st _ _
  have b5 : Below w4.heap.size w4 w5 := by rw [h5]; exact st _ _
  have b6 : Below w5.heap.size w5 w6 := by rw [h6]; exact st _ _
  have b7 : Below w6.heap.size w6 W := by rw [← h]; exact st _ _
  have r1 : Row w1 w.heap.size T1 a.toList := by rw [h1]; exact nw _ _ _ _ rfl
  have r2 : Row w2 (w.heap.size + 1) T2 b.toList := by rw [h2]; exact nw _ _ _ _ z1.symm
  have r3 : Row w3 (w.heap.size + 1 + 1) T3 c.toList := by rw [h3]; exact nw _ _ _ _ z2.symm
  have r4 : Row w4 (w.heap.size + 1 + 1 + 1) T4 d.toList := by rw [h4]; exact nw _ _ _ _ z3.symm
  have r5 : Row w5 (w.heap.size + 1 + 1 + 1 + 1) T5 e.toList := by rw [h5]; exact nw _ _ _ _ z4.symm
  have r6 : Row w6 (w.heap.size + 1 + 1 + 1 + 1 + 1) T6 f.toList := by rw [h6]; exact nw _ _ _ _ z5.symm
  have r7 : Row W (w.heap.size + 1 + 1 + 1 + 1 + 1 + 1) T7 g.toList := by rw [← h]; exact nw _ _ _ _ z6.symm
  exact ⟨(((((r1.below b2 r1.lt).below b3 (by omega)).below b4 (by omega)).below b5 (by omega)).below b6 (by omega)).below b7 (by omega),
    ((((r2.below b3 r2.lt).below b4 (by omega)).below b5 (by omega)).below b6 (by omega)).below b7 (by omega),
    (((r3.below b4 r3.lt).below b5 (by omega)).below b6 (by omega)).below b7 (by omega), ((r4.below b5 r4.lt).below b6 (by omega)).below b7 (by omega),
    (r5.below b6 r5.lt).below b7 (by omega), r6.below b7 r6.lt, r7, z7,
    (((((b1.trans (b2.mono b1.size)).trans (b3.mono (by omega))).trans (b4.mono (by omega))).trans (b5.mono (by omega))).trans (b6.mono (by omega))).trans (b7.mono (by omega))⟩

/-- Three new rows. -/
theorem three {w W : World} {a b c : Array Value} {T1 T2 T3 : TypeId} (h : ((w.alloc (.cells a T1)).alloc (.cells b T2)).alloc (.cells c T3) = W) :
    Row W w.heap.size T1 a.toList ∧ Row W (w.heap.size + 1) T2 b.toList ∧ Row W (w.heap.size + 1 + 1) T3 c.toList ∧ W.heap.size = w.heap.size + 1 + 1 + 1 ∧ Below w.heap.size w W := by
  have st : ∀ (w : World) (o : Obj), Below w.heap.size w (w.alloc o) := fun w o => (Below.refl _ _).alloc (Nat.le_refl _) o
  have sz : ∀ (w : World) (o : Obj), (w.alloc o).heap.size = w.heap.size + 1 := fun w o => by simp
  obtain ⟨w1, h1⟩ : ∃ w1 : World, w1 = w.alloc (.cells a T1) := ⟨_, rfl⟩
  rw [← h1] at h
  obtain ⟨w2, h2⟩ : ∃ w2 : World, w2 = w1.alloc (.cells b T2) := ⟨_, rfl⟩
  rw [← h2] at h
  have z1 : w1.heap.size = w.heap.size + 1 := by rw [h1]; exact sz _ _
  have z2 : w2.heap.size = w.heap.size + 1 + 1 := by rw [h2, sz, z1]
  have z3 : W.heap.size = w.heap.size + 1 + 1 + 1 := by rw [← h, sz, z2]
  have b1 : Below w.heap.size w w1 := by rw [h1]; exact st _ _
  have b2 : Below w1.heap.size w1 w2 := by rw [h2]; exact st _ _
  have b3 : Below w2.heap.size w2 W := by rw [← h]; exact st _ _
  have r1 : Row w1 w.heap.size T1 a.toList := by rw [h1]; exact Row.new w _ _ _ rfl
  have r2 : Row w2 (w.heap.size + 1) T2 b.toList := by rw [h2]; exact Row.new w1 _ _ _ z1.symm
  have r3 : Row W (w.heap.size + 1 + 1) T3 c.toList := by rw [← h]; exact Row.new w2 _ _ _ z2.symm
  exact ⟨(r1.below b2 r1.lt).below b3 (by omega), r2.below b3 r2.lt, r3, z3, (b1.trans (b2.mono b1.size)).trans (b3.mono (by omega))⟩

/-- Two new rows. -/
theorem two {w W : World} {a b : Array Value} {T1 T2 : TypeId} (h : (w.alloc (.cells a T1)).alloc (.cells b T2) = W) :
    Row W w.heap.size T1 a.toList ∧ Row W (w.heap.size + 1) T2 b.toList ∧ W.heap.size = w.heap.size + 1 + 1 ∧ Below w.heap.size w W := by
  have st : ∀ (w : World) (o : Obj), Below w.heap.size w (w.alloc o) := fun w o => (Below.refl _ _).alloc (Nat.le_refl _) o
  have sz : ∀ (w : World) (o : Obj), (w.alloc o).heap.size = w.heap.size + 1 := fun w o => by simp
  obtain ⟨w1, h1⟩ : ∃ w1 : World, w1 = w.alloc (.cells a T1) := ⟨_, rfl⟩
  rw [← h1] at h
  have z1 : w1.heap.size = w.heap.size + 1 := by rw [h1]; exact sz _ _
  have z3 : W.heap.size = w.heap.size + 1 + 1 := by rw [← h, sz, z1]
  have b1 : Below w.heap.size w w1 := by rw [h1]; exact st _ _
  have b3 : Below w1.heap.size w1 W := by rw [← h]; exact st _ _
  have r1 : Row w1 w.heap.size T1 a.toList := by rw [h1]; exact Row.new w _ _ _ rfl
  have r3 : Row W (w.heap.size + 1) T2 b.toList := by rw [← h]; exact Row.new w1 _ _ _ z1.symm
  exact ⟨r1.below b3 r1.lt, r3, z3, b1.trans (b3.mono b1.size)⟩

theorem cs8_snoc {ys : List Int} {u : Int} : cs8 ys ++ [Value.int .u8 u] = cs8 (ys ++ [u]) := by simp [cs8]
theorem own_of_row {w : World} {g : Nat} {e : TypeId} {cur : List Value} (h : Row w g e cur) (base n cap : Nat) (hb : base ≤ g) (hn : n ≤ cap) (hc : cur.length = cap) (hm : cap ≤ maxLen) : w.ownsRow base e 1 (.slice (some ⟨g, 0, none⟩) n cap) n (cur.take n) :=
  ⟨by rw [List.length_take]; omega, .inr ⟨g, cap, cur.toArray, rfl, hb, h, hn, hm, by simp [hc], by simp⟩⟩

theorem own_take {w : World} {B B' : Nat} {e : TypeId} {g n c : Nat} {zs : List Int} (h : w.ownsRow B e 1 (.slice (some ⟨g, 0, none⟩) n c) n (cs8 zs)) (m : Nat) (hm : m ≤ n) (hB : B' ≤ B) :
    w.ownsRow B' e 1 (.slice (some ⟨g, 0, none⟩) m c) m (cs8 (zs.take m)) := by
  have hl : zs.length = n := by have := h.1; simpa [cs8] using this
  rcases h.2 with ⟨h, _⟩ | ⟨g', cap, cur, h, hb, hg, hn, hx, hs, ht⟩
  · cases h
  · simp only [Value.slice.injEq, Option.some.injEq, Addr.mk.injEq, and_true, true_and] at h
    obtain ⟨rfl, rfl⟩ := h
    refine ⟨by simp [cs8]; omega, .inr ⟨g, c, cur, rfl, Nat.le_trans hB hb, hg, Nat.le_trans hm hn, hx, hs, ?_⟩⟩
    have : cs8 (zs.take m) = (cs8 zs).take m := by simp [cs8, List.map_take]
    rw [this, ← ht, List.take_take]
    congr 1; omega

theorem set8b {w : World} {g : Nat} {t : TypeId} {Y : List Int} (h : Row w g t (cs8 Y)) (k : Nat) (z : Int) : Row (w.setCell ⟨g, k, none⟩ (.int .u8 z)) g t (cs8 (Y.set k z)) := by
  have := h.set k (.int .u8 z)
  simpa [cs8, List.map_set] using this
theorem cs8_append (xs ys : List Int) : cs8 xs ++ cs8 ys = cs8 (xs ++ ys) := by simp [cs8]
theorem own_lower {w : World} {b b' : Nat} {e : TypeId} {v : Value} {n : Nat} {xs : List Value} (h : w.ownsRow b e 1 v n xs) (hb : b' ≤ b) : w.ownsRow b' e 1 v n xs := by
  obtain ⟨h1, h2⟩ := h
  refine ⟨h1, ?_⟩
  rcases h2 with h2 | ⟨g, cap, cur, hv, hg, r⟩
  · exact .inl h2
  · exact .inr ⟨g, cap, cur, hv, Nat.le_trans hb hg, r⟩
theorem own_full {w : World} {g : Nat} {e : TypeId} {Y : List Int} (h : Row w g e (cs8 Y)) (base n : Nat) (hb : base ≤ g) (hn : Y.length = n) (hm : n ≤ maxLen) : w.ownsRow base e 1 (.slice (some ⟨g, 0, none⟩) n n) n (cs8 Y) := by
  have := own_of_row h base n n hb (Nat.le_refl _) (by simp [cs8, hn]) hm
  rwa [List.take_of_length_le (by simp [cs8, hn])] at this

section laws
variable {P : Program} {w : World} {ops : Array Oper} {rest : List Oper} {o : Oper} {a : Act} {Q : Exit → Act → World → Prop}

/-- 'append(s, x)', x one element of one cell in a row of its own, s owned. -/
theorem wpl_append1 (hgd : o.guard = none) (s x : Operand) (t : TypeId)
    (ho : o.op = .call { callee := .builtin .append, args := #[s, x], argTypes := #[t, t] })
    (base : Nat) (e : TypeId) (z : Value) (bytes : Nat) (ht : P.underlying t = some (.slice e)) (hi : (P.info? e).map (fun i => (i.zero, i.size, i.bytes)) = some (some z, 1, bytes)) (hzs : z.cells.size = 1) (hby : bytes ≤ 16)
    (v : Value) (n : Nat) (xs : List Value) (hs : a.eval s = v) (hown : w.ownsRow base e 1 v n xs)
    (G c : Nat) (u : Value) (hx : a.eval x = .slice (some ⟨G, 0, none⟩) 1 c) (hu : w.cell? ⟨G, 0, none⟩ = some u) (h1 : u.oneCell' = true)
    (hn : n ≤ 1000000) (hbase : base ≤ w.heap.size)
    (h : ∀ g c' w', w'.ownsRow base e 1 (.slice (some ⟨g, 0, none⟩) (n + 1) c') (n + 1) (xs ++ [u]) → w.grownBy w' v.ownBlock → base ≤ g → g < w'.heap.size → wpList P ops Q rest (a.put o.dst (.slice (some ⟨g, 0, none⟩) (n + 1) c')) w') :
    wpList P ops Q (o :: rest) a w := by
  obtain ⟨i, hi1, hz, hs1, hb1⟩ := info_parts hi
  refine wpList_append_lies w hgd s x t ho base e i z 1 bytes ht hi1 hz hs1 hb1 hzs (by decide) v n xs hs hown ⟨G, 0, none⟩ 1 c [u] hx rfl ?_ ?_ (by decide) (by unfold maxLen; omega) ?_ hbase _ rfl ?_
  · intro j y hy
    cases j with
    | zero => simp at hy; subst hy; exact hu
    | succ j => simp at hy
  · intro y hy; simp at hy; subst hy; exact h1
  · have : (n + 1) * bytes ≤ 1000001 * 16 := Nat.mul_le_mul (by omega) hby
    omega
  · intro g c' w' ho2 hg hat hlt
    exact h g c' w' ho2 hg ((ho2.lt g rfl).1) hlt

/-- 'append(s, x..)', x some bytes, s owned. -/
theorem wpl_appendN (hgd : o.guard = none) (s x : Operand) (t : TypeId)
    (ho : o.op = .call { callee := .builtin .append, args := #[s, x], argTypes := #[t, t] })
    (base : Nat) (e : TypeId) (ht : P.underlying t = some (.slice e)) (hi : (P.info? e).map (fun i => (i.zero, i.size, i.bytes)) = some (some (.int .u8 0), 1, 1))
    (v : Value) (n : Nat) (xs : List Value) (hs : a.eval s = v) (hown : w.ownsRow base e 1 v n xs)
    (p : Option Addr) (m c : Nat) (ys : List Int) (hx : a.eval x = .slice p m c) (hb : Bs w (.slice p m c) ys) (hm : 0 < m)
    (hn : n + m ≤ 1000000) (hbase : base ≤ w.heap.size)
    (h : ∀ g c' w', w'.ownsRow base e 1 (.slice (some ⟨g, 0, none⟩) (n + m) c') (n + m) (xs ++ cs8 ys) → w.grownBy w' v.ownBlock → base ≤ g → g < w'.heap.size → wpList P ops Q rest (a.put o.dst (.slice (some ⟨g, 0, none⟩) (n + m) c')) w') :
    wpList P ops Q (o :: rest) a w := by
  obtain ⟨i, hi1, hz, hs1, hb1⟩ := info_parts hi
  obtain ⟨b, of, rfl, _⟩ := hb.at hm
  obtain ⟨hmy, hcells⟩ := hb.cells
  refine wpList_append_lies w hgd s x t ho base e i _ 1 1 ht hi1 hz hs1 hb1 rfl (by decide) v n xs hs hown ⟨b, of, none⟩ m c (cs8 ys) hx (by simp [cs8, hmy]) hcells (one_cs8 ys) hm (by unfold maxLen; omega) (by omega) hbase _ rfl ?_
  intro g c' w' ho2 hg hat hlt
  exact h g c' w' ho2 hg ((ho2.lt g rfl).1) hlt

theorem run_makeN (P : Program) (t e : TypeId) (z : Value) (bytes : Nat) (ht : P.underlying t = some (.slice e)) (hi : (P.info? e).map (fun i => (i.zero, i.size, i.bytes)) = some (some z, 1, bytes)) (hzc : z.cells = #[z]) (n : Nat) (hb2 : bytes * n ≤ 281474976710656) (h63 : n ≤ maxLen) (w : World) :
    (Instr.makeSlice t (.int .i64 n) (.int .i64 n)).run P w = .ok (.slice (some ⟨w.heap.size, 0, none⟩) n n) (w.alloc (.cells (List.replicate n z).toArray e)) := by
  obtain ⟨i, hi1, hz, hs, hby⟩ := info_parts hi
  subst hby
  have h63' : (n : Int) ≤ 9223372036854775807 := by
    have h := h63
    simp [maxLen] at h
    omega
  have hb' : (i.bytes : Int) * (n : Int) ≤ 281474976710656 := by
    have h : ((i.bytes * n : Nat) : Int) ≤ 281474976710656 := by omega
    rwa [Int.natCast_mul] at h
  have hr := run_make (P := P) w t e i z ht hi1 hz .i64 .i64 n n (by omega) (Int.le_refl _) hb' h63'
  rw [hs, Nat.mul_one, Int.toNat_natCast, made_one z hzc n] at hr
  exact hr

/-- 'append(s, x..)', x bytes, nil or none or some; s owned, not empty. -/
theorem run_appendB (t ty : TypeId) (base : Nat) (e : TypeId) (ht : P.underlying t = some (.slice e)) (hi : (P.info? e).map (fun i => (i.zero, i.size, i.bytes)) = some (some (.int .u8 0), 1, 1))
    (v : Value) (n : Nat) (xs : List Value) (hown : w.ownsRow base e 1 v n xs) (hn0 : 0 < n)
    (vb : Value) (ys : List Int) (hb : Bs w vb ys) (hn : n + ys.length ≤ 1000000) (hbase : base ≤ w.heap.size) :
    ∃ g c' w', (Builtin.append_ #[t, t] ty #[v, vb]).run P w = .ok (.slice (some ⟨g, 0, none⟩) (n + ys.length) c') w' ∧
      w'.ownsRow base e 1 (.slice (some ⟨g, 0, none⟩) (n + ys.length) c') (n + ys.length) (xs ++ cs8 ys) ∧ w.grownBy w' v.ownBlock ∧ base ≤ g ∧ g < w'.heap.size := by
  obtain ⟨i, hi1, hz, hs1, hb1⟩ := info_parts hi
  obtain ⟨p, c, rfl, hc, hnn, hx⟩ := id hb
  cases p with
  | none =>
    have hc0 : c = 0 := hnn rfl
    subst hc0
    have hz : ys = [] := List.eq_nil_of_length_eq_zero (by omega)
    subst hz
    obtain ⟨g, cap, rfl, hbg, hlt⟩ := hown.form hn0
    have hr := run_append_owned_none (P := P) w base t ty e i 1 ht hi1 _ n xs hown
    refine ⟨g, cap, w, hr, by simpa [cs8] using hown, ⟨rfl, rfl, rfl, Nat.le_refl _, fun _ _ _ => rfl⟩, hbg, hlt⟩
  | some ad =>
    obtain ⟨hmy, hcells⟩ := hb.cells
    obtain ⟨v', w', hr, h2, h3, -⟩ := run_append_own (P := P) w base t ty e i _ 1 1 ht hi1 hz hs1 hb1 rfl (by decide) v n xs hown ad ys.length c (cs8 ys) (by simp [cs8]) hcells (one_cs8 ys) (by unfold maxLen; omega) (by omega) hbase
    obtain ⟨g, cap, rfl, hbg, hlt⟩ := h2.form (by omega)
    exact ⟨g, cap, w', hr, h2, h3, hbg, hlt⟩

theorem step_appendB {K : Act → World → Prop} {E : Prop} (hgd : o.guard = none) (s x : Operand) (t : TypeId)
    (ho : o.op = .call { callee := .builtin .append, args := #[s, x], argTypes := #[t, t] })
    (base : Nat) (e : TypeId) (ht : P.underlying t = some (.slice e)) (hi : (P.info? e).map (fun i => (i.zero, i.size, i.bytes)) = some (some (.int .u8 0), 1, 1))
    (v : Value) (n : Nat) (xs : List Value) (hs : a.eval s = v) (hown : w.ownsRow base e 1 v n xs) (hn0 : 0 < n)
    (vb : Value) (ys : List Int) (hx : a.eval x = vb) (hb : Bs w vb ys) (hn : n + ys.length ≤ 1000000) (hbase : base ≤ w.heap.size)
    (h : ∀ g c' w', w'.ownsRow base e 1 (.slice (some ⟨g, 0, none⟩) (n + ys.length) c') (n + ys.length) (xs ++ cs8 ys) → w.grownBy w' v.ownBlock → base ≤ g → g < w'.heap.size → K (a.put o.dst (.slice (some ⟨g, 0, none⟩) (n + ys.length) c')) w') :
    if Region.wanted o (yielded ops a.tmps) = true then Oper.wp P o a w K Q else E := by
  have hw : Region.wanted o (yielded ops a.tmps) = true := by simp [Region.wanted, hgd]
  rw [if_pos hw]
  obtain ⟨g, c', w', hr, h2, h3, h4, h5⟩ := run_appendB (P := P) t o.type base e ht hi v n xs hown hn0 vb ys hb hn hbase
  unfold Oper.wp execOp
  simp only [ho, resolve, invoke, builtin, Sem.run_bind, Sem.run_pure, Result.andThen_ok, List.map_toArray, List.map_cons, List.map_nil, hs, hx, hr]
  exact h g c' w' h2 h3 h4 h5

/-- 'append(s, x..)', x bytes, nil or none or some; s owned, or nil. -/
theorem run_appendG (t ty : TypeId) (base : Nat) (e : TypeId) (ht : P.underlying t = some (.slice e)) (hi : (P.info? e).map (fun i => (i.zero, i.size, i.bytes)) = some (some (.int .u8 0), 1, 1))
    (v : Value) (n : Nat) (xs : List Value) (hown : w.ownsRow base e 1 v n xs)
    (vb : Value) (ys : List Int) (hb : Bs w vb ys) (hn : n + ys.length ≤ 100000000) (hbase : base ≤ w.heap.size) :
    ∃ v' w', (Builtin.append_ #[t, t] ty #[v, vb]).run P w = .ok v' w' ∧ w'.ownsRow base e 1 v' (n + ys.length) (xs ++ cs8 ys) ∧ w.grownBy w' v.ownBlock := by
  obtain ⟨i, hi1, hz, hs1, hb1⟩ := info_parts hi
  obtain ⟨p, c, rfl, hc, hnn, hx⟩ := id hb
  cases p with
  | none =>
    have hc0 : c = 0 := hnn rfl
    subst hc0
    have hz : ys = [] := List.eq_nil_of_length_eq_zero (by omega)
    subst hz
    have hr := run_append_owned_none (P := P) w base t ty e i 1 ht hi1 _ n xs hown
    exact ⟨v, w, hr, by simpa [cs8] using hown, ⟨rfl, rfl, rfl, Nat.le_refl _, fun _ _ _ => rfl⟩⟩
  | some ad =>
    obtain ⟨hmy, hcells⟩ := hb.cells
    obtain ⟨v', w', hr, h2, h3, -⟩ := run_append_own (P := P) w base t ty e i _ 1 1 ht hi1 hz hs1 hb1 rfl (by decide) v n xs hown ad ys.length c (cs8 ys) (by simp [cs8]) hcells (one_cs8 ys) (by unfold maxLen; omega) (by omega) hbase
    exact ⟨v', w', hr, h2, h3⟩
theorem own_slice {base : Nat} {e : TypeId} {v : Value} {n : Nat} {xs : List Value} (h : w.ownsRow base e 1 v n xs) : ∃ a c, v = .slice a n c := by
  rcases h.2 with ⟨rfl, rfl⟩ | ⟨g, c, cur, rfl, _⟩
  · exact ⟨_, _, rfl⟩
  · exact ⟨_, _, rfl⟩
end laws
end Go.Proofs.YtaemdppihpefnaaGreatDoor
