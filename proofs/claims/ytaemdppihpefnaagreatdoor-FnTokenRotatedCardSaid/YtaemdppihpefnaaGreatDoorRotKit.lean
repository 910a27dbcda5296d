/- FnTokenRotated's state: its steps, the keys here, its tokens, their owners. -/
import Derived.Test.YtaemdppihpefnaaGreatDoorKeyKitC
import Derived.Test.YtaemdppihpefnaaGreatDoorTokKit
import Derived.Deep.RegionLaw
import Derived.Deep.RegionHeld3
import Derived.Deep.QuietTactic
import Derived.BigQuiet
import Derived.Deep.Cut
import Derived.Deep.CutRange
import Derived.Deep.CutBlock
import Derived.Deep.MidRow
import Derived.Test.YtaemdppihpefnaaGreatDoorSlKit
import Derived.Test.YtaemdppihpefnaaGreatDoorJsB
import Derived.Test.YtaemdppihpefnaaGreatDoorFits
import Derived.Deep.Slices
namespace Go.Proofs.YtaemdppihpefnaaGreatDoor
open Go.RowKit
set_option linter.unusedVariables false

/-- A slice's row stays, or is new. -/
theorem own_step {P : Program} {w w' : World} {base : Nat} {t e : TypeId} {i : TypeInfo} {z : Value} {size bytes : Nat} (ht : P.underlying t = some (.slice e)) (hi : P.info? e = some i) (hz : i.zero = some z) (hsize : i.size = size) (hby : i.bytes = bytes) (hbl : bytes ≤ 1000)
    {v v' : Value} {n : Nat} {xs : List Value} (hown : w.ownsRow base e size v n xs) (hn : n ≤ 1000) {a : Addr} {c : Nat} {news : List Value} (hl : news.length = 1 * size) (hnews : ∀ j u, news[j]? = some u → w.cell? (a.add j) = some u) (h1 : ∀ u ∈ news, u.oneCell' = true)
    (hr : ∀ ty, (Builtin.append_ #[t, t] ty #[v, .slice (some a) 1 c]).run P w = .ok v' w') : v'.ownBlock = v.ownBlock ∨ v'.ownBlock = some w.heap.size := by
  subst hsize hby
  have hmul : (n + 1) * i.bytes ≤ 1001 * 1000 := Nat.mul_le_mul (by omega) hbl
  rcases hown.2 with ⟨rfl, rfl⟩ | ⟨g, cap, cur, rfl, hbg, hg, hnc, hcm, hcs, htake⟩
  · have h := run_append_nil (P := P) w t 0 e i z ht hi hz a 1 c news hl hnews (by omega) (by omega) (by omega)
    rw [hr 0] at h
    simp only [Result.ok.injEq] at h
    exact .inr (by rw [h.1]; rfl)
  · by_cases hroom : n + 1 ≤ cap
    · have hfit : n * i.size + news.length ≤ cur.size := by rw [hl, hcs, ← Nat.add_mul]; exact Nat.mul_le_mul_right _ hroom
      have h := run_append_room (P := P) w t 0 e i ht hi g n cap cur hg a 1 c news hl hnews h1 hroom hfit
      rw [hr 0] at h
      simp only [Result.ok.injEq] at h
      exact .inl (by rw [h.1]; rfl)
    · have h := run_append_grow (P := P) w t 0 e i z ht hi hz ⟨g, 0, none⟩ n cap xs hown.1 (hown.cells (g := g) rfl) a 1 c news hl hnews (by omega) (by omega) (growslice_fits (by omega) (by omega))
      rw [hr 0] at h
      simp only [Result.ok.injEq] at h
      exact .inr (by rw [h.1]; rfl)

/-- append of one more, with where the row lies. -/
theorem run_one {P : Program} (w : World) (base : Nat) (t e : TypeId) (z : Value) (size bytes : Nat) (ht : P.underlying t = some (.slice e)) (hi : (P.info? e).map (fun i => (i.zero, i.size, i.bytes)) = some (some z, size, bytes)) (hzs : z.cells.size = size) (hsz : 0 < size) (hbl : bytes ≤ 1000)
    (v : Value) (n : Nat) (xs : List Value) (hown : w.ownsRow base e size v n xs) (hn : n ≤ 1000) (a : Addr) (c : Nat) (news : List Value) (hl : news.length = size) (hnews : ∀ j u, news[j]? = some u → w.cell? (a.add j) = some u) (h1 : ∀ u ∈ news, u.oneCell' = true) (hbase : base ≤ w.heap.size) :
    ∃ v' w', (∀ ty, (Builtin.append_ #[t, t] ty #[v, .slice (some a) 1 c]).run P w = .ok v' w') ∧ w'.ownsRow base e size v' (n + 1) (xs ++ news) ∧ w.grownBy w' v.ownBlock ∧ (v'.ownBlock = v.ownBlock ∨ v'.ownBlock = some w.heap.size) ∧ ∃ g c', v' = .slice (some ⟨g, 0, none⟩) (n + 1) c' := by
  obtain ⟨i, hi1, hz, hs1, hb1⟩ := info_parts hi
  have hmul : (n + 1) * bytes ≤ 1001 * 1000 := Nat.mul_le_mul (by omega) hbl
  obtain ⟨v', w', hr, ho, hg, -⟩ := run_append_own (P := P) w base t t e i z size bytes ht hi1 hz hs1 hb1 hzs hsz v n xs hown a 1 c news (by rw [hl, Nat.one_mul]) hnews h1 (by unfold maxLen; omega) (by omega) hbase
  have hr' : ∀ ty, (Builtin.append_ #[t, t] ty #[v, .slice (some a) 1 c]).run P w = .ok v' w' := fun ty => hr
  refine ⟨v', w', hr', ho, hg, own_step ht hi1 hz hs1 hb1 hbl hown hn (by rw [hl, Nat.one_mul]) hnews h1 hr', ?_⟩
  rcases ho.2 with ⟨_, h⟩ | ⟨g, cap, cur, h, _⟩
  · omega
  · exact ⟨g, cap, h⟩

section
variable {P : Program} {w : World} {ops : Array Oper} {o : Oper} {a : Act} {Q : Exit → Act → World → Prop}
/-- A step of a region that appends one byte. -/
theorem step_app8 {K : Act → World → Prop} {E : Prop} (hgd : o.guard = none) (s x : Operand) (t : TypeId)
    (ho : o.op = .call { callee := .builtin .append, args := #[s, x], argTypes := #[t, t] })
    (base : Nat) (e : TypeId) (ht : P.underlying t = some (.slice e)) (hi : (P.info? e).map (fun i => (i.zero, i.size, i.bytes)) = some (some (.int .u8 0), 1, 1))
    (v : Value) (n : Nat) (xs : List Value) (hs : a.eval s = v) (hown : w.ownsRow base e 1 v n xs)
    (b : Nat) (k : Int) (hx : a.eval x = .slice (some ⟨b, 0, none⟩) 1 1) (hb : w.cell? ⟨b, 0, none⟩ = some (.int .u8 k)) (hn : n ≤ 1000) (hbase : base ≤ w.heap.size)
    (h : ∀ v' w', w'.ownsRow base e 1 v' (n + 1) (xs ++ [.int .u8 k]) → w.grownBy w' v.ownBlock → K (a.put o.dst v') w') :
    if Region.wanted o (yielded ops a.tmps) = true then Oper.wp P o a w K Q else E := by
  obtain ⟨v', w', hr, h2, h3, -, -⟩ := run_one (P := P) w base t e (.int .u8 0) 1 1 ht hi rfl (by decide) (by decide) v n xs hown hn ⟨b, 0, none⟩ 1 [.int .u8 k] rfl (fun j u hj => by
    cases j with
    | zero => rw [Go.WideShapes.add_plain]; simpa using hb.trans (by simpa using hj)
    | succ j => simp at hj) (by intro u hu; simp at hu; subst hu; rfl) hbase
  exact step_appendR hgd s x t ho v _ hs hx v' w' (hr _) (h v' w' h2 h3)
end

theorem bs45 (k q : Int) (s : ByteArray) (wx : World) : (Instr.buildSlice 40 1 #[(0, .agg #[.int .i64 k, .int .i64 q, .int .i64 0, .string s, .string (⟨#[]⟩ : ByteArray)])]).run Tryz.prog wx = .ok (.slice (some ⟨wx.heap.size, 0, none⟩) 1 1) (wx.alloc (.cells #[.int .i64 k, .int .i64 q, .int .i64 0, .string s, .string (⟨#[]⟩ : ByteArray)] 45)) := by kernel_rfl
section
variable {P : Program} {w : World} {ops : Array Oper} {rest : List Oper} {o : Oper} {a : Act} {Q : Exit → Act → World → Prop}
/-- A slice of one that is written out, its making known. -/
theorem wpl_bs1 (hgd : o.guard = none) (t : TypeId) (x : Operand) (ho : o.op = Op.buildSlice t 1 #[(0, x)]) (v0 : Value) (hx : a.eval x = v0) (v : Value) (w' : World) (hr : (Instr.buildSlice t 1 #[(0, v0)]).run P w = .ok v w') (h : wpList P ops Q rest (a.put o.dst v) w') : wpList P ops Q (o :: rest) a w := by
  subst hx
  refine wpList_plain hgd fun K hK => ?_
  unfold Oper.wp
  have he : (execOp a.eval o).run P w = .ok (.value v) w' := by
    simp only [execOp, ho, List.map_toArray, List.map_cons, List.map_nil, Sem.run_bind, hr, Result.andThen_ok, Sem.run_pure]
  rw [he]
  exact hK _ _ h
end

theorem below_undrew {B : Nat} {w w' : World} (h : Below B w.drew w') : Below B w w' := ⟨h.os, h.tape, h.output, h.size, h.block⟩

/-- A step's cells. -/
def stC : List (Nat × Nat) → List Value
  | [] => []
  | x :: l => [.int .i64 (x.1 : Int), .int .i64 (x.2 : Int), .int .i64 0, .string (⟨#[]⟩ : ByteArray), .string (⟨#[]⟩ : ByteArray)] ++ stC l
def st5 (x : Nat × Nat) : List Value := [.int .i64 (x.1 : Int), .int .i64 (x.2 : Int), .int .i64 0, .string (⟨#[]⟩ : ByteArray), .string (⟨#[]⟩ : ByteArray)]
theorem stC_snoc : ∀ (l : List (Nat × Nat)) (x : Nat × Nat), stC (l ++ [x]) = stC l ++ st5 x
  | [], x => rfl
  | y :: l, x => by simp only [List.cons_append, stC, stC_snoc l x, List.append_assoc]
theorem stC_one : ∀ (l : List (Nat × Nat)), ∀ u ∈ stC l, u.oneCell' = true
  | [], u, h => by cases h
  | x :: l, u, h => by
    simp only [stC, List.mem_append, List.mem_cons, List.not_mem_nil, or_false] at h
    rcases h with (rfl | rfl | rfl | rfl | rfl) | h
    · rfl
    · rfl
    · rfl
    · rfl
    · rfl
    · exact stC_one l u h

/-- A token's header, and the token. -/
def hdK (a q : Nat) : List Nat := toN (headKB (nmI a) (idL q))
def tokX (Hs : Nat → HK) (x : Nat × Nat × Nat) : List Int := tokG (Hs x.1) (hdK x.1 x.2.2) [x.2.1, x.2.2] (octL x.2.2)

/-- A value that lies in none of three rows. -/
def Apart (vs vt vo v : Value) : Prop := ∀ r, v.ownBlock = some r → vs.ownBlock ≠ some r ∧ vt.ownBlock ≠ some r ∧ vo.ownBlock ≠ some r

theorem off_of {r : Nat} {v : Value} (h : v.ownBlock ≠ some r) : Off r v := fun a n c hv _ e => h (by rw [hv]; exact congrArg some e)
theorem Bs.grown {w w' : World} {v : Value} {xs : List Int} {row : Option Nat} (h : Bs w v xs) (hg : w.grownBy w' row) (hr : ∀ r, row = some r → v.ownBlock ≠ some r) : Bs w' v xs := by
  cases row with
  | none => exact h.below ⟨hg.os, hg.tape, hg.output, hg.size, fun k hk => hg.block k hk (by simp)⟩
  | some r => exact h.but (off_of (hr r rfl)) ⟨hg.os, hg.tape, hg.output, hg.size, fun k hk hne => hg.block k hk (by simpa using hne)⟩
theorem Bs.inOld {w : World} {v : Value} {xs : List Int} (h : Bs w v xs) {r : Nat} (hr : v.ownBlock = some r) (h0 : 0 < xs.length) : r < w.heap.size := by
  obtain ⟨p, c, rfl, _, _, hx⟩ := h
  obtain ⟨b, o, rfl, hc⟩ := hx h0
  cases hr
  exact World.block_lt_of_cell? w _ (hc 0 h0)

/-- The state. -/
structure LG (wb : World) (Hs : Nat → HK) (st : List (Nat × Nat)) (he : List Nat) (tk : List (Nat × Nat × Nat)) (vs vh vt vo : Value) (wr : World) : Prop where
  bel : Below wb.heap.size wb wr
  steps : wr.ownsRow wb.heap.size 45 5 vs st.length (stC st)
  here : Bs wr vh (bi he)
  hereA : Apart vs vt vo vh
  toks : ∃ xs, wr.ownsRow wb.heap.size 22 1 vt tk.length xs ∧ ∀ j (h : j < tk.length), ∃ tv, xs[j]? = some tv ∧ Bs wr tv (tokX Hs tk[j]) ∧ Apart vs vt vo tv ∧ tv.oneCell' = true ∧ ∀ r, tv.ownBlock = some r → r < wr.heap.size
  own : wr.ownsRow wb.heap.size 5 1 vo tk.length (cs8 (bi (tk.map (fun x => x.2.2))))
  hereL : ∀ r, vh.ownBlock = some r → r < wr.heap.size

theorem LG.below {wb wr w' : World} {Hs : Nat → HK} {st : List (Nat × Nat)} {he : List Nat} {tk : List (Nat × Nat × Nat)} {vs vh vt vo : Value} (h : LG wb Hs st he tk vs vh vt vo wr) (hb : Below wr.heap.size wr w') : LG wb Hs st he tk vs vh vt vo w' where
  bel := h.bel.trans (hb.mono h.bel.size)
  steps := own_below h.steps hb
  here := h.here.below hb
  hereA := h.hereA
  toks := by
    obtain ⟨xs, h1, h2⟩ := h.toks
    refine ⟨xs, own_below h1 hb, fun j hj => ?_⟩
    obtain ⟨tv, a, b, c, d, e⟩ := h2 j hj
    exact ⟨tv, a, b.below hb, c, d, fun r hr => Nat.lt_of_lt_of_le (e r hr) hb.size⟩
  own := own_below h.own hb
  hereL := fun r hr => Nat.lt_of_lt_of_le (h.hereL r hr) hb.size

theorem own_grown {w w' : World} {B : Nat} {T T' : TypeId} {sz sz' : Nat} {v u : Value} {n m : Nat} {xs ys : List Value} (h : w.ownsRow B T sz v n xs) (hu : w.ownsRow B T' sz' u m ys) (hT : T ≠ T') (hg : w.grownBy w' u.ownBlock) : w'.ownsRow B T sz v n xs :=
  own_same h (fun r hr => by
    obtain ⟨h1, h2, cs, h3⟩ := own_row h hr
    exact hg.block r h2 (fun e => by
      obtain ⟨_, _, cs', h3'⟩ := own_row hu e.symm
      exact hT (h3.type h3')))
theorem below_grown {wb w w' : World} {B sz n : Nat} {T : TypeId} {u : Value} {ys : List Value} (h : Below wb.heap.size wb w) (hu : w.ownsRow wb.heap.size T sz u n ys) (hg : w.grownBy w' u.ownBlock) : Below wb.heap.size wb w' :=
  h.grown hg h.size (fun r hr => (own_row hu hr).1)

/-- A step more. -/
theorem LG.setSteps {wb wr w6 : World} {Hs : Nat → HK} {st : List (Nat × Nat)} {he : List Nat} {tk : List (Nat × Nat × Nat)} {vs vs' vh vt vo : Value} {x : Nat × Nat} (h : LG wb Hs st he tk vs vh vt vo wr)
    (ho : w6.ownsRow wb.heap.size 45 5 vs' (st.length + 1) (stC st ++ st5 x)) (hg : wr.grownBy w6 vs.ownBlock) (hv : vs'.ownBlock = vs.ownBlock ∨ vs'.ownBlock = some wr.heap.size) : LG wb Hs (st ++ [x]) he tk vs' vh vt vo w6 := by
  have ap : ∀ v, Apart vs vt vo v → (∀ r, v.ownBlock = some r → r < wr.heap.size) → Apart vs' vt vo v := fun v ha hl r hr => by
    obtain ⟨a, b, c⟩ := ha r hr
    refine ⟨fun e => ?_, b, c⟩
    rcases hv with hv | hv
    · exact a (hv ▸ e)
    · rw [hv] at e; cases e; exact absurd (hl _ hr) (Nat.lt_irrefl _)
  refine ⟨below_grown (B := 0) h.bel h.steps hg, ?_, h.here.grown hg (fun r hr e => (h.hereA r e).1 hr), ap _ h.hereA h.hereL, ?_, own_grown h.own h.steps (by decide) hg, fun r hr => Nat.lt_of_lt_of_le (h.hereL r hr) hg.size⟩
  · rw [stC_snoc]; simpa using ho
  · obtain ⟨xs, h1, h2⟩ := h.toks
    refine ⟨xs, own_grown h1 h.steps (by decide) hg, fun j hj => ?_⟩
    obtain ⟨tv, a, b, c, d, e⟩ := h2 j hj
    exact ⟨tv, a, b.grown hg (fun r hr e => (c r e).1 hr), ap tv c e, d, fun r hr => Nat.lt_of_lt_of_le (e r hr) hg.size⟩
/-- Other keys here. -/
theorem LG.setHere {wb wr : World} {Hs : Nat → HK} {st : List (Nat × Nat)} {he he' : List Nat} {tk : List (Nat × Nat × Nat)} {vs vh vh' vt vo : Value} (h : LG wb Hs st he tk vs vh vt vo wr) (hb : Bs wr vh' (bi he')) (ha : Apart vs vt vo vh') (hl : ∀ r, vh'.ownBlock = some r → r < wr.heap.size) : LG wb Hs st he' tk vs vh' vt vo wr :=
  ⟨h.bel, h.steps, hb, ha, h.toks, h.own, hl⟩
theorem LG.rowsOld {wb wr : World} {Hs : Nat → HK} {st : List (Nat × Nat)} {he : List Nat} {tk : List (Nat × Nat × Nat)} {vs vh vt vo : Value} (h : LG wb Hs st he tk vs vh vt vo wr) {r : Nat} (hr : wr.heap.size ≤ r) : vs.ownBlock ≠ some r ∧ vt.ownBlock ≠ some r ∧ vo.ownBlock ≠ some r := by
  obtain ⟨xs, h1, _⟩ := h.toks
  exact ⟨fun e => by have := (own_row h.steps e).2.1; omega, fun e => by have := (own_row h1 e).2.1; omega, fun e => by have := (own_row h.own e).2.1; omega⟩
/-- Other keys here, in memory that was not there. -/
theorem LG.newHere {wb wr w6 : World} {Hs : Nat → HK} {st : List (Nat × Nat)} {he he' : List Nat} {tk : List (Nat × Nat × Nat)} {vs vh v' vt vo : Value} (h : LG wb Hs st he tk vs vh vt vo wr) (hb : Below wr.heap.size wr w6) (hx : Bs w6 v' (bi he')) (hf : ∀ r, v'.ownBlock = some r → wr.heap.size ≤ r ∧ r < w6.heap.size) : LG wb Hs st he' tk vs v' vt vo w6 :=
  (h.below hb).setHere hx (fun r hr => h.rowsOld (hf r hr).1) (fun r hr => (hf r hr).2)
theorem LG.ownHere {wb wr w6 : World} {Hs : Nat → HK} {st : List (Nat × Nat)} {he : List Nat} {tk : List (Nat × Nat × Nat)} {vs vh v' vt vo : Value} {q m : Nat} (h : LG wb Hs st he tk vs vh vt vo wr) (hb : Below wr.heap.size wr w6) (ho : w6.ownsRow wr.heap.size 5 1 v' m (cs8 (bi he) ++ [.int .u8 (q : Int)])) : LG wb Hs st (he ++ [q]) tk vs v' vt vo w6 := by
  have e : cs8 (bi he) ++ [.int .u8 (q : Int)] = cs8 (bi (he ++ [q])) := by simp [cs8, bi]
  rw [e] at ho
  exact h.newHere hb (Bs.own ho) (fun r hr => by obtain ⟨a, b, _⟩ := own_row ho hr; exact ⟨a, b⟩)

/-- A token more. -/
theorem LG.setTok {wb wr w6 : World} {Hs : Nat → HK} {st : List (Nat × Nat)} {he : List Nat} {tk : List (Nat × Nat × Nat)} {vs vh vt vt' vo tv : Value} {x : Nat × Nat × Nat} {xs : List Value} (h : LG wb Hs st he tk vs vh vt vo wr)
    (h1 : wr.ownsRow wb.heap.size 22 1 vt tk.length xs) (h2 : ∀ j (h : j < tk.length), ∃ tv, xs[j]? = some tv ∧ Bs wr tv (tokX Hs tk[j]) ∧ Apart vs vt vo tv ∧ tv.oneCell' = true ∧ ∀ r, tv.ownBlock = some r → r < wr.heap.size)
    (ho : w6.ownsRow wb.heap.size 22 1 vt' (tk.length + 1) (xs ++ [tv])) (hg : wr.grownBy w6 vt.ownBlock) (hv : vt'.ownBlock = vt.ownBlock ∨ vt'.ownBlock = some wr.heap.size) (hx : Bs wr tv (tokX Hs x)) (hxa : Apart vs vt vo tv) (hx1 : tv.oneCell' = true) (hxl : ∀ r, tv.ownBlock = some r → r < wr.heap.size) :
    Below wb.heap.size wb w6 ∧ w6.ownsRow wb.heap.size 45 5 vs st.length (stC st) ∧ Bs w6 vh (bi he) ∧ Apart vs vt' vo vh ∧ (∃ ys, w6.ownsRow wb.heap.size 22 1 vt' (tk ++ [x]).length ys ∧ ∀ j (h : j < (tk ++ [x]).length), ∃ tv, ys[j]? = some tv ∧ Bs w6 tv (tokX Hs (tk ++ [x])[j]) ∧ Apart vs vt' vo tv ∧ tv.oneCell' = true ∧ ∀ r, tv.ownBlock = some r → r < w6.heap.size) ∧ w6.ownsRow wb.heap.size 5 1 vo tk.length (cs8 (bi (tk.map (fun x => x.2.2)))) ∧ (∀ r, vh.ownBlock = some r → r < w6.heap.size) := by
  have ap : ∀ v, Apart vs vt vo v → (∀ r, v.ownBlock = some r → r < wr.heap.size) → Apart vs vt' vo v := fun v ha hl r hr => by
    obtain ⟨a, b, c⟩ := ha r hr
    refine ⟨a, fun e => ?_, c⟩
    rcases hv with hv | hv
    · exact b (hv ▸ e)
    · rw [hv] at e; cases e; exact absurd (hl _ hr) (Nat.lt_irrefl _)
  refine ⟨below_grown (B := 0) h.bel h1 hg, own_grown h.steps h1 (by decide) hg, h.here.grown hg (fun r hr e => (h.hereA r e).2.1 hr), ap _ h.hereA h.hereL, ⟨xs ++ [tv], by simpa using ho, fun j hj => ?_⟩, own_grown h.own h1 (by decide) hg, fun r hr => Nat.lt_of_lt_of_le (h.hereL r hr) hg.size⟩
  have hxs : xs.length = tk.length := by simpa using h1.1
  by_cases hjk : j < tk.length
  · obtain ⟨tv, a, b, c, d, e⟩ := h2 j hjk
    refine ⟨tv, by rw [List.getElem?_append_left (by omega)]; exact a, ?_, ap tv c e, d, fun r hr => Nat.lt_of_lt_of_le (e r hr) hg.size⟩
    rw [List.getElem_append_left hjk]
    exact b.grown hg (fun r hr e => (c r e).2.1 hr)
  · have hjl : j = tk.length := by simp at hj; omega
    subst hjl
    refine ⟨tv, by rw [List.getElem?_append_right (by omega), hxs]; simp, ?_, ap tv hxa hxl, hx1, fun r hr => Nat.lt_of_lt_of_le (hxl r hr) hg.size⟩
    rw [List.getElem_append_right (Nat.le_refl _)]
    simp only [Nat.sub_self, List.getElem_cons_zero]
    exact hx.grown hg (fun r hr e => (hxa r e).2.1 hr)
theorem LG.setOwner {wb wr w6 : World} {Hs : Nat → HK} {st : List (Nat × Nat)} {he : List Nat} {tk : List (Nat × Nat × Nat)} {vs vh vt vo vo' : Value} {x : Nat × Nat × Nat}
    (hbel : Below wb.heap.size wb wr) (hst : wr.ownsRow wb.heap.size 45 5 vs st.length (stC st)) (hhe : Bs wr vh (bi he)) (hha : Apart vs vt vo vh) (htk : ∃ ys, wr.ownsRow wb.heap.size 22 1 vt (tk ++ [x]).length ys ∧ ∀ j (h : j < (tk ++ [x]).length), ∃ tv, ys[j]? = some tv ∧ Bs wr tv (tokX Hs (tk ++ [x])[j]) ∧ Apart vs vt vo tv ∧ tv.oneCell' = true ∧ ∀ r, tv.ownBlock = some r → r < wr.heap.size)
    (how : wr.ownsRow wb.heap.size 5 1 vo tk.length (cs8 (bi (tk.map (fun x => x.2.2))))) (hhl : ∀ r, vh.ownBlock = some r → r < wr.heap.size)
    (ho : w6.ownsRow wb.heap.size 5 1 vo' (tk.length + 1) (cs8 (bi (tk.map (fun x => x.2.2))) ++ [.int .u8 (x.2.2 : Int)])) (hg : wr.grownBy w6 vo.ownBlock) (hv : vo'.ownBlock = vo.ownBlock ∨ vo'.ownBlock = some wr.heap.size) : LG wb Hs st he (tk ++ [x]) vs vh vt vo' w6 := by
  have ap : ∀ v, Apart vs vt vo v → (∀ r, v.ownBlock = some r → r < wr.heap.size) → Apart vs vt vo' v := fun v ha hl r hr => by
    obtain ⟨a, b, c⟩ := ha r hr
    refine ⟨a, b, fun e => ?_⟩
    rcases hv with hv | hv
    · exact c (hv ▸ e)
    · rw [hv] at e; cases e; exact absurd (hl _ hr) (Nat.lt_irrefl _)
  refine ⟨below_grown (B := 0) hbel how hg, own_grown hst how (by decide) hg, hhe.grown hg (fun r hr e => (hha r e).2.2 hr), ap _ hha hhl, ?_, ?_, fun r hr => Nat.lt_of_lt_of_le (hhl r hr) hg.size⟩
  · obtain ⟨xs, h1, h2⟩ := htk
    refine ⟨xs, own_grown h1 how (by decide) hg, fun j hj => ?_⟩
    obtain ⟨tv, a, b, c, d, e⟩ := h2 j hj
    exact ⟨tv, a, b.grown hg (fun r hr e => (c r e).2.2 hr), ap tv c e, d, fun r hr => Nat.lt_of_lt_of_le (e r hr) hg.size⟩
  · have : cs8 (bi ((tk ++ [x]).map (fun x => x.2.2))) = cs8 (bi (tk.map (fun x => x.2.2))) ++ [.int .u8 (x.2.2 : Int)] := by simp [cs8, bi]
    rw [this]; simpa using ho

/-- A token is appended, its owner not yet. -/
def LT (wb : World) (Hs : Nat → HK) (st : List (Nat × Nat)) (he : List Nat) (tk : List (Nat × Nat × Nat)) (x : Nat × Nat × Nat) (vs vh vt vo : Value) (w6 : World) : Prop :=
  Below wb.heap.size wb w6 ∧ w6.ownsRow wb.heap.size 45 5 vs st.length (stC st) ∧ Bs w6 vh (bi he) ∧ Apart vs vt vo vh ∧ (∃ ys, w6.ownsRow wb.heap.size 22 1 vt (tk ++ [x]).length ys ∧ ∀ j (h : j < (tk ++ [x]).length), ∃ tv, ys[j]? = some tv ∧ Bs w6 tv (tokX Hs (tk ++ [x])[j]) ∧ Apart vs vt vo tv ∧ tv.oneCell' = true ∧ ∀ r, tv.ownBlock = some r → r < w6.heap.size) ∧ w6.ownsRow wb.heap.size 5 1 vo tk.length (cs8 (bi (tk.map (fun x => x.2.2)))) ∧ (∀ r, vh.ownBlock = some r → r < w6.heap.size)
theorem LT.below {wb w w' : World} {Hs : Nat → HK} {st : List (Nat × Nat)} {he : List Nat} {tk : List (Nat × Nat × Nat)} {x : Nat × Nat × Nat} {vs vh vt vo : Value} (h : LT wb Hs st he tk x vs vh vt vo w) (hb : Below w.heap.size w w') : LT wb Hs st he tk x vs vh vt vo w' := by
  obtain ⟨a, b, c, d, ⟨ys, e1, e2⟩, f, g⟩ := h
  refine ⟨a.trans (hb.mono a.size), own_below b hb, c.below hb, d, ⟨ys, own_below e1 hb, fun j hj => ?_⟩, own_below f hb, fun r hr => Nat.lt_of_lt_of_le (g r hr) hb.size⟩
  obtain ⟨tv, q1, q2, q3, q4, q5⟩ := e2 j hj
  exact ⟨tv, q1, q2.below hb, q3, q4, fun r hr => Nat.lt_of_lt_of_le (q5 r hr) hb.size⟩

section
variable {w : World} {ops : Array Oper} {o : Oper} {a : Act} {Q : Exit → Act → World → Prop}
/-- A step of a region that appends a token. -/
theorem step_tok {K : Act → World → Prop} {E : Prop} (hgd : o.guard = none) (s x : Operand)
    (ho : o.op = .call { callee := .builtin .append, args := #[s, x], argTypes := #[41, 41] })
    {wb : World} {Hs : Nat → HK} {st : List (Nat × Nat)} {he : List Nat} {tk : List (Nat × Nat × Nat)} {vs vh vt vo : Value} (hs : a.eval s = vt) (b : Nat) (hx : a.eval x = .slice (some ⟨b, 0, none⟩) 1 1) (hL : LG wb Hs st he tk vs vh vt vo w) (tv : Value) (hb : w.cell? ⟨b, 0, none⟩ = some tv) (X : Nat × Nat × Nat) (hX : Bs w tv (tokX Hs X)) (hxa : Apart vs vt vo tv) (hx1 : tv.oneCell' = true) (hxl : ∀ r, tv.ownBlock = some r → r < w.heap.size) (hn : tk.length ≤ 1000)
    (h : ∀ vt' w6, LT wb Hs st he tk X vs vh vt' vo w6 → (∀ k T cs, Row w k T cs → T ≠ 22 → Row w6 k T cs) → w.heap.size ≤ w6.heap.size → K (a.put o.dst vt') w6) :
    if Region.wanted o (yielded ops a.tmps) = true then Oper.wp Tryz.prog o a w K Q else E := by
  obtain ⟨xs, h1, h2⟩ := hL.toks
  obtain ⟨v', w', hr, g2, g3, g4, -⟩ := run_one (P := Tryz.prog) w wb.heap.size 41 22 (.slice none 0 0) 1 24 Tryz.underlying41 (by kernel_rfl) rfl (by decide) (by decide) vt tk.length xs h1 hn ⟨b, 0, none⟩ 1 [tv] rfl (fun j u hj => by
    cases j with
    | zero => rw [Go.WideShapes.add_plain]; simpa using hb.trans (by simpa using hj)
    | succ j => simp at hj) (by intro u hu; simp at hu; subst hu; exact hx1) hL.bel.size
  refine step_appendR hgd s x _ ho vt _ hs hx v' w' (hr _) (h v' w' (hL.setTok h1 h2 g2 g3 g4 hX hxa hx1 hxl) (fun k T cs hk hT => Row.grown hk g3 (fun e => ?_)) g3.size)
  obtain ⟨_, _, cs', h3⟩ := own_row h1 e.symm
  exact hT (hk.type h3)
/-- A step of a region that appends an owner. -/
theorem step_ownr {K : Act → World → Prop} {E : Prop} (hgd : o.guard = none) (s x : Operand)
    (ho : o.op = .call { callee := .builtin .append, args := #[s, x], argTypes := #[22, 22] })
    {wb : World} {Hs : Nat → HK} {st : List (Nat × Nat)} {he : List Nat} {tk : List (Nat × Nat × Nat)} {X : Nat × Nat × Nat} {vs vh vt vo : Value} (hs : a.eval s = vo) (b : Nat) (hx : a.eval x = .slice (some ⟨b, 0, none⟩) 1 1) (hT : LT wb Hs st he tk X vs vh vt vo w) (hb : w.cell? ⟨b, 0, none⟩ = some (.int .u8 (X.2.2 : Int))) (hn : tk.length ≤ 1000)
    (h : ∀ vo' w7, LG wb Hs st he (tk ++ [X]) vs vh vt vo' w7 → K (a.put o.dst vo') w7) :
    if Region.wanted o (yielded ops a.tmps) = true then Oper.wp Tryz.prog o a w K Q else E := by
  obtain ⟨c1, c2, c3, c4, c5, c6, c7⟩ := hT
  obtain ⟨v', w', hr, g2, g3, g4, -⟩ := run_one (P := Tryz.prog) w wb.heap.size 22 5 (.int .u8 0) 1 1 Tryz.underlying22 (by kernel_rfl) rfl (by decide) (by decide) vo tk.length _ c6 hn ⟨b, 0, none⟩ 1 [.int .u8 (X.2.2 : Int)] rfl (fun j u hj => by
    cases j with
    | zero => rw [Go.WideShapes.add_plain]; simpa using hb.trans (by simpa using hj)
    | succ j => simp at hj) (by intro u hu; simp at hu; subst hu; rfl) c1.size
  exact step_appendR hgd s x _ ho vo _ hs hx v' w' (hr _) (h v' w' (LG.setOwner c1 c2 c3 c4 c5 c6 c7 g2 g3 g4))
end
end Go.Proofs.YtaemdppihpefnaaGreatDoor

/- FnTokenRotated: its moves, its keys, the body of its second loop. -/
namespace Go.Proofs.YtaemdppihpefnaaGreatDoor
open Go.RowKit
set_option linter.unusedVariables false

/-- The moves: four numbers each. -/
def MV (w : World) (pm : Option Addr) (n : Nat) (f : Nat → Nat → Int) : Prop :=
  (0 < n → ∃ b o, pm = some ⟨b, o, none⟩ ∧ ∀ i, i < n → w.cell? ⟨b, o + i * 4, none⟩ = some (.int .u8 (f i 0)) ∧ w.cell? ⟨b, o + i * 4 + 1, none⟩ = some (.int .u8 (f i 1)) ∧ w.cell? ⟨b, o + i * 4 + 2, none⟩ = some (.int .u8 (f i 2)) ∧ w.cell? ⟨b, o + i * 4 + 3, none⟩ = some (.int .u8 (f i 3))) ∧ ∀ i j, 0 ≤ f i j ∧ f i j < 256
theorem MV.below {w w' : World} {pm : Option Addr} {n : Nat} {f : Nat → Nat → Int} (h : MV w pm n f) (hb : Below w.heap.size w w') : MV w' pm n f := by
  refine ⟨fun h0 => ?_, h.2⟩
  obtain ⟨b, o, rfl, hc⟩ := h.1 h0
  have cl : ∀ j x, w.cell? ⟨b, j, none⟩ = some x → w'.cell? ⟨b, j, none⟩ = some x := fun j x hx => by rw [hb.cell (p := ⟨b, j, none⟩) (World.block_lt_of_cell? w _ hx)]; exact hx
  exact ⟨b, o, rfl, fun i hi => by obtain ⟨a, b, c, d⟩ := hc i hi; exact ⟨cl _ _ a, cl _ _ b, cl _ _ c, cl _ _ d⟩⟩

/-- k keys' data. -/
def KL (w0 wr : World) (k : Nat) (vk : Value) : Prop :=
  ∃ xs, wr.ownsRow w0.heap.size 39 3 vk k xs ∧ (∀ j, j < k → ∃ v, xs[j * 3]? = some v ∧ Bs wr v (octL j) ∧ xs[j * 3 + 1]? = some (.bool true) ∧ xs[j * 3 + 2]? = some (.string (strOfNums (idL j))) ∧ ∀ r, v.ownBlock = some r → vk.ownBlock ≠ some r ∧ r < wr.heap.size) ∧ Below w0.heap.size w0 wr
theorem KL.more {w0 wr W2 w3 : World} {k : Nat} {vk vk' : Value} {xs : List Value} {c : Nat} (hxo : wr.ownsRow w0.heap.size 39 3 vk k xs) (hx : ∀ j, j < k → ∃ v, xs[j * 3]? = some v ∧ Bs wr v (octL j) ∧ xs[j * 3 + 1]? = some (.bool true) ∧ xs[j * 3 + 2]? = some (.string (strOfNums (idL j))) ∧ ∀ r, v.ownBlock = some r → vk.ownBlock ≠ some r ∧ r < wr.heap.size) (hB : Below w0.heap.size w0 wr)
    (b2 : Below wr.heap.size wr W2) (hv : Bs W2 (.slice (some ⟨wr.heap.size, 0, none⟩) 5 c) (octL k)) (hlt : wr.heap.size < W2.heap.size) (ho : w3.ownsRow w0.heap.size 39 3 vk' (k + 1) (xs ++ [.slice (some ⟨wr.heap.size, 0, none⟩) 5 c, .bool true, .string (strOfNums (idL k))])) (hg : W2.grownBy w3 vk.ownBlock) (hs : vk'.ownBlock = vk.ownBlock ∨ vk'.ownBlock = some W2.heap.size) : KL w0 w3 (k + 1) vk' := by
  have hxs : xs.length = k * 3 := hxo.1
  have hxo2 := own_below hxo b2
  have ap : ∀ r, vk.ownBlock ≠ some r → r < W2.heap.size → vk'.ownBlock ≠ some r := fun r h1 h2 e => by
    rcases hs with hs | hs
    · exact h1 (hs ▸ e)
    · rw [hs] at e; cases e; exact absurd h2 (Nat.lt_irrefl _)
  refine ⟨_, ho, fun j hj => ?_, ?_⟩
  · by_cases hjk : j < k
    · obtain ⟨v, a, b, c, d, e⟩ := hx j hjk
      refine ⟨v, by rw [List.getElem?_append_left (by omega)]; exact a, (b.below b2).grown hg (fun r hr e' => (e r e').1 hr), by rw [List.getElem?_append_left (by omega)]; exact c, by rw [List.getElem?_append_left (by omega)]; exact d, fun r hr => ?_⟩
      obtain ⟨e1, e2⟩ := e r hr
      have := b2.size
      exact ⟨ap r e1 (by omega), by have := hg.size; omega⟩
    · obtain rfl : j = k := by omega
      have hne : vk.ownBlock ≠ some wr.heap.size := fun e => by have := (own_row hxo e).2.1; omega
      refine ⟨_, by rw [List.getElem?_append_right (by omega), hxs, Nat.sub_self]; rfl, hv.grown hg (fun r hr e' => by cases e'; exact hne hr), by rw [List.getElem?_append_right (by omega), hxs, show j * 3 + 1 - j * 3 = 1 by omega]; rfl, by rw [List.getElem?_append_right (by omega), hxs, show j * 3 + 2 - j * 3 = 2 by omega]; rfl, fun r hr => ?_⟩
      cases hr
      exact ⟨ap _ hne hlt, Nat.lt_of_lt_of_le hlt hg.size⟩
  · exact below_grown (B := 0) (hB.trans (b2.mono hB.size)) hxo2 hg
theorem KL.kd {w0 wr : World} {kg kc : Nat} (h : KL w0 wr 6 (.slice (some ⟨kg, 0, none⟩) 6 kc)) : KD wr kg := fun i hi => by
  obtain ⟨xs, ho, hx, _⟩ := h
  obtain ⟨v, a, b, c, d, _⟩ := hx i hi
  have cl : ∀ j u, xs[j]? = some u → wr.cell? ⟨kg, j, none⟩ = some u := fun j u hu => by
    have := ho.cells (g := kg) rfl j u hu
    rwa [Go.WideShapes.add_plain, Nat.zero_add] at this
  exact ⟨v, cl _ _ a, b, cl _ _ c, cl _ _ d⟩

theorem ne8_bi (q : Nat) : ∀ (l : List Nat), ne8 (q : Int) (bi l) = bi (dropN q l)
  | [] => rfl
  | x :: l => by
    have ih := ne8_bi q l
    by_cases h : x = q
    · subst h
      have e1 : ne8 (x : Int) (bi (x :: l)) = ne8 (x : Int) (bi l) := by simp [ne8, bi]
      have e2 : dropN x (x :: l) = dropN x l := by simp [dropN]
      rw [e1, e2, ih]
    · have hi : ¬ (x : Int) = (q : Int) := by omega
      have e1 : ne8 (q : Int) (bi (x :: l)) = (x : Int) :: ne8 (q : Int) (bi l) := by simp [ne8, bi, hi]
      have e2 : dropN q (x :: l) = x :: dropN q l := by simp [dropN, h]
      rw [e1, e2, ih]; rfl

theorem two_new (w : World) (k q : Nat) : Bs (w.alloc (.cells #[.int .u8 k, .int .u8 q] 5)) (.slice (some ⟨w.heap.size, 0, none⟩) 2 2) (bi [k, q]) :=
  Bs.row (show Row (w.alloc (.cells #[.int .u8 k, .int .u8 q] 5)) w.heap.size 5 (cs8 (bi [k, q])) from Row.alloc w _ _) 0 2 (bi [k, q]) (Nat.le_refl _) (fun i hi => by rw [Nat.zero_add, get_cs8 _ _ hi])
theorem two_bytes (w : World) (k q : Nat) (w' : World) (h : Below (w.alloc (.cells #[.int .u8 k, .int .u8 q] 5)).heap.size (w.alloc (.cells #[.int .u8 k, .int .u8 q] 5)) w') : Bs w' (.slice (some ⟨w.heap.size, 0, none⟩) 2 2) (bi [k, q]) := (two_new w k q).below h
theorem idL_plain {q : Nat} (h : q < 6) : Plain (idL q) := by
  intro x hx; simp [idL] at hx; omega
theorem hdK_lt {a q : Nat} (ha : a < 3) (hq : q < 6) : ∀ x ∈ hdK a q, x < 256 := toN_lt (jtext_byt (kFit (nm_plain a) (idL_plain hq) (by rw [nm_len]; omega) (by simp [idL]) (by rw [nm_len]; omega) (by simp [idL])))
theorem hdK_bi {a q : Nat} (ha : a < 3) (hq : q < 6) : bi (hdK a q) = headKB (nmI a) (idL q) := bi_toN (jtext_byt (kFit (nm_plain a) (idL_plain hq) (by rw [nm_len]; omega) (by simp [idL]) (by rw [nm_len]; omega) (by simp [idL])))
theorem hdK_len {a q : Nat} : (hdK a q).length ≤ 200 := by rw [hdK, toN_len, headKB_len, nm_len]; simp [idL]

def kdF (f : Nat → Nat → Int) (i : Nat) : Nat := (f i 0 % 4).toNat
def kyF (f : Nat → Nat → Int) (i : Nat) : Nat := (f i 1 % 6).toNat
def alF (f : Nat → Nat → Int) (i : Nat) : Nat := (f i 3 % 3).toNat

/-- What holds behind a code that comes to its end. -/
def onN (R : Act → World → Prop) : Exit → Act → World → Prop
  | .normal, a, w => R a w
  | _, _, _ => False
theorem onN_mono {Q : Exit → Act → World → Prop} : ∀ e a w, onN (Q .normal) e a w → Q e a w
  | .normal, _, _, h => h
  | .panic _, _, _, h => h.elim
  | .exit _, _, _, h => h.elim
  | .goto _, _, _, h => h.elim
  | .ret, _, _, h => h.elim
  | .outgrown, _, _, h => h.elim
/-- The loops of a function's code. -/
def loopsOf : Code → List Code
  | .loop c => [c]
  | .seq a b => loopsOf a ++ loopsOf b
  | .block _ c => loopsOf c
  | .scope c => loopsOf c
  | .cond _ a b => loopsOf a ++ loopsOf b
  | _ => []
/-- The body of the second loop. -/
noncomputable def rbody : Code := ((Tryz.f4.body.map loopsOf).getD []).getD 1 .skip
/-- A region of some code, by its number. -/
def regIn (i : Nat) : Code → Option Code
  | .region j ops d => bif j == i then some (.region j ops d) else none
  | .seq a b => match regIn i a with
    | some c => some c
    | none => regIn i b
  | .loop c => regIn i c
  | .block _ c => regIn i c
  | .scope c => regIn i c
  | .cond _ a b => match regIn i a with
    | some c => some c
    | none => regIn i b
  | _ => none
noncomputable def regOf (i : Nat) (c : Code) : Code := (regIn i c).getD .skip
end Go.Proofs.YtaemdppihpefnaaGreatDoor

/- FnTokenRotated: the steps that a look-up runs. -/
namespace Go.Proofs.YtaemdppihpefnaaGreatDoor
open Go.RowKit
set_option linter.unusedVariables false

theorem own_any {w : World} {B sz n : Nat} {T : TypeId} {v : Value} {xs : List Value} (h : w.ownsRow B T sz v n xs) : ∃ p c, v = .slice p n c := by
  rcases h.2 with ⟨rfl, rfl⟩ | ⟨g, cap, cur, rfl, _⟩
  · exact ⟨_, _, rfl⟩
  · exact ⟨_, _, rfl⟩
theorem own_pos {w : World} {B sz n m : Nat} {T : TypeId} {p : Option Addr} {c : Nat} {xs : List Value} (h : w.ownsRow B T sz (.slice p m c) n xs) (h0 : 0 < n) : ∃ g, p = some ⟨g, 0, none⟩ := by
  rcases h.2 with ⟨_, h1⟩ | ⟨g, cap, cur, h1, _⟩
  · omega
  · cases h1; exact ⟨g, rfl⟩
theorem own_cellM {w : World} {B sz n m g c : Nat} {T : TypeId} {xs : List Value} (h : w.ownsRow B T sz (.slice (some ⟨g, 0, none⟩) m c) n xs) {j : Nat} {u : Value} (hu : xs[j]? = some u) : w.cell? ⟨g, j, none⟩ = some u := by
  have := h.cells (g := g) rfl j u hu
  rwa [Go.WideShapes.add_plain, Nat.zero_add] at this

/-- Steps' cells. -/
def stG : Steps → List Value
  | [] => []
  | x :: l => [.int .i64 (x.1 : Int), .int .i64 (x.2.1 : Int), .int .i64 0, .string (strOfNums x.2.2), .string (⟨#[]⟩ : ByteArray)] ++ stG l
theorem stG_bare : ∀ (l : List (Nat × Nat)), stG (bare l) = stC l
  | [] => rfl
  | x :: l => by
    have ih := stG_bare l
    unfold bare at ih ⊢
    rw [List.map_cons, stG, stC, ih]
    rfl
theorem stG_app : ∀ (l m : Steps), stG (l ++ m) = stG l ++ stG m
  | [], m => rfl
  | x :: l, m => by rw [List.cons_append, stG, stG, stG_app l m, List.append_assoc]
theorem stG_asked (st : List (Nat × Nat)) (o : Nat) : stG (asked st o) = stC st ++ [.int .i64 4, .int .i64 0, .int .i64 0, .string (strOfNums (idL o)), .string (⟨#[]⟩ : ByteArray)] := by
  rw [asked, stG_app, stG_bare]
  rfl
theorem stG_get : ∀ (L : Steps) (i : Nat) (h : i < L.length), (stG L)[i * 5]? = some (.int .i64 (L[i].1 : Int)) ∧ (stG L)[i * 5 + 1]? = some (.int .i64 (L[i].2.1 : Int)) ∧ (stG L)[i * 5 + 2]? = some (.int .i64 0) ∧ (stG L)[i * 5 + 3]? = some (.string (strOfNums L[i].2.2)) ∧ (stG L)[i * 5 + 4]? = some (.string (⟨#[]⟩ : ByteArray))
  | [], i, h => absurd h (Nat.not_lt_zero _)
  | x :: l, 0, _ => ⟨rfl, rfl, rfl, rfl, rfl⟩
  | x :: l, i + 1, h => by
    have ih := stG_get l i (by simpa using h)
    have e : ∀ j, (stG (x :: l))[(i + 1) * 5 + j]? = (stG l)[i * 5 + j]? := fun j => by
      rw [stG, List.getElem?_append_right (by simp; omega)]
      congr 1
      simp only [List.length_cons, List.length_nil]
      omega
    obtain ⟨a0, a1, a2, a3, a4⟩ := ih
    exact ⟨(e 0).trans a0, (e 1).trans a1, (e 2).trans a2, (e 3).trans a3, (e 4).trans a4⟩
theorem SD.own {w : World} {B g c n m : Nat} {L : Steps} (h : w.ownsRow B 45 5 (.slice (some ⟨g, 0, none⟩) n c) m (stG L)) : SD w g L := fun i hi => by
  obtain ⟨h0, h1, h2, h3, h4⟩ := stG_get L i hi
  exact ⟨own_cellM h h0, own_cellM h h1, own_cellM h h2, own_cellM h h3, own_cellM h h4⟩
theorem asked_ok {st : List (Nat × Nat)} {o : Nat} (hs : ∀ x ∈ st, (x.1 = 0 ∨ x.1 = 1) ∧ x.2 < 6) (ho : o < 6) : ∀ x ∈ asked st o, (x.1 = 0 ∨ x.1 = 1 ∨ x.1 = 4) ∧ x.2.1 < 6 ∧ Byt x.2.2 := by
  intro x hx
  rcases List.mem_append.1 hx with hx | hx
  · obtain ⟨y, hy, rfl⟩ := List.mem_map.1 hx
    obtain ⟨h1, h2⟩ := hs y hy
    refine ⟨?_, h2, fun z hz => absurd hz (by simp)⟩
    rcases h1 with h1 | h1
    · exact .inl h1
    · exact .inr (.inl h1)
  · simp only [List.mem_singleton] at hx
    subst hx
    exact ⟨.inr (.inr rfl), show (0 : Nat) < 6 by decide, idL_byt ho⟩
end Go.Proofs.YtaemdppihpefnaaGreatDoor

/- A slice of moves, as a row's frame opens it. -/
namespace Go.Proofs.YtaemdppihpefnaaGreatDoor
open Go.RowKit Go.Deep Go.ChangeShapes Go.WideShapes
set_option linter.unusedVariables false

theorem tMoves : Tryz.prog.underlying 35 = some (.slice 43) := Tryz.underlying35
theorem fMove : ∃ fs : Array Field, Tryz.prog.underlying 43 = some (.struct fs) ∧ fs.size = 4 ∧ (∀ j (h : j < fs.size), fs[j].offset = j ∧ fs[j].type = 5) := by
  refine ⟨_, Tryz.underlying43, rfl, ?_⟩
  intro j h
  have : j = 0 ∨ j = 1 ∨ j = 2 ∨ j = 3 := by simp at h; omega
  rcases this with rfl | rfl | rfl | rfl <;> exact ⟨rfl, rfl⟩

/-- What the opening of the argument tells. -/
theorem moves {H : Type} {enc : TypeId × Value → H} {W : World} {spare : Nat → Bool} {held : Bool} {fuel : Nat} {a : Option Addr} {len cap : Nat} {x : DataW H × List MemPlace}
    (h : DataW.trod enc Tryz.prog W 0 spare held fuel 35 [.slice a len cap] = some x) : ∃ f, MV W a len f := by
  rcases open_slice tMoves h with ⟨hcs, _⟩ | ⟨p, l, c, m, n, D, Pl, hcs, _, hl, _, hmm, _, hx⟩
  · simp only [List.cons.injEq, Value.slice.injEq, and_true] at hcs
    obtain ⟨rfl, rfl, rfl⟩ := hcs
    exact ⟨fun _ _ => 0, fun h => absurd h (Nat.lt_irrefl _), fun i j => ⟨Int.le_refl 0, show (0 : Int) < 256 by decide⟩⟩
  · simp only [List.cons.injEq, Value.slice.injEq, and_true] at hcs
    obtain ⟨rfl, rfl, rfl⟩ := hcs
    have hlm : len ≤ m := by rw [hmm]; split <;> omega
    have ce : Tryz.prog.cellsOf 43 = 4 := by kernel_rfl
    have c1 : Tryz.prog.cellsOf 5 = 1 := by kernel_rfl
    obtain ⟨fs, hfs, hf4, hfo⟩ := fMove
    have each : ∀ i, i < len → ∃ g : Nat → Int, ∀ j, j < 4 → W.cell? (p.add (i * 4 + j)) = some (.int .u8 (g j)) ∧ 0 ≤ g j ∧ g j < 256 := by
      intro i hi
      obtain ⟨cs', h1, h2⟩ := hx i (by omega)
      rw [ce] at h1
      obtain ⟨_, hlen, hcell⟩ := World.cells?_some h1
      obtain ⟨xs, k, _, _, _, hxl, hfd⟩ := DataW.trod_struct hfs h2
      refine choose_lt (p := fun j z => W.cell? (p.add (i * 4 + j)) = some (.int .u8 z) ∧ 0 ≤ z ∧ z < 256) (fun j hj => ?_)
      have hjs : j < fs.size := by omega
      have g0 := hfd j fs[j] (Array.getElem?_eq_getElem hjs)
      obtain ⟨ho, ht⟩ := hfo j hjs
      rw [ho, ht, c1, List.getElem?_eq_getElem (by omega)] at g0
      have hd : (cs'.drop j).take 1 = [cs'[j]'(by omega)] := by
        rw [List.drop_eq_getElem_cons (by omega : j < cs'.length)]
        rfl
      rw [hd] at g0
      obtain ⟨z, hz, _, hw⟩ := DataW.trod_int Tryz.underlying5 g0
      have hc := hcell j (by omega)
      rw [Go.Deep.add_add, List.getElem?_eq_getElem (by omega)] at hc
      have hz' : cs'[j]'(by omega) = .int .u8 z := by simpa using hz
      rw [hz'] at hc
      simp [Lit.wf, IntKind.min, IntKind.max, IntKind.bits, IntKind.signed] at hw
      exact ⟨z, hc, by omega, by omega⟩
    obtain ⟨g, hg⟩ := choose_lt each
    refine ⟨fun i j => if i < len ∧ j < 4 then g i j else 0, fun h0 => ?_, fun i j => ?_⟩
    · obtain ⟨b, o, s⟩ := p
      obtain ⟨h0c, _⟩ := hg 0 h0 0 (by decide)
      obtain rfl : s = none := by simpa [Addr.add] using World.cell?_spot h0c
      refine ⟨b, o, rfl, fun i hi => ?_⟩
      have e := hg i hi
      have c := fun j (hj : j < 4) => (e j hj).1
      simp only [Go.WideShapes.add_plain] at c
      simp only [hi, true_and]
      refine ⟨?_, ?_, ?_, ?_⟩
      · simpa using c 0 (by decide)
      · simpa [Nat.add_assoc] using c 1 (by decide)
      · simpa [Nat.add_assoc] using c 2 (by decide)
      · simpa [Nat.add_assoc] using c 3 (by decide)
    · show 0 ≤ (if i < len ∧ j < 4 then g i j else 0) ∧ (if i < len ∧ j < 4 then g i j else 0) < 256
      split
      · rename_i hij
        exact (hg i hij.1 j hij.2).2
      · exact ⟨by decide, by decide⟩
end Go.Proofs.YtaemdppihpefnaaGreatDoor
