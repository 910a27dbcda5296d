/- A server's keys, its steps and its tokens, in plain lists. No program is in sight. -/
import Derived.Test.YtaemdppihpefnaaGreatDoorBase
import Derived.Test.YtaemdppihpefnaaGreatDoorKeyKitB
namespace Go.Proofs.YtaemdppihpefnaaGreatDoor
open Go.RowKit
set_option linter.unusedVariables false

/-- A key more, if it is not there. -/
def addN (q : Nat) (l : List Nat) : List Nat := if q ∈ l then l else l ++ [q]
/-- The keys that are not q. -/
def dropN (q : Nat) (l : List Nat) : List Nat := l.filter (fun x => decide (x ≠ q))
/-- The keys here, the steps of the set, and the tokens made behind k moves of the kinds kd with the keys ky. -/
def hereN (kd ky : Nat → Nat) : Nat → List Nat
  | 0 => []
  | k + 1 => if kd k = 0 then addN (ky k) (hereN kd ky k) else if kd k = 1 then dropN (ky k) (hereN kd ky k) else hereN kd ky k
def stepsN (kd ky : Nat → Nat) : Nat → List (Nat × Nat)
  | 0 => []
  | k + 1 => if kd k = 0 then stepsN kd ky k ++ [(0, ky k)] else if kd k = 1 then stepsN kd ky k ++ [(1, ky k)] else stepsN kd ky k
/-- A token: its algorithm, the move that made it, its key. -/
def toksN (kd ky al : Nat → Nat) : Nat → List (Nat × Nat × Nat)
  | 0 => []
  | k + 1 => if kd k = 2 then toksN kd ky al k ++ [(al k, k, ky k)] else toksN kd ky al k

/-- The set behind some steps. -/
def setN (l : List (Nat × Nat)) : List Nat := l.foldl (fun s x => if x.1 = 0 then addN x.2 s else if x.1 = 1 then s.erase x.2 else s) []
theorem setN_snoc (l : List (Nat × Nat)) (x : Nat × Nat) : setN (l ++ [x]) = if x.1 = 0 then addN x.2 (setN l) else if x.1 = 1 then (setN l).erase x.2 else setN l := by
  simp [setN, List.foldl_append]

theorem addN_nodup {q : Nat} {l : List Nat} (h : l.Nodup) : (addN q l).Nodup := by
  unfold addN
  split
  · exact h
  · rename_i hq
    rw [List.nodup_append]
    exact ⟨h, by simp, fun a ha b hb => by simp at hb; subst hb; exact fun e => hq (e ▸ ha)⟩
theorem hereN_nodup (kd ky : Nat → Nat) : ∀ k, (hereN kd ky k).Nodup
  | 0 => List.nodup_nil
  | k + 1 => by
    have ih := hereN_nodup kd ky k
    unfold hereN
    split
    · exact addN_nodup ih
    · split
      · exact ih.filter _
      · exact ih
theorem erase_eq_drop {q : Nat} {l : List Nat} (h : l.Nodup) : l.erase q = dropN q l := by
  rw [dropN, h.erase_eq_filter]
  congr 1
  funext x
  by_cases hx : x = q <;> simp [hx]
/-- The set is what is here. -/
theorem set_here (kd ky : Nat → Nat) : ∀ k, setN (stepsN kd ky k) = hereN kd ky k
  | 0 => rfl
  | k + 1 => by
    have ih := set_here kd ky k
    unfold stepsN hereN
    by_cases h0 : kd k = 0
    · rw [if_pos h0, if_pos h0, setN_snoc, ih]; simp
    · rw [if_neg h0, if_neg h0]
      by_cases h1 : kd k = 1
      · rw [if_pos h1, if_pos h1, setN_snoc, ih, ← erase_eq_drop (hereN_nodup kd ky k)]; simp
      · rw [if_neg h1, if_neg h1, ih]
theorem addN_mem {q x : Nat} {l : List Nat} : x ∈ addN q l ↔ x = q ∨ x ∈ l := by
  unfold addN
  split
  · rename_i h
    constructor
    · exact fun h => .inr h
    · rintro (rfl | h2)
      · exact h
      · exact h2
  · simp [or_comm]
theorem hereN_lt (kd ky : Nat → Nat) (m : Nat) (hk : ∀ i, ky i < m) : ∀ k, ∀ x ∈ hereN kd ky k, x < m
  | 0 => fun x h => by simp [hereN] at h
  | k + 1 => fun x h => by
    have ih := hereN_lt kd ky m hk k
    unfold hereN at h
    split at h
    · rcases addN_mem.1 h with rfl | h
      · exact hk k
      · exact ih x h
    · split at h
      · exact ih x (List.mem_filter.1 h).1
      · exact ih x h
def setStep (s : List Nat) (x : Nat × Nat) : List Nat := if x.1 = 0 then addN x.2 s else if x.1 = 1 then s.erase x.2 else s
theorem setN_fold (l : List (Nat × Nat)) : setN l = l.foldl setStep [] := rfl
theorem setStep_lt {m : Nat} {s : List Nat} {x : Nat × Nat} (hx : x.2 < m) (hs : ∀ y ∈ s, y < m) : ∀ y ∈ setStep s x, y < m := by
  intro y hy
  unfold setStep at hy
  split at hy
  · rcases addN_mem.1 hy with rfl | h
    · exact hx
    · exact hs y h
  · split at hy
    · exact hs y (List.mem_of_mem_erase hy)
    · exact hs y hy
theorem fold_lt (m : Nat) : ∀ (l : List (Nat × Nat)) (s : List Nat), (∀ x ∈ l, x.2 < m) → (∀ y ∈ s, y < m) → ∀ y ∈ l.foldl setStep s, y < m
  | [], _, _, hs => hs
  | x :: l, s, hl, hs => fold_lt m l (setStep s x) (fun z hz => hl z (by simp [hz])) (setStep_lt (hl x (by simp)) hs)
theorem setN_lt (m : Nat) (l : List (Nat × Nat)) (hl : ∀ x ∈ l, x.2 < m) : ∀ y ∈ setN l, y < m := fold_lt m l [] hl (fun y h => by cases h)
theorem setStep_nodup {s : List Nat} {x : Nat × Nat} (hs : s.Nodup) : (setStep s x).Nodup := by
  unfold setStep
  split
  · exact addN_nodup hs
  · split
    · exact hs.erase _
    · exact hs
theorem fold_nodup : ∀ (l : List (Nat × Nat)) (s : List Nat), s.Nodup → (l.foldl setStep s).Nodup
  | [], _, hs => hs
  | x :: l, s, hs => fold_nodup l (setStep s x) (setStep_nodup hs)
theorem setN_nodup (l : List (Nat × Nat)) : (setN l).Nodup := fold_nodup l [] List.nodup_nil
theorem addN_len (q : Nat) (l : List Nat) : (addN q l).length ≤ l.length + 1 := by unfold addN; split <;> simp
theorem hereN_len (kd ky : Nat → Nat) : ∀ k, (hereN kd ky k).length ≤ k
  | 0 => by simp [hereN]
  | k + 1 => by
    have ih := hereN_len kd ky k
    unfold hereN
    split
    · have := addN_len (ky k) (hereN kd ky k); omega
    · split
      · have := List.length_filter_le (fun x => decide (x ≠ ky k)) (hereN kd ky k)
        simp only [dropN]; omega
      · omega
theorem setStep_len (s : List Nat) (x : Nat × Nat) : (setStep s x).length ≤ s.length + 1 := by
  unfold setStep
  split
  · exact addN_len _ _
  · split
    · have := List.length_erase_le (a := x.2) (l := s); omega
    · omega
theorem fold_len : ∀ (l : List (Nat × Nat)) (s : List Nat), (l.foldl setStep s).length ≤ s.length + l.length
  | [], s => by simp
  | x :: l, s => by
    have h := fold_len l (setStep s x)
    have := setStep_len s x
    simp only [List.foldl_cons, List.length_cons]
    omega
theorem setN_len (l : List (Nat × Nat)) : (setN l).length ≤ l.length := by
  have := fold_len l []
  simpa [setN_fold] using this
theorem stepsN_len (kd ky : Nat → Nat) : ∀ k, (stepsN kd ky k).length ≤ k
  | 0 => by simp [stepsN]
  | k + 1 => by
    have ih := stepsN_len kd ky k
    unfold stepsN
    split
    · simp; omega
    · split
      · simp; omega
      · omega
theorem stepsN_ok (kd ky : Nat → Nat) (m : Nat) (hk : ∀ i, ky i < m) : ∀ k, ∀ x ∈ stepsN kd ky k, (x.1 = 0 ∨ x.1 = 1) ∧ x.2 < m
  | 0 => fun x h => by simp [stepsN] at h
  | k + 1 => fun x h => by
    have ih := stepsN_ok kd ky m hk k
    unfold stepsN at h
    split at h
    · rcases List.mem_append.1 h with h | h
      · exact ih x h
      · simp at h; subst h; exact ⟨.inl rfl, hk k⟩
    · split at h
      · rcases List.mem_append.1 h with h | h
        · exact ih x h
        · simp at h; subst h; exact ⟨.inr rfl, hk k⟩
      · exact ih x h
theorem toksN_len (kd ky al : Nat → Nat) : ∀ k, (toksN kd ky al k).length ≤ k
  | 0 => by simp [toksN]
  | k + 1 => by
    have ih := toksN_len kd ky al k
    unfold toksN
    split
    · simp; omega
    · omega
theorem toksN_ok (kd ky al : Nat → Nat) (m : Nat) (hk : ∀ i, ky i < m) (ha : ∀ i, al i < 3) : ∀ k, ∀ x ∈ toksN kd ky al k, x.1 < 3 ∧ x.2.1 < k ∧ x.2.2 < m
  | 0 => fun x h => by simp [toksN] at h
  | k + 1 => fun x h => by
    have ih := toksN_ok kd ky al m hk ha k
    unfold toksN at h
    split at h
    · rcases List.mem_append.1 h with h | h
      · have := ih x h; exact ⟨this.1, by omega, this.2.2⟩
      · simp at h; subst h; exact ⟨ha k, by simp, hk k⟩
    · have := ih x h; exact ⟨this.1, by omega, this.2.2⟩
end Go.Proofs.YtaemdppihpefnaaGreatDoor

/- KeyRun's state: a set, the keys made, and what a change of the set leaves. -/
namespace Go.Proofs.YtaemdppihpefnaaGreatDoor
open Go.RowKit
set_option linter.unusedVariables false

/-- The name of a key by its number. -/
def idL (i : Nat) : List Int := [107, 97 + (i : Int)]
theorem idL_inj {i j : Nat} (h : idL i = idL j) : i = j := by
  simp only [idL, List.cons.injEq, and_true, true_and] at h; omega
theorem idL_byt {i : Nat} (h : i < 6) : Byt (idL i) := by
  intro x hx; simp [idL] at hx; omega

/-- A key that has an ID; its blocks lie below B. -/
def KeyAtB (w : World) (B p : Nat) (id : List Int) : Prop :=
  ∃ kb ov m, p < B ∧ kb < B ∧ Row w p 194 (keyC (.pointer (some ⟨kb, 0, none⟩)) ov m) ∧ Row w kb 9 [.string (strOfNums id)]
theorem KeyAtB.at {w : World} {B p : Nat} {id : List Int} (h : KeyAtB w B p id) : KeyAt w p id := by
  obtain ⟨kb, ov, m, _, _, h1, h2⟩ := h; exact ⟨kb, ov, m, h1, h2⟩
theorem KeyAtB.row {w : World} {B p : Nat} {id : List Int} (h : KeyAtB w B p id) : ∃ cs, Row w p 194 cs := h.at.row
theorem Row.same {w w' : World} {g : Nat} {t : TypeId} {cur : List Value} (h : Row w g t cur) (hs : w'.heap[g]? = w.heap[g]?) : Row w' g t cur := by
  unfold Row at h ⊢; rw [hs]; exact h
theorem KeyAtB.same {w w' : World} {B p : Nat} {id : List Int} (h : KeyAtB w B p id) (hs : ∀ k, k < B → (∃ T cs, Row w k T cs ∧ (T = 194 ∨ T = 9)) → w'.heap[k]? = w.heap[k]?) : KeyAtB w' B p id := by
  obtain ⟨kb, ov, m, hp, hk, h1, h2⟩ := h
  exact ⟨kb, ov, m, hp, hk, h1.same (hs p hp ⟨_, _, h1, .inl rfl⟩), h2.same (hs kb hk ⟨_, _, h2, .inr rfl⟩)⟩
theorem KeyAtB.mono {w : World} {B B' p : Nat} {id : List Int} (h : KeyAtB w B p id) (hB : B ≤ B') : KeyAtB w B' p id := by
  obtain ⟨kb, ov, m, hp, hk, h1, h2⟩ := h; exact ⟨kb, ov, m, by omega, by omega, h1, h2⟩
theorem Row.type {w : World} {g : Nat} {t t' : TypeId} {c c' : List Value} (h : Row w g t c) (h' : Row w g t' c') : t = t' := by
  unfold Row at h h'
  rw [h] at h'
  simp only [Option.some.injEq, Obj.cells.injEq] at h'
  exact h'.2.1

theorem OwnK.same {w w' : World} {B : Nat} {v : Value} {ps : List Nat} (h : OwnK w B v ps) (hs : ∀ r, v.ownBlock = some r → w'.heap[r]? = w.heap[r]?) : OwnK w' B v ps := by
  rcases h with h | ⟨g, o, c, cur, rfl, hB, hrow, h1, h2, h3, hc⟩
  · exact .inl h
  · exact .inr ⟨g, o, c, cur, rfl, hB, hrow.same (hs g rfl), h1, h2, h3, hc⟩
theorem OwnK.mono {w : World} {B B' : Nat} {v : Value} {ps : List Nat} (h : OwnK w B v ps) (hB : B' ≤ B) : OwnK w B' v ps := by
  rcases h with h | ⟨g, o, c, cur, rfl, hg, hrow, h1, h2, h3, hc⟩
  · exact .inl h
  · exact .inr ⟨g, o, c, cur, rfl, by omega, hrow, h1, h2, h3, hc⟩
theorem OwnK.rowOf {w : World} {B : Nat} {v : Value} {ps : List Nat} (h : OwnK w B v ps) {r : Nat} (hr : v.ownBlock = some r) : B ≤ r ∧ r < w.heap.size ∧ ∃ cur, Row w r 91 cur := by
  rcases h with ⟨rfl, _⟩ | ⟨g, o, c, cur, rfl, hB, hrow, h1, h2, h3, hc⟩
  · cases hr
  · cases hr; exact ⟨hB, hrow.lt, cur, hrow⟩
/-- A block of another type is not the row of a set's keys. -/
theorem OwnK.ne {w : World} {B : Nat} {v : Value} {ps : List Nat} (h : OwnK w B v ps) {k : Nat} {T : TypeId} {cs : List Value} (hk : Row w k T cs) (hT : T ≠ 91) : some k ≠ v.ownBlock := fun e => by
  obtain ⟨_, _, cur, hr⟩ := h.rowOf e.symm
  exact hT (hk.type hr)

/-- The state of KeyRun: the set s with its map m, whose keys are S behind v; the keys made are ps, behind vm in the box mb. -/
structure KS (w : World) (B mb s m : Nat) (vm : Value) (ps : List Nat) (v : Value) (S : List Nat) : Prop where
  set : Row w s 196 [v, .map (some m)]
  own : OwnK w B v S
  map : MapAt w m []
  mbx : Row w mb 84 [vm]
  made : OwnK w 0 vm ps
  madeB : ∀ r, vm.ownBlock = some r → r < B
  keys : ∀ j (h : j < ps.length), KeyAtB w B ps[j] (idL j)
  sub : ∀ p ∈ S, p ∈ ps
  len : S.length ≤ 900
  plen : ps.length ≤ 900
  sB : s < B
  mbB : mb < B
  mB : m < B
  BB : B ≤ w.heap.size

theorem KS.frame {w w' : World} {B mb s m : Nat} {vm v : Value} {ps S : List Nat} (h : KS w B mb s m vm ps v S) (hsz : w.heap.size ≤ w'.heap.size) (hlow : ∀ k, k < B → w'.heap[k]? = w.heap[k]?) (hrow : ∀ r, v.ownBlock = some r → w'.heap[r]? = w.heap[r]?) : KS w' B mb s m vm ps v S where
  set := h.set.same (hlow s h.sB)
  own := h.own.same hrow
  map := by have := h.map; unfold MapAt at this ⊢; rw [hlow m h.mB]; exact this
  mbx := h.mbx.same (hlow mb h.mbB)
  made := h.made.same (fun r hr => hlow r (h.madeB r hr))
  madeB := h.madeB
  keys := fun j hj => (h.keys j hj).same (fun k hk _ => hlow k hk)
  sub := h.sub
  len := h.len
  plen := h.plen
  sB := h.sB
  mbB := h.mbB
  mB := h.mB
  BB := Nat.le_trans h.BB hsz
theorem KS.below {w w' : World} {B mb s m : Nat} {vm v : Value} {ps S : List Nat} (h : KS w B mb s m vm ps v S) (hb : Below w.heap.size w w') : KS w' B mb s m vm ps v S :=
  h.frame hb.size (fun k hk => hb.block k (Nat.lt_of_lt_of_le hk h.BB)) (fun r hr => hb.block r (h.own.rowOf hr).2.1)
theorem KS.drew {w : World} {B mb s m : Nat} {vm v : Value} {ps S : List Nat} (h : KS w B mb s m vm ps v S) : KS w.drew B mb s m vm ps v S := h.frame (Nat.le_refl _) (fun _ _ => rfl) (fun _ _ => rfl)
/-- A block of another type, at or beyond B, turned. -/
theorem KS.only {w w' : World} {B mb s m : Nat} {vm v : Value} {ps S : List Nat} (h : KS w B mb s m vm ps v S) {g : Nat} {T : TypeId} {cs : List Value} (hg : Row w g T cs) (hT : T ≠ 91) (hB : B ≤ g) (ho : Only g w w') : KS w' B mb s m vm ps v S :=
  h.frame (Nat.le_of_eq ho.size.symm) (fun k hk => ho.block k (by omega)) (fun r hr => ho.block r (fun e => h.own.ne hg hT (by rw [hr, e])))
theorem KS.grown {w w' : World} {B mb s m : Nat} {vm v : Value} {ps S : List Nat} (h : KS w B mb s m vm ps v S) {row : Option Nat} (hr : ∀ g, row = some g → B ≤ g ∧ ∃ T cs, Row w g T cs ∧ T ≠ 91) (hg : w.grownBy w' row) : KS w' B mb s m vm ps v S :=
  h.frame hg.size (fun k hk => hg.block k (Nat.lt_of_lt_of_le hk h.BB) (fun e => by have := (hr k e.symm).1; omega)) (fun r hr' => hg.block r (h.own.rowOf hr').2.1 (fun e => by
    obtain ⟨_, T, cs, h1, h2⟩ := hr r e.symm
    exact h.own.ne h1 h2 hr'.symm))
theorem KS.turn {w w' : World} {B mb s m : Nat} {vm v v' : Value} {ps S S' : List Nat} (h : KS w B mb s m vm ps v S) (h1 : Row w' s 196 [v', .map (some m)]) (h2 : OwnK w' B v' S') (h3 : KF s v.ownBlock w w') (h4 : ∀ p ∈ S', p ∈ ps) (h5 : S'.length ≤ 900) : KS w' B mb s m vm ps v' S' := by
  have hlow : ∀ k, k < B → k ≠ s → w'.heap[k]? = w.heap[k]? := fun k hk hs => h3.block k (Nat.lt_of_lt_of_le hk h.BB) hs (fun e => by have := (h.own.rowOf e.symm).1; omega)
  have hms : m ≠ s := fun e => by
    have a := h.map; have b := h.set
    subst e
    unfold MapAt at a; unfold Row at b
    rw [a] at b; cases b
  refine ⟨h1, h2, ?_, h.mbx.same (hlow mb h.mbB (fun e => ?_)), h.made.same (fun r hr => hlow r (h.madeB r hr) (fun e => ?_)), h.madeB, fun j hj => (h.keys j hj).same (fun k hk ht => hlow k hk (fun e => ?_)), h4, h5, h.plen, h.sB, h.mbB, h.mB, Nat.le_trans h.BB h3.size⟩
  · have := h.map; unfold MapAt at this ⊢; rw [hlow m h.mB hms]; exact this
  · have a := h.mbx; rw [e] at a; exact absurd (a.type h.set) (by decide)
  · obtain ⟨_, _, cur, a⟩ := h.made.rowOf hr; rw [e] at a; exact absurd (a.type h.set) (by decide)
  · obtain ⟨T, cs, a, b⟩ := ht
    rw [e] at a
    have := a.type h.set
    rcases b with b | b <;> (rw [b] at this; exact absurd this (by decide))

theorem KS.keyRow {w : World} {B mb s m : Nat} {vm v : Value} {ps S : List Nat} (h : KS w B mb s m vm ps v S) {p : Nat} (hp : p ∈ ps) : ∃ cs, Row w p 194 cs := by
  obtain ⟨j, hj, rfl⟩ := List.getElem_of_mem hp
  exact (h.keys j hj).row
theorem KS.kysS {w : World} {B mb s m : Nat} {vm v : Value} {ps S : List Nat} (h : KS w B mb s m vm ps v S) : Kys w v S := h.own.kys (fun p hp => h.keyRow (h.sub p hp))
theorem KS.kysM {w : World} {B mb s m : Nat} {vm v : Value} {ps S : List Nat} (h : KS w B mb s m vm ps v S) : Kys w vm ps := h.made.kys (fun p hp => h.keyRow hp)

/-- What a test of an error against nil gives. -/
def NilT (x : Value) : Prop := ∃ b, (∀ wx : World, (binOp .eql 76 x .nilIface).run Tryz.prog wx = .ok (.bool b) wx) ∧ ∀ (n : Nat) (wx : World), (eqGuard .eql 76 (.tmp n) (.const .nilIface) x .nilIface).run Tryz.prog wx = .ok () wx
theorem nilT {x : Value} (h : x = .nilIface ∨ ∃ k, x = .iface 215 (.pointer (some ⟨k, 0, none⟩))) : NilT x := by
  rcases h with rfl | ⟨k, rfl⟩
  · exact ⟨true, fun wx => by kernel_rfl, fun n wx => by kernel_rfl⟩
  · exact ⟨false, fun wx => by kernel_rfl, fun n wx => by kernel_rfl⟩

theorem addK_len (q : Nat) (S : List Nat) : (addK q S).length ≤ S.length + 1 := by unfold addK; split <;> simp
theorem KS.add {w : World} {B mb s m : Nat} {vm v : Value} {ps S : List Nat} (h : KS w B mb s m vm ps v S) (q : Nat) (hq : q ∈ ps) (hl : S.length ≤ 800) :
    Calls Tryz.prog 233 #[.pointer (some ⟨s, 0, none⟩), kv q] w fun e w' => ∃ x v', e = .returned x ∧ NilT x ∧ KS w' B mb s m vm ps v' (addK q S) ∧ KF s v.ownBlock w w' := by
  refine (addKey s B v (.map (some m)) S q h.len w h.set h.own h.sB h.BB (fun p hp => h.keyRow (h.sub p hp)) (h.keyRow hq)).mono ?_
  rintro e w' ⟨x, v', rfl, h1, h2, h3, h4, h5⟩
  refine ⟨x, v', rfl, nilT h1, h.turn h2 h3 h4 (fun p hp => ?_) (by have := addK_len q S; omega), h4⟩
  unfold addK at hp
  split at hp
  · exact h.sub p hp
  · rcases List.mem_append.1 hp with hp | hp
    · exact h.sub p hp
    · simp at hp; subst hp; exact hq
theorem KS.remove {w : World} {B mb s m : Nat} {vm v : Value} {ps S : List Nat} (h : KS w B mb s m vm ps v S) (q : Nat) (hq : q ∈ ps) :
    Calls Tryz.prog 243 #[.pointer (some ⟨s, 0, none⟩), kv q] w fun e w' => ∃ x v', e = .returned x ∧ NilT x ∧ KS w' B mb s m vm ps v' (S.erase q) ∧ KF s v.ownBlock w w' := by
  refine (removeKey s B v (.map (some m)) S q h.len w h.set h.own h.sB h.BB (fun p hp => h.keyRow (h.sub p hp)) (h.keyRow hq)).mono ?_
  rintro e w' ⟨x, v', rfl, h1, h2, h3, h4, h5⟩
  exact ⟨x, v', rfl, nilT h1, h.turn h2 h3 h4 (fun p hp => h.sub p (List.mem_of_mem_erase hp)) (by have := List.length_erase_le (a := q) (l := S); have := h.len; omega), h4⟩
theorem KS.setLen {w : World} {B mb s m : Nat} {vm v : Value} {ps S : List Nat} (h : KS w B mb s m vm ps v S) :
    Calls Tryz.prog 240 #[.pointer (some ⟨s, 0, none⟩)] w fun e w' => e = .returned (.int .i64 S.length) ∧ w' = w :=
  YtaemdppihpefnaaGreatDoor.setLen s v S w (by rw [h.set.cell]; rfl) h.kysS
theorem KS.setKey {w : World} {B mb s m : Nat} {vm v : Value} {ps S : List Nat} (h : KS w B mb s m vm ps v S) (i : Nat) (hi : i < S.length) :
    Calls Tryz.prog 238 #[.pointer (some ⟨s, 0, none⟩), .int .i64 i] w fun e w' => e = .returned (.tuple #[kv S[i], .bool true]) ∧ w' = w :=
  YtaemdppihpefnaaGreatDoor.setKey s v S i hi w (by rw [h.set.cell]; rfl) h.kysS
theorem KS.setKeys {w : World} {B mb s m : Nat} {vm v : Value} {ps S : List Nat} (h : KS w B mb s m vm ps v S) :
    Calls Tryz.prog 239 #[.pointer (some ⟨s, 0, none⟩)] w fun e w' => (∃ g, e = .returned (.slice (some ⟨g, 0, none⟩) 0 0)) ∧ Below w.heap.size w w' :=
  YtaemdppihpefnaaGreatDoor.setKeys s m v w (by rw [h.set.cell]; rfl) h.map
theorem KS.at {w : World} {B mb s m : Nat} {vm v : Value} {ps S : List Nat} (h : KS w B mb s m vm ps v S) (q : Nat) (hq : q ∈ ps) :
    Calls Tryz.prog 38 #[kv q, .pointer (some ⟨mb, 0, none⟩)] w fun e w' => e = .returned (.int .i64 (at? q ps)) ∧ w' = w :=
  atC mb vm ps q (by have := h.plen; omega) w (by rw [h.mbx.cell]; rfl) h.kysM (h.keyRow hq)

/-- The name of a key by its place among those made. -/
def idOf (ps : List Nat) (p : Nat) : List Int := idL (ps.idxOf p)
theorem KS.lookup {w : World} {B mb s m : Nat} {vm v : Value} {ps S : List Nat} (h : KS w B mb s m vm ps v S) (hn : ps.Nodup) (h6 : ps.length ≤ 6) (kid : List Int) (hK : Byt kid) :
    Calls Tryz.prog 241 #[.pointer (some ⟨s, 0, none⟩), .string (strOfNums kid)] w fun e w' => e = .returned (found (S.find? fun p => decide (idOf ps p = kid))) ∧ w' = w := by
  refine YtaemdppihpefnaaGreatDoor.lookup s v S (idOf ps) kid (by have := h.len; omega) (fun p hp => idL_byt (Nat.lt_of_lt_of_le (List.idxOf_lt_length_of_mem (h.sub p hp)) h6)) hK w (by rw [h.set.cell]; rfl) h.kysS (fun p hp => ?_)
  obtain ⟨j, hj, rfl⟩ := List.getElem_of_mem (h.sub p hp)
  unfold idOf
  rw [hn.idxOf_getElem j hj]
  exact (h.keys j hj).at
end Go.Proofs.YtaemdppihpefnaaGreatDoor

/- KeyRun's loops: what they keep. -/
namespace Go.Proofs.YtaemdppihpefnaaGreatDoor
open Go.RowKit
set_option linter.unusedVariables false

def octL (i : Nat) : List Int := [(i : Int), 77, (i : Int), 5, 9]
/-- Six keys' data lie in block kg. -/
def KD (w : World) (kg : Nat) : Prop := ∀ i, i < 6 → ∃ v, w.cell? ⟨kg, i * 3, none⟩ = some v ∧ Bs w v (octL i) ∧ w.cell? ⟨kg, i * 3 + 1, none⟩ = some (.bool true) ∧ w.cell? ⟨kg, i * 3 + 2, none⟩ = some (.string (strOfNums (idL i)))
theorem KD.below {w w' : World} {kg : Nat} (h : KD w kg) (hb : Below w.heap.size w w') : KD w' kg := fun i hi => by
  obtain ⟨v, h1, h2, h3, h4⟩ := h i hi
  have cl : ∀ j x, w.cell? ⟨kg, j, none⟩ = some x → w'.cell? ⟨kg, j, none⟩ = some x := fun j x hx => by rw [hb.cell (p := ⟨kg, j, none⟩) (World.block_lt_of_cell? w _ hx)]; exact hx
  exact ⟨v, cl _ _ h1, h2.below hb, cl _ _ h3, cl _ _ h4⟩

/-- Steps: the kind, the key, the name. -/
abbrev Steps := List (Nat × Nat × List Int)
def SD (w : World) (sg : Nat) (L : Steps) : Prop := ∀ i (h : i < L.length), w.cell? ⟨sg, i * 5, none⟩ = some (.int .i64 (L[i].1 : Int)) ∧ w.cell? ⟨sg, i * 5 + 1, none⟩ = some (.int .i64 (L[i].2.1 : Int)) ∧ w.cell? ⟨sg, i * 5 + 2, none⟩ = some (.int .i64 0) ∧ w.cell? ⟨sg, i * 5 + 3, none⟩ = some (.string (strOfNums L[i].2.2)) ∧ w.cell? ⟨sg, i * 5 + 4, none⟩ = some (.string (⟨#[]⟩ : ByteArray))
theorem SD.below {w w' : World} {sg : Nat} {L : Steps} (h : SD w sg L) (hb : Below w.heap.size w w') : SD w' sg L := fun i hi => by
  obtain ⟨h1, h2, h3, h4, h5⟩ := h i hi
  have cl : ∀ j x, w.cell? ⟨sg, j, none⟩ = some x → w'.cell? ⟨sg, j, none⟩ = some x := fun j x hx => by rw [hb.cell (p := ⟨sg, j, none⟩) (World.block_lt_of_cell? w _ hx)]; exact hx
  exact ⟨cl _ _ h1, cl _ _ h2, cl _ _ h3, cl _ _ h4, cl _ _ h5⟩

def stepP (ps : List Nat) (S : List Nat) (x : Nat × Nat × List Int) : List Nat := if x.1 = 0 then addK (ps.getD x.2.1 0) S else if x.1 = 1 then S.erase (ps.getD x.2.1 0) else S
/-- The set behind some steps. -/
def setP (ps : List Nat) (L : Steps) : List Nat := L.foldl (stepP ps) []
theorem setP_snoc (ps : List Nat) (L : Steps) (x : Nat × Nat × List Int) : setP ps (L ++ [x]) = stepP ps (setP ps L) x := by simp [setP, List.foldl_append]
theorem setP_len (ps : List Nat) : ∀ (L : Steps) (S : List Nat), (L.foldl (stepP ps) S).length ≤ S.length + L.length
  | [], S => by simp
  | x :: L, S => by
    have h := setP_len ps L (stepP ps S x)
    have : (stepP ps S x).length ≤ S.length + 1 := by
      unfold stepP
      split
      · exact addK_len _ _
      · split
        · have := List.length_erase_le (a := ps.getD x.2.1 0) (l := S); omega
        · omega
    simp only [List.foldl_cons, List.length_cons]; omega

/-- The first loop: k keys made. -/
def R1 (w0 : World) (mb : Nat) (wr : World) (k : Nat) : Prop :=
  ∃ v ps, ps.length = k ∧ ps.Nodup ∧ (∀ p ∈ ps, p < wr.heap.size) ∧ Row wr mb 84 [v] ∧ OwnK wr (mb + 1) v ps ∧ (∀ j (h : j < ps.length), KeyAtB wr wr.heap.size ps[j] (idL j)) ∧ Below w0.heap.size w0 wr

theorem run_oct (W : World) (v : Value) (xs : List Int) (h : Bs W v xs) (hl : xs.length ≤ 1000) :
    ∃ v' w', (∀ ty, (Builtin.append_ #[22, 22] ty #[.slice (some ⟨W.heap.size, 0, none⟩) 0 0, v]).run Tryz.prog (W.alloc (.cells #[] 5)) = .ok v' w') ∧ Bs w' v' xs ∧ Below W.heap.size W w' := by
  have hb : Below W.heap.size W (W.alloc (.cells #[] 5)) := (Below.refl _ _).alloc (Nat.le_refl _) _
  obtain ⟨v', w', h1, h2, h3⟩ := run_appendG (P := Tryz.prog) (w := W.alloc (.cells #[] 5)) 22 0 W.heap.size 5 Tryz.underlying22 (by kernel_rfl) (.slice (some ⟨W.heap.size, 0, none⟩) 0 0) 0 [] (World.ownsRow_made W #[] 0 (Nat.le_refl _) (by decide) rfl) v xs (h.below hb) (by omega) hb.size
  refine ⟨v', w', fun ty => h1, ?_, hb.grown h3 hb.size (fun j hj => by cases hj; exact Nat.le_refl _)⟩
  rw [Nat.zero_add, List.nil_append] at h2
  exact Bs.own h2

/-- A key's rows are kept where another key's box and the row of keys are turned. -/
theorem KeyAtB.later {w w' : World} {p : Nat} {id : List Int} (h : KeyAtB w w.heap.size p id) (hb : Below w.heap.size w w') : KeyAtB w' w'.heap.size p id :=
  (h.same (fun k hk _ => hb.block k hk)).mono hb.size

/-- A step's name, and what is found under it. -/
def stp (L : Steps) (j : Nat) : Nat × Nat × List Int := L.getD j (9, 0, [])
def lookAt (ps : List Nat) (L : Steps) (j : Nat) : Option Nat := (setP ps (L.take j)).find? (fun p => decide (idOf ps p = (stp L j).2.2))
def fndI (ps : List Nat) : Option Nat → Int
  | some p => at? p ps
  | none => -1
/-- What the look-ups have given. -/
def Fin_ (ps : List Nat) (L : Steps) (k : Nat) (xs : List Value) : Prop := ∀ j, j < k → (stp L j).1 = 4 → (xs[j * 6]? = some (.bool (lookAt ps L j).isSome) ∧ xs[j * 6 + 2]? = some (.int .i64 (fndI ps (lookAt ps L j)))) ∧ ∃ n p m c, xs[j * 6 + 1]? = some (.int .i64 (-1)) ∧ xs[j * 6 + 3]? = some (.int .i64 n) ∧ xs[j * 6 + 4]? = some (.slice p m c) ∧ xs[j * 6 + 5]? = some (.slice none 0 0)
/-- The second loop: k steps made. -/
def R2 (w0 : World) (B mb s m : Nat) (vm : Value) (ps : List Nat) (L : Steps) (vo : Value) (wr : World) (k : Nat) : Prop :=
  ∃ v xs, KS wr B mb s m vm ps v (setP ps (L.take k)) ∧ wr.ownsRow B 59 6 vo k xs ∧ Fin_ ps L k xs ∧ Below w0.heap.size w0 wr
/-- What a step leaves: the set turned, and what it gives in block sb. -/
def R3 (w0 : World) (B mb s m : Nat) (vm : Value) (ps : List Nat) (L : Steps) (vo : Value) (k sb : Nat) (xs : List Value) (wc : World) : Prop :=
  ∃ v okv fv, KS wc B mb s m vm ps v (setP ps (L.take (k + 1))) ∧ Row wc sb 59 [.bool okv, .int .i64 (-1), .int .i64 fv, .int .i64 0, .slice none 0 0, .slice none 0 0] ∧ ((stp L k).1 = 4 → okv = (lookAt ps L k).isSome ∧ fv = fndI ps (lookAt ps L k)) ∧ wc.ownsRow B 59 6 vo k xs ∧ Below w0.heap.size w0 wc
theorem setP_take {ps : List Nat} {L : Steps} {k : Nat} (h : k < L.length) : setP ps (L.take (k + 1)) = stepP ps (setP ps (L.take k)) (stp L k) := by
  rw [List.take_add_one, List.getElem?_eq_getElem h]
  simp only [Option.toList_some]
  rw [setP_snoc]
  simp [stp, List.getD, h]

theorem mSet (a : Addr) (w : World) : (method 508 146 (.pointer (some a)) "Set").run Tryz.prog w = .ok (61, .pointer (some a)) w := by kernel_rfl
theorem mAdd (a : Addr) (w : World) : (method 508 148 (.pointer (some a)) "AddKey").run Tryz.prog w = .ok (233, .pointer (some a)) w := by kernel_rfl
theorem nAdd (a : Addr) (w : World) : (nilAhead 508 148 (.pointer (some a)) "AddKey").run Tryz.prog w = .ok (some false) w := by kernel_rfl
theorem nRemove (a : Addr) (w : World) : (nilAhead 508 148 (.pointer (some a)) "RemoveKey").run Tryz.prog w = .ok (some false) w := by kernel_rfl
theorem mRemove (a : Addr) (w : World) : (method 508 148 (.pointer (some a)) "RemoveKey").run Tryz.prog w = .ok (243, .pointer (some a)) w := by kernel_rfl
theorem mLook (a : Addr) (w : World) : (method 508 148 (.pointer (some a)) "LookupKeyID").run Tryz.prog w = .ok (241, .pointer (some a)) w := by kernel_rfl
theorem mKeys (a : Addr) (w : World) : (method 508 148 (.pointer (some a)) "Keys").run Tryz.prog w = .ok (239, .pointer (some a)) w := by kernel_rfl
theorem mLen (a : Addr) (w : World) : (method 508 148 (.pointer (some a)) "Len").run Tryz.prog w = .ok (240, .pointer (some a)) w := by kernel_rfl
theorem mKey (a : Addr) (w : World) : (method 508 148 (.pointer (some a)) "Key").run Tryz.prog w = .ok (238, .pointer (some a)) w := by kernel_rfl

/-- One key more is made: what the first loop's relation wants of it. -/
theorem R1.more {w0 wr w4 W5 w6 w7 : World} {mb k p : Nat} {v v' : Value} {ps : List Nat} (hl : ps.length = k) (hn : ps.Nodup) (hpB : ∀ q ∈ ps, q < wr.heap.size) (hmb : Row wr mb 84 [v]) (how : OwnK wr (mb + 1) v ps) (hke : ∀ j (h : j < ps.length), KeyAtB wr wr.heap.size ps[j] (idL j)) (hB : Below w0.heap.size w0 wr) (hm0 : w0.heap.size ≤ mb)
    (b4 : Below wr.heap.size wr w4) (hp : wr.heap.size ≤ p) (hk4 : KeyAt w4 p (idL k)) (b5 : Below w4.heap.size w4 W5) (ho6 : OwnK w6 (mb + 1) v' (ps ++ [p])) (hg6 : W5.grownBy w6 v.ownBlock) (o7 : Only mb w6 w7) (hr7 : Row w7 mb 84 [v']) : R1 w0 mb w7 (k + 1) := by
  have hsz5 : wr.heap.size ≤ W5.heap.size := Nat.le_trans b4.size b5.size
  have b45 : Below wr.heap.size wr W5 := b4.trans (b5.mono b4.size)
  have hml := hmb.lt
  have ow5 : OwnK W5 (mb + 1) v ps := how.below b45
  have keep : ∀ j T cs, j < W5.heap.size → Row W5 j T cs → T = 194 ∨ T = 9 → w7.heap[j]? = W5.heap[j]? := fun j T cs hj hr ht => by
    have h1 : j ≠ mb := fun e => by
      have a := hmb.below b45 hml
      rw [e] at hr
      have := hr.type a
      rcases ht with ht | ht <;> (rw [ht] at this; exact absurd this (by decide))
    have h2 : some j ≠ v.ownBlock := ow5.ne hr (fun e => by rcases ht with ht | ht <;> (rw [ht] at e; exact absurd e (by decide)))
    rw [o7.block j h1, hg6.block j hj h2]
  have hsz7 : W5.heap.size ≤ w7.heap.size := by have := hg6.size; have := o7.size; omega
  refine ⟨v', ps ++ [p], by simp [hl], ?_, ?_, hr7, ho6.same (fun r hr => o7.block r (fun e => by have := (ho6.rowOf hr).1; omega)), ?_, ?_⟩
  · rw [List.nodup_append]
    exact ⟨hn, by simp, fun a ha b hb => by simp at hb; subst hb; have := hpB a ha; omega⟩
  · intro q hq
    rcases List.mem_append.1 hq with hq | hq
    · have := hpB q hq; omega
    · simp at hq; subst hq
      obtain ⟨kb, ov, m, h1, h2⟩ := hk4
      have := h1.lt; have := b5.size; omega
  · intro j hj
    by_cases hjk : j < ps.length
    · rw [List.getElem_append_left hjk]
      have h5 : KeyAtB W5 W5.heap.size ps[j] (idL j) := ((hke j hjk).same (fun i hi _ => b45.block i hi)).mono hsz5
      exact (h5.same (fun i hi ⟨T, cs, hr, ht⟩ => keep i T cs hi hr ht)).mono hsz7
    · have hjl : j = ps.length := by simp at hj; omega
      subst hjl
      rw [List.getElem_append_right (Nat.le_refl _)]
      simp only [Nat.sub_self, List.getElem_cons_zero]
      rw [hl]
      obtain ⟨kb, ov, m, h1, h2⟩ := hk4
      have h1' := h1.below b5 h1.lt
      have h2' := h2.below b5 h2.lt
      have h5 : KeyAtB W5 W5.heap.size p (idL k) := ⟨kb, ov, m, h1'.lt, h2'.lt, h1', h2'⟩
      exact (h5.same (fun i hi ⟨T, cs, hr, ht⟩ => keep i T cs hi hr ht)).mono hsz7
  · have b05 := hB.trans (b45.mono hB.size)
    refine ⟨o7.os.trans (hg6.os.trans b05.os), o7.tape.trans (hg6.tape.trans b05.tape), o7.output.trans (hg6.output.trans b05.output), by have := b05.size; omega, fun j hj => ?_⟩
    have hjs := b05.size
    rw [o7.block j (by omega), hg6.block j (by omega) (fun e => by have := (ow5.rowOf e.symm).1; omega), b05.block j hj]


theorem own_same {w w' : World} {B : Nat} {T : TypeId} {sz : Nat} {v : Value} {n : Nat} {xs : List Value} (h : w.ownsRow B T sz v n xs) (hs : ∀ r, v.ownBlock = some r → w'.heap[r]? = w.heap[r]?) : w'.ownsRow B T sz v n xs := by
  obtain ⟨h1, h2⟩ := h
  refine ⟨h1, ?_⟩
  rcases h2 with h2 | ⟨g, cap, cur, hv, hb, hg, r⟩
  · exact .inl h2
  · exact .inr ⟨g, cap, cur, hv, hb, by rw [hs g (by rw [hv]; rfl)]; exact hg, r⟩
theorem own_row {w : World} {B : Nat} {T : TypeId} {sz : Nat} {v : Value} {n : Nat} {xs : List Value} (h : w.ownsRow B T sz v n xs) {r : Nat} (hr : v.ownBlock = some r) : B ≤ r ∧ r < w.heap.size ∧ ∃ cs, Row w r T cs := by
  rcases h.2 with ⟨rfl, _⟩ | ⟨g, cap, cur, hv, hb, hg, _⟩
  · cases hr
  · rw [hv] at hr; cases hr
    have hrow : Row w g T cur.toList := by unfold Row; rw [hg]
    exact ⟨hb, hrow.lt, _, hrow⟩
theorem KF.undrew {s : Nat} {r : Option Nat} {w w' : World} (h : KF s r w.drew w') : KF s r w w' := ⟨h.os, h.tape, h.output, h.size, h.block⟩
theorem KF.belowOf {s b : Nat} {r : Option Nat} {w0 w w' : World} (h : KF s r w w') (hb : Below w0.heap.size w0 w) (hs : w0.heap.size ≤ s) (hr : ∀ k, r = some k → w0.heap.size ≤ k) : Below w0.heap.size w0 w' :=
  ⟨h.os.trans hb.os, h.tape.trans hb.tape, h.output.trans hb.output, Nat.le_trans hb.size h.size, fun k hk => (h.block k (Nat.lt_of_lt_of_le hk hb.size) (by omega) (fun e => by have := hr k e.symm; omega)).trans (hb.block k hk)⟩
theorem Only.belowOf {g : Nat} {w0 w w' : World} (h : Only g w w') (hb : Below w0.heap.size w0 w) (hg : w0.heap.size ≤ g) : Below w0.heap.size w0 w' :=
  ⟨h.os.trans hb.os, h.tape.trans hb.tape, h.output.trans hb.output, by have := hb.size; have := h.size; omega, fun k hk => (h.block k (by omega)).trans (hb.block k hk)⟩
theorem KS.elem {w : World} {B mb s m gm om n cm : Nat} {v : Value} {ps S : List Nat} (h : KS w B mb s m (.slice (some ⟨gm, om, none⟩) n cm) ps v S) (i : Nat) (hi : i < ps.length) : w.cell? ⟨gm, om + i, none⟩ = some (kv ps[i]) := by
  obtain ⟨a, c, he, hx, _⟩ := h.kysM
  obtain ⟨g, o, rfl, hc⟩ := hx (by omega)
  simp only [Value.slice.injEq, Option.some.injEq, Addr.mk.injEq, and_true] at he
  obtain ⟨⟨rfl, rfl⟩, _, _⟩ := he
  exact hc i hi

/-- What the loads of a step read. -/
def SQ (w : World) (mb tb gm oq : Nat) (vm : Value) (kq : Int) (pq : Nat) : Prop := w.cell? ⟨mb, 0, none⟩ = some vm ∧ w.cell? ⟨tb, 1, none⟩ = some (.int .i64 kq) ∧ w.cell? ⟨gm, oq, none⟩ = some (.iface 146 (.pointer (some ⟨pq, 0, none⟩)))
theorem KS.add2 {W1 : World} {B mb s m sb tb gm om n cm i : Nat} {kq : Int} {v : Value} {ps S : List Nat} {cs ts : List Value} (h : KS W1 B mb s m (.slice (some ⟨gm, om, none⟩) n cm) ps v S) (hi : i < ps.length) (hl : S.length ≤ 800) (hrx : Row W1 sb 59 (.bool true :: cs)) (hsb : B ≤ sb) (hts : Row W1 tb 45 ts) (htb : B ≤ tb) (ht1 : ts[1]? = some (.int .i64 kq)) :
    Calls Tryz.prog 233 #[.pointer (some ⟨s, 0, none⟩), kv ps[i]] W1.drew fun e w2 => ∃ x v' b, e = .returned x ∧ (∀ wx : World, (binOp .eql 76 x .nilIface).run Tryz.prog wx = .ok (.bool b) wx) ∧ (∀ (n : Nat) (wx : World), (eqGuard .eql 76 (.tmp n) (.const .nilIface) x .nilIface).run Tryz.prog wx = .ok () wx) ∧ Hid (KS w2 B mb s m (.slice (some ⟨gm, om, none⟩) n cm) ps v' (addK ps[i] S)) ∧ Hid (KF s v.ownBlock W1 w2) ∧ w2.cell? ⟨sb, 0, none⟩ = some (.bool true) ∧ w2.frozen? ⟨sb, 0, none⟩ = false ∧ Hid (Row w2 sb 59 (.bool true :: cs)) ∧ Hid (SQ w2 mb tb gm (om + i) (.slice (some ⟨gm, om, none⟩) n cm) kq ps[i]) ∧ Hid (∀ u, SQ (w2.setCell ⟨sb, 0, none⟩ u) mb tb gm (om + i) (.slice (some ⟨gm, om, none⟩) n cm) kq ps[i]) := by
  have hq : ps[i] ∈ ps := List.getElem_mem hi
  refine (h.drew.add ps[i] hq hl).mono ?_
  rintro e w2 ⟨x, v', rfl, ⟨b, hb, hb2⟩, hks2, hkf⟩
  have hr := hkf.undrew.row hrx (by have := h.sB; omega) (h.own.ne hrx (by decide))
  have ht := hkf.undrew.row hts (by have := h.sB; omega) (h.own.ne hts (by decide))
  have htsb : tb ≠ sb := fun e => by rw [e] at hts; exact absurd (hts.type hrx) (by decide)
  have hsq : ∀ {wy : World}, KS wy B mb s m (.slice (some ⟨gm, om, none⟩) n cm) ps v' (addK ps[i] S) → Row wy tb 45 ts → SQ wy mb tb gm (om + i) (.slice (some ⟨gm, om, none⟩) n cm) kq ps[i] := fun hk hr => ⟨by rw [hk.mbx.cell]; rfl, by rw [hr.cell]; exact ht1, hk.elem i hi⟩
  exact ⟨x, v', b, rfl, hb, hb2, Lib.hid hks2, Lib.hid hkf.undrew, by rw [hr.cell]; rfl, hr.unfrozen 0, Lib.hid hr, Lib.hid (hsq hks2 ht), Lib.hid (fun u => hsq (hks2.only hr (by decide) hsb (Only.set _ _ _ _)) (ht.only (Only.set _ _ _ _) htsb))⟩
theorem KS.remove2 {W1 : World} {B mb s m sb tb gm om n cm i : Nat} {kq : Int} {v : Value} {ps S : List Nat} {cs ts : List Value} (h : KS W1 B mb s m (.slice (some ⟨gm, om, none⟩) n cm) ps v S) (hi : i < ps.length) (hrx : Row W1 sb 59 (.bool true :: cs)) (hsb : B ≤ sb) (hts : Row W1 tb 45 ts) (htb : B ≤ tb) (ht1 : ts[1]? = some (.int .i64 kq)) :
    Calls Tryz.prog 243 #[.pointer (some ⟨s, 0, none⟩), kv ps[i]] W1.drew fun e w2 => ∃ x v' b, e = .returned x ∧ (∀ wx : World, (binOp .eql 76 x .nilIface).run Tryz.prog wx = .ok (.bool b) wx) ∧ (∀ (n : Nat) (wx : World), (eqGuard .eql 76 (.tmp n) (.const .nilIface) x .nilIface).run Tryz.prog wx = .ok () wx) ∧ Hid (KS w2 B mb s m (.slice (some ⟨gm, om, none⟩) n cm) ps v' (S.erase ps[i])) ∧ Hid (KF s v.ownBlock W1 w2) ∧ w2.cell? ⟨sb, 0, none⟩ = some (.bool true) ∧ w2.frozen? ⟨sb, 0, none⟩ = false ∧ Hid (Row w2 sb 59 (.bool true :: cs)) ∧ Hid (SQ w2 mb tb gm (om + i) (.slice (some ⟨gm, om, none⟩) n cm) kq ps[i]) ∧ Hid (∀ u, SQ (w2.setCell ⟨sb, 0, none⟩ u) mb tb gm (om + i) (.slice (some ⟨gm, om, none⟩) n cm) kq ps[i]) := by
  have hq : ps[i] ∈ ps := List.getElem_mem hi
  refine (h.drew.remove ps[i] hq).mono ?_
  rintro e w2 ⟨x, v', rfl, ⟨b, hb, hb2⟩, hks2, hkf⟩
  have hr := hkf.undrew.row hrx (by have := h.sB; omega) (h.own.ne hrx (by decide))
  have ht := hkf.undrew.row hts (by have := h.sB; omega) (h.own.ne hts (by decide))
  have htsb : tb ≠ sb := fun e => by rw [e] at hts; exact absurd (hts.type hrx) (by decide)
  have hsq : ∀ {wy : World}, KS wy B mb s m (.slice (some ⟨gm, om, none⟩) n cm) ps v' (S.erase ps[i]) → Row wy tb 45 ts → SQ wy mb tb gm (om + i) (.slice (some ⟨gm, om, none⟩) n cm) kq ps[i] := fun hk hr => ⟨by rw [hk.mbx.cell]; rfl, by rw [hr.cell]; exact ht1, hk.elem i hi⟩
  exact ⟨x, v', b, rfl, hb, hb2, Lib.hid hks2, Lib.hid hkf.undrew, by rw [hr.cell]; rfl, hr.unfrozen 0, Lib.hid hr, Lib.hid (hsq hks2 ht), Lib.hid (fun u => hsq (hks2.only hr (by decide) hsb (Only.set _ _ _ _)) (ht.only (Only.set _ _ _ _) htsb))⟩
/-- A step that turns the set, or nothing, and then writes what it gives. -/
theorem R3.of {w0 W1 w2 w3 : World} {B mb s m k sb : Nat} {vm v v' vo : Value} {ps S S' : List Nat} {L : Steps} {xs cs : List Value} {okv : Bool} {fv : Int}
    (hks1 : KS W1 B mb s m vm ps v S) (hxo : W1.ownsRow B 59 6 vo k xs) (hB : Below w0.heap.size w0 W1) (hxl : ∀ r, vo.ownBlock = some r → r < sb) (h0s : w0.heap.size ≤ s) (h0B : w0.heap.size ≤ B) (hsb : B ≤ sb)
    (hrx : Row W1 sb 59 cs) (hkf : KF s v.ownBlock W1 w2) (hks2 : KS w2 B mb s m vm ps v' S') (hS : setP ps (L.take (k + 1)) = S') (ho : Only sb w2 w3)
    (hr3 : Row w3 sb 59 [.bool okv, .int .i64 (-1), .int .i64 fv, .int .i64 0, .slice none 0 0, .slice none 0 0]) (h4 : (stp L k).1 = 4 → okv = (lookAt ps L k).isSome ∧ fv = fndI ps (lookAt ps L k)) :
    R3 w0 B mb s m vm ps L vo k sb xs w3 := by
  have hsbs : sb ≠ s := by have := hks1.sB; omega
  have hsbv : some sb ≠ v.ownBlock := hks1.own.ne hrx (by decide)
  have hrx2 : Row w2 sb 59 cs := hkf.row hrx hsbs hsbv
  refine ⟨v', okv, fv, ?_, hr3, h4, ?_, ?_⟩
  · rw [hS]; exact hks2.only hrx2 (by decide) hsb ho
  · refine own_same hxo (fun r hr => ?_)
    obtain ⟨h1, h2, c, hr'⟩ := own_row hxo hr
    have := hxl r hr
    rw [ho.block r (by omega), hkf.block r h2 (fun e => by have := hks1.sB; omega) (hks1.own.ne hr' (by decide))]
  · exact ho.belowOf (hkf.belowOf (b := 0) hB h0s (fun r hr => by have := (hks1.own.rowOf hr).1; omega)) (by omega)

/-- The inner loop: j of the set's keys told. -/
def R4 (w0 : World) (B mb s m : Nat) (vm : Value) (ps : List Nat) (vo : Value) (k sb : Nat) (xs : List Value) (v : Value) (S : List Nat) (okv : Bool) (fv : Int) (wr : World) (j : Nat) : Prop :=
  ∃ va ys, KS wr B mb s m vm ps v S ∧ Row wr sb 59 [.bool okv, .int .i64 (-1), .int .i64 fv, .int .i64 S.length, va, .slice none 0 0] ∧ wr.ownsRow B 3 1 va j ys ∧ wr.ownsRow B 59 6 vo k xs ∧ Below w0.heap.size w0 wr
theorem R4.more {w0 wr W5 w6 w7 : World} {B mb s m k sb j : Nat} {vm v vo va va' : Value} {ps S : List Nat} {xs ys ys' : List Value} {okv : Bool} {fv : Int}
    (hks : KS wr B mb s m vm ps v S) (hrow : Row wr sb 59 [.bool okv, .int .i64 (-1), .int .i64 fv, .int .i64 S.length, va, .slice none 0 0]) (hva : wr.ownsRow B 3 1 va j ys) (hxo : wr.ownsRow B 59 6 vo k xs) (hB : Below w0.heap.size w0 wr)
    (hxl : ∀ r, vo.ownBlock = some r → r < sb) (h0B : w0.heap.size ≤ B) (hsb : B ≤ sb) (b5 : Below wr.heap.size wr W5) (ho6 : w6.ownsRow B 3 1 va' (j + 1) ys') (hg6 : W5.grownBy w6 va.ownBlock) (o7 : Only sb w6 w7) (hr7 : Row w7 sb 59 [.bool okv, .int .i64 (-1), .int .i64 fv, .int .i64 S.length, va', .slice none 0 0]) :
    R4 w0 B mb s m vm ps vo k sb xs v S okv fv w7 (j + 1) := by
  have hva5 := own_below hva b5
  have hks6 : KS w6 B mb s m vm ps v S := (hks.below b5).grown (fun g hg => by
    obtain ⟨h1, _, cs, h3⟩ := own_row hva5 hg
    exact ⟨h1, _, cs, h3, by decide⟩) hg6
  have hrow5 := hrow.below b5 hrow.lt
  have hsbva : some sb ≠ va.ownBlock := fun e => by
    obtain ⟨_, _, cs, h3⟩ := own_row hva5 e.symm
    exact absurd (hrow5.type h3) (by decide)
  have hrow6 := Row.grown hrow5 hg6 hsbva
  have hxo5 := own_below hxo b5
  refine ⟨va', ys', hks6.only hrow6 (by decide) hsb o7, hr7, own_same ho6 (fun r hr => ?_), own_same hxo5 (fun r hr => ?_), ?_⟩
  · obtain ⟨_, _, cs, h3⟩ := own_row ho6 hr
    exact o7.block r (fun e => by rw [e] at h3; exact absurd (hrow6.type h3) (by decide))
  · obtain ⟨h1, h2, cs, h3⟩ := own_row hxo5 hr
    have := hxl r hr
    rw [o7.block r (by omega), hg6.block r h2 (fun e => by
      obtain ⟨_, _, cs', h3'⟩ := own_row hva5 e.symm
      exact absurd (h3.type h3') (by decide))]
  · have hb5 := hB.trans (b5.mono hB.size)
    have hb6 := hb5.grown hg6 hb5.size (fun r hr => by have := (own_row hva5 hr).1; omega)
    exact o7.belowOf hb6 (by omega)
/-- A step more. -/
theorem R2.more {w0 wr W5 w6 : World} {B mb s m k : Nat} {vm v vo vo' : Value} {ps S : List Nat} {L : Steps} {xs : List Value} {okv : Bool} {fv n : Int} {pa : Option Addr} {ma ca : Nat}
    (hks : KS wr B mb s m vm ps v S) (hS : setP ps (L.take (k + 1)) = S) (hxo : wr.ownsRow B 59 6 vo k xs) (hfin : Fin_ ps L k xs) (hB : Below w0.heap.size w0 wr) (h0B : w0.heap.size ≤ B) (h4 : (stp L k).1 = 4 → okv = (lookAt ps L k).isSome ∧ fv = fndI ps (lookAt ps L k))
    (b5 : Below wr.heap.size wr W5) (ho6 : w6.ownsRow B 59 6 vo' (k + 1) (xs ++ [.bool okv, .int .i64 (-1), .int .i64 fv, .int .i64 n, .slice pa ma ca, .slice none 0 0])) (hg6 : W5.grownBy w6 vo.ownBlock) : R2 w0 B mb s m vm ps L vo' w6 (k + 1) := by
  have hxo5 := own_below hxo b5
  refine ⟨v, _, ?_, ho6, fun j hj hk4 => ?_, ?_⟩
  · rw [hS]
    exact (hks.below b5).grown (fun g hg => by
      obtain ⟨h1, _, cs, h3⟩ := own_row hxo5 hg
      exact ⟨h1, _, cs, h3, by decide⟩) hg6
  · have hl : xs.length = k * 6 := hxo.1
    by_cases hjk : j < k
    · obtain ⟨⟨h1, h2⟩, n', p', m', c', h3, h4, h5, h6⟩ := hfin j hjk hk4
      exact ⟨⟨by rw [List.getElem?_append_left (by omega)]; exact h1, by rw [List.getElem?_append_left (by omega)]; exact h2⟩, n', p', m', c', by rw [List.getElem?_append_left (by omega)]; exact h3, by rw [List.getElem?_append_left (by omega)]; exact h4, by rw [List.getElem?_append_left (by omega)]; exact h5, by rw [List.getElem?_append_left (by omega)]; exact h6⟩
    · obtain rfl : j = k := by omega
      obtain ⟨h1, h2⟩ := h4 hk4
      rw [← h1, ← h2]
      have e : ∀ i, (xs ++ [.bool okv, .int .i64 (-1), .int .i64 fv, .int .i64 n, .slice pa ma ca, .slice none 0 0])[j * 6 + i]? = ([.bool okv, .int .i64 (-1), .int .i64 fv, .int .i64 n, .slice pa ma ca, .slice none 0 0] : List Value)[i]? := fun i => by
        rw [List.getElem?_append_right (by omega), hl, Nat.add_sub_cancel_left]
      exact ⟨⟨e 0, e 2⟩, n, pa, ma, ca, e 1, e 3, e 4, e 5⟩
  · have hb5 := hB.trans (b5.mono hB.size)
    exact hb5.grown hg6 hb5.size (fun r hr => by have := (own_row hxo5 hr).1; omega)
end Go.Proofs.YtaemdppihpefnaaGreatDoor

/- A server's steps as those of a key set: what a look-up finds. -/
namespace Go.Proofs.YtaemdppihpefnaaGreatDoor
open Go.RowKit
set_option linter.unusedVariables false

/-- Steps of the set, without names. -/
def bare (l : List (Nat × Nat)) : Steps := l.map (fun x => (x.1, x.2, []))
theorem getD_inj {ps : List Nat} (hn : ps.Nodup) {i j : Nat} (hi : i < ps.length) (hj : j < ps.length) (h : ps.getD i 0 = ps.getD j 0) : i = j := by
  simp only [List.getD, List.getElem?_eq_getElem hi, List.getElem?_eq_getElem hj, Option.getD_some] at h
  rw [← hn.idxOf_getElem i hi, h, hn.idxOf_getElem j hj]
theorem mem_map_getD {ps : List Nat} (hn : ps.Nodup) {q : Nat} {S : List Nat} (hq : q < ps.length) (hS : ∀ y ∈ S, y < ps.length) : ps.getD q 0 ∈ S.map (fun i => ps.getD i 0) ↔ q ∈ S := by
  rw [List.mem_map]
  constructor
  · rintro ⟨y, hy, he⟩
    have := getD_inj hn (hS y hy) hq he
    exact this ▸ hy
  · intro h; exact ⟨q, h, rfl⟩
theorem addK_map {ps : List Nat} (hn : ps.Nodup) {q : Nat} {S : List Nat} (hq : q < ps.length) (hS : ∀ y ∈ S, y < ps.length) : addK (ps.getD q 0) (S.map (fun i => ps.getD i 0)) = (addN q S).map (fun i => ps.getD i 0) := by
  unfold addK addN
  by_cases h : q ∈ S
  · rw [if_pos h, if_pos ((mem_map_getD hn hq hS).2 h)]
  · rw [if_neg h, if_neg (fun hm => h ((mem_map_getD hn hq hS).1 hm))]; simp
theorem erase_map {ps : List Nat} (hn : ps.Nodup) {q : Nat} (hq : q < ps.length) : ∀ (S : List Nat), (∀ y ∈ S, y < ps.length) → (S.map (fun i => ps.getD i 0)).erase (ps.getD q 0) = (S.erase q).map (fun i => ps.getD i 0)
  | [], _ => rfl
  | y :: S, hS => by
    have hy := hS y (by simp)
    by_cases h : y = q
    · subst h; simp
    · have hne : ps.getD y 0 ≠ ps.getD q 0 := fun e => h (getD_inj hn hy hq e)
      rw [List.map_cons, List.erase_cons_tail (by simpa using hne), List.erase_cons_tail (by simpa using h), List.map_cons, erase_map hn hq S (fun z hz => hS z (by simp [hz]))]
theorem fold_map {ps : List Nat} (hn : ps.Nodup) : ∀ (l : List (Nat × Nat)) (S : List Nat), (∀ x ∈ l, x.2 < ps.length) → (∀ y ∈ S, y < ps.length) → (bare l).foldl (stepP ps) (S.map (fun i => ps.getD i 0)) = (l.foldl setStep S).map (fun i => ps.getD i 0)
  | [], S, _, _ => rfl
  | x :: l, S, hl, hS => by
    have hx := hl x (by simp)
    have h1 : stepP ps (S.map (fun i => ps.getD i 0)) (x.1, x.2, []) = (setStep S x).map (fun i => ps.getD i 0) := by
      unfold stepP setStep
      split
      · exact addK_map hn hx hS
      · split
        · exact erase_map hn hx S hS
        · rfl
    show (bare l).foldl (stepP ps) (stepP ps (S.map (fun i => ps.getD i 0)) (x.1, x.2, [])) = _
    rw [h1]
    exact fold_map hn l (setStep S x) (fun z hz => hl z (by simp [hz])) (setStep_lt hx hS)
theorem setP_bare {ps : List Nat} (hn : ps.Nodup) (l : List (Nat × Nat)) (hl : ∀ x ∈ l, x.2 < ps.length) : setP ps (bare l) = (setN l).map (fun i => ps.getD i 0) :=
  fold_map hn l [] hl (fun y h => by cases h)
theorem find_self (o : Nat) : ∀ (S : List Nat), S.find? (fun i => decide (i = o)) = if o ∈ S then some o else none
  | [] => rfl
  | y :: S => by
    rw [List.find?_cons]
    by_cases h : y = o
    · subst h; simp
    · rw [show decide (y = o) = false by simpa using h]
      simp only
      rw [find_self o S]
      have : o ≠ y := fun e => h e.symm
      simp [this]
/-- The steps, and a look-up of a key's name. -/
def asked (l : List (Nat × Nat)) (o : Nat) : Steps := bare l ++ [(4, 0, idL o)]
theorem asked_len (l : List (Nat × Nat)) (o : Nat) : (asked l o).length = l.length + 1 := by simp [asked, bare]
theorem asked_take (l : List (Nat × Nat)) (o : Nat) : (asked l o).take l.length = bare l := by
  rw [asked, List.take_left' (by simp [bare])]
theorem asked_last (l : List (Nat × Nat)) (o : Nat) : stp (asked l o) l.length = (4, 0, idL o) := by
  simp [stp, asked, List.getD, bare]
theorem find_map_eq {ps : List Nat} (hn : ps.Nodup) {o : Nat} (ho : o < ps.length) (S : List Nat) (hS : ∀ y ∈ S, y < ps.length) : (S.map (fun i => ps.getD i 0)).find? (fun p => decide (idOf ps p = idL o)) = if o ∈ S then some (ps.getD o 0) else none := by
  have hc : ∀ (T : List Nat), (∀ y ∈ T, y < ps.length) → (T.map (fun i => ps.getD i 0)).find? (fun p => decide (idOf ps p = idL o)) = (T.find? (fun i => decide (i = o))).map (fun i => ps.getD i 0) := by
    intro T
    induction T with
    | nil => intro _; rfl
    | cons y T ih =>
      intro hT
      have hy := hT y (by simp)
      have hid : idOf ps (ps.getD y 0) = idL y := by
        unfold idOf
        rw [show ps.getD y 0 = ps[y] by simp [List.getD, hy], hn.idxOf_getElem y hy]
      rw [List.map_cons, List.find?_cons, List.find?_cons, hid]
      by_cases h : y = o
      · subst h; simp
      · have : ¬ idL y = idL o := fun e => h (idL_inj e)
        rw [show decide (idL y = idL o) = false by simpa using this, show decide (y = o) = false by simpa using h]
        exact ih (fun z hz => hT z (by simp [hz]))
  rw [hc S hS, find_self]
  split <;> rfl
/-- What is found under a key's name: the key, if it is here. -/
theorem look_asked {ps : List Nat} (hn : ps.Nodup) (l : List (Nat × Nat)) (o : Nat) (hl : ∀ x ∈ l, x.2 < ps.length) (ho : o < ps.length) : lookAt ps (asked l o) l.length = if o ∈ setN l then some (ps.getD o 0) else none := by
  rw [lookAt, asked_take, asked_last, setP_bare hn l hl]
  exact find_map_eq hn ho _ (setN_lt _ l hl)
theorem fnd_asked {ps : List Nat} (hn : ps.Nodup) (l : List (Nat × Nat)) (o : Nat) (hl : ∀ x ∈ l, x.2 < ps.length) (ho : o < ps.length) (hin : o ∈ setN l) : fndI ps (lookAt ps (asked l o) l.length) = o := by
  rw [look_asked hn l o hl ho, if_pos hin]
  simp only [fndI, at?]
  have hm : ps.getD o 0 = ps[o] := by simp [List.getD, ho]
  rw [hm, if_pos (List.getElem_mem ho), hn.idxOf_getElem o ho]
end Go.Proofs.YtaemdppihpefnaaGreatDoor
