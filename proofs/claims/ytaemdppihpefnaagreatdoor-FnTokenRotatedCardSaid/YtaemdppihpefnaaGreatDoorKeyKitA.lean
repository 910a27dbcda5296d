/- jwk's keys and sets by their places: a key's ID, a set's Len, Key, Index, LookupKeyID; KeyRun's place of a key. -/
import Derived.Test.YtaemdppihpefnaaGreatDoorHeadKit
import Derived.Test.YtaemdppihpefnaaGreatDoorMdB
import Derived.LaidEqlPtr
import Derived.Test.YtaemdppihpefnaaGreatDoorHashKit
import Derived.ArgAppend
import Derived.Lib.AppendZeros
namespace Go.Proofs.YtaemdppihpefnaaGreatDoor
open Go.RowKit
set_option linter.unusedVariables false

/-- One pointer, twice behind an interface: they are one. -/
theorem run_eql_one {P : Program} {t T elem : TypeId} {i j : TypeInfo} (ht : ∃ ms, P.underlying t = some (.interface ms)) (hi : P.info? T = some i) (hc : i.comparable = true) (hT : P.underlying T = some (.pointer elem)) (hj : P.info? elem = some j) (a : Addr) (w : World) :
    (binOp .eql t (.iface T (.pointer (some a))) (.iface T (.pointer (some a)))).run P w = .ok (.bool true) w := by
  obtain ⟨ms, ht⟩ := ht
  have e1 : ∀ d : Nat, (Op.equalIn (d + 1) T (.pointer (some a)) (.pointer (some a))).run P w = .ok true w := fun d => by
    simp [Op.equalIn, run_underlying hT, sizeOf, typeInfo, hj, run_sameAddr_same]
  have e2 : ∀ d : Nat, (Op.equalIn (d + 1 + 1) t (.iface T (.pointer (some a))) (.iface T (.pointer (some a)))).run P w = .ok true w := fun d => by
    rw [Op.equalIn]
    simp [run_underlying ht, typeInfo, hi, hc, e1]
  simp only [binOp]
  simp [Op.equal, Op.maxDepth, e2 9998]

/-- A key behind its interface. -/
def kv (p : Nat) : Value := .iface 146 (.pointer (some ⟨p, 0, none⟩))
/-- A key that has an ID. -/
def KeyAt (w : World) (p : Nat) (id : List Int) : Prop :=
  ∃ kb ov m, Row w p 194 [.pointer none, .pointer (some ⟨kb, 0, none⟩), .pointer none, .pointer none, ov, .pointer none, .pointer none, .pointer none, .map (some m)] ∧ Row w kb 9 [.string (strOfNums id)]
theorem KeyAt.below {w w' : World} {p : Nat} {id : List Int} (h : KeyAt w p id) {B : Nat} (hb : Below B w w') (hp : p < B) (hk : ∀ kb u, w.cell? ⟨p, 1, none⟩ = some (.pointer (some ⟨kb, 0, none⟩)) → w.cell? ⟨kb, 0, none⟩ = some u → kb < B) : KeyAt w' p id := by
  obtain ⟨kb, ov, m, h1, h2⟩ := h
  exact ⟨kb, ov, m, h1.below hb hp, h2.below hb (hk kb _ (by rw [h1.cell]; rfl) (by rw [h2.cell]; rfl))⟩
theorem KeyAt.all {w w' : World} {p : Nat} {id : List Int} (h : KeyAt w p id) (hb : Below w.heap.size w w') : KeyAt w' p id := by
  obtain ⟨kb, ov, m, h1, h2⟩ := h
  exact ⟨kb, ov, m, h1.below hb h1.lt, h2.below hb h2.lt⟩
theorem KeyAt.row {w : World} {p : Nat} {id : List Int} (h : KeyAt w p id) : ∃ cs, Row w p 194 cs := by
  obtain ⟨kb, ov, m, h1, h2⟩ := h; exact ⟨_, h1⟩

theorem kv_eql (t : TypeId) (ht : ∃ ms, Tryz.prog.underlying t = some (.interface ms)) (p q : Nat) (w : World) (hp : ∃ cs, Row w p 194 cs) (hq : ∃ cs, Row w q 194 cs) :
    (binOp .eql t (.iface 146 (.pointer (some ⟨p, 0, none⟩))) (.iface 146 (.pointer (some ⟨q, 0, none⟩)))).run Tryz.prog w = .ok (.bool (decide (p = q))) w := by
  obtain ⟨i, hi, hc⟩ := Option.map_eq_some_iff.1 (show (Tryz.prog.info? 146).map (·.comparable) = some true by kernel_rfl)
  obtain ⟨j, hj, hz⟩ := Option.map_eq_some_iff.1 (show (Tryz.prog.info? 194).map (·.size) = some 9 by kernel_rfl)
  by_cases h : p = q
  · subst h
    rw [run_eql_one ht hi hc Tryz.underlying146 hj]; simp
  · obtain ⟨c1, h1⟩ := hp
    obtain ⟨c2, h2⟩ := hq
    rw [run_eql_two (ms := #[]) ht hi hc Tryz.underlying146 hj (by rw [hz]; decide) p q c1 c2 _ _ w h h1 h2]; simp [h]

set_option maxRecDepth 100000 in
set_option maxHeartbeats 1000000 in
theorem keyID (p : Nat) (id : List Int) (w : World) (h : KeyAt w p id) :
    Calls Tryz.prog 215 #[.pointer (some ⟨p, 0, none⟩)] w fun e w' => e = .returned (.tuple #[.string (strOfNums id), .bool true]) ∧ w' = w := by
  obtain ⟨kb, ov, m, h1, h2⟩ := h
  have c1 : w.cell? ⟨p, 1, none⟩ = some (.pointer (some ⟨kb, 0, none⟩)) := by rw [h1.cell]; rfl
  have c2 : w.cell? ⟨kb, 0, none⟩ = some (.string (strOfNums id)) := by rw [h2.cell]; rfl
  clear h1 h2
  go_enter Tryz.func215, Tryz.ntmps215
  go_wp2_with fail
  go_ret2
  exact ⟨rfl, rfl⟩

/-- The keys ps behind a slice. -/
def Kys (w : World) (v : Value) (ps : List Nat) : Prop :=
  ∃ a c, v = .slice a ps.length c ∧ (0 < ps.length → ∃ g o, a = some ⟨g, o, none⟩ ∧ ∀ i (h : i < ps.length), w.cell? ⟨g, o + i, none⟩ = some (kv ps[i])) ∧ ∀ p ∈ ps, ∃ cs, Row w p 194 cs

set_option maxRecDepth 100000 in
set_option maxHeartbeats 1000000 in
theorem setLen (s : Nat) (v : Value) (ps : List Nat) (w : World) (hs : w.cell? ⟨s, 0, none⟩ = some v) (h : Kys w v ps) :
    Calls Tryz.prog 240 #[.pointer (some ⟨s, 0, none⟩)] w fun e w' => e = .returned (.int .i64 ps.length) ∧ w' = w := by
  obtain ⟨a, c, rfl, _, _⟩ := h
  go_enter Tryz.func240, Tryz.ntmps240
  go_wp2_with fail
  go_ret
  exact ⟨rfl, rfl⟩

set_option maxRecDepth 100000 in
set_option maxHeartbeats 1000000 in
theorem setKey (s : Nat) (v : Value) (ps : List Nat) (i : Nat) (hi : i < ps.length) (w : World) (hs : w.cell? ⟨s, 0, none⟩ = some v) (h : Kys w v ps) :
    Calls Tryz.prog 238 #[.pointer (some ⟨s, 0, none⟩), .int .i64 i] w fun e w' => e = .returned (.tuple #[kv ps[i], .bool true]) ∧ w' = w := by
  obtain ⟨a, c, rfl, hx, _⟩ := h
  obtain ⟨g, o, rfl, hc⟩ := hx (by omega)
  have c0 := hc i hi
  have hiI : (i : Int) < ps.length := by omega
  have h0 : (0 : Int) ≤ i := by omega
  clear hx hc
  generalize ps[i] = q at *
  unfold kv at *
  go_enter Tryz.func238, Tryz.ntmps238
  go_wp2_with fail
  go_ret2
  exact ⟨rfl, rfl⟩

/-- The place of a key among some. -/
def at? (p : Nat) (ps : List Nat) : Int := if p ∈ ps then (ps.idxOf p : Nat) else -1

set_option maxRecDepth 100000 in
set_option maxHeartbeats 1000000 in
/-- The place of a key in a set. -/
theorem indexNL (s : Nat) (v : Value) (ps : List Nat) (q : Nat) (hL : ps.length ≤ 1000) (w : World) (hs : w.cell? ⟨s, 0, none⟩ = some v) (h : Kys w v ps) (hq : ∃ cs, Row w q 194 cs) :
    Calls Tryz.prog 245 #[.pointer (some ⟨s, 0, none⟩), kv q] w fun e w' => e = .returned (.int .i64 (at? q ps)) ∧ w' = w := by
  obtain ⟨a, c, rfl, hx, hr⟩ := h
  have HX := Lib.hid hx
  have HR := Lib.hid hr
  have HQ := Lib.hid hq
  clear hx hr hq
  unfold kv at *
  go_enter Tryz.func245, Tryz.ntmps245
  go_wp2_with fail
  go_loopw [12] (fun i wr => ∃ k : Nat, k ≤ ps.length ∧ i = .int .i64 k ∧ wr = w ∧ Hid (∀ j (h : j < ps.length), j < k → ps[j] ≠ q)) (fun i _ => ps.length - (intOf i).toNat)
  case atStart => exact ⟨0, by omega, rfl, rfl, Lib.hid (fun j _ h => absurd h (Nat.not_lt_zero _))⟩
  case round =>
    obtain ⟨k, hk, rfl, rfl, hn⟩ := hrel
    by_cases hkn : k < ps.length
    · obtain ⟨g, o, rfl, hc⟩ := HX.out (by omega)
      have c0 := hc k hkn
      have hki : (k : Int) < ps.length := by omega
      have he := kv_eql 91 ⟨_, Tryz.underlying91⟩ ps[k] q wr (HR.out _ (List.getElem_mem hkn)) HQ.out
      clear hc
      by_cases heq : ps[k] = q
      · rw [show decide (ps[k] = q) = true by simpa using heq] at he
        have HE := Lib.hid heq
        unfold kv at *
        generalize ps[k] = pk at he c0
        clear heq
        go_wp2_with fail
        go_ret
        refine ⟨?_, rfl⟩
        have hin : q ∈ ps := by rw [← HE.out]; exact List.getElem_mem hkn
        have hix : ps.idxOf q = k := by
          have hlt := List.idxOf_lt_length_of_mem hin
          have h2 := List.getElem_idxOf hlt
          rcases Nat.lt_trichotomy (ps.idxOf q) k with hlt2 | heq | hgt
          · exact absurd h2 (hn.out _ hlt hlt2)
          · exact heq
          · exfalso
            have := List.not_of_lt_findIdx (p := (· == q)) hgt
            simp [HE.out] at this
        simp [at?, hin, hix]
      · rw [show decide (ps[k] = q) = false by simpa using heq] at he
        have HE := Lib.hid heq
        unfold kv at *
        generalize ps[k] = pk at he c0
        clear heq
        go_wp2_with fail
        have hw : IntKind.i64.wrap ((k : Int) + 1) = ((k + 1 : Nat) : Int) := by rw [IntWalk.i64_in _ (by omega)]; omega
        refine ⟨⟨k + 1, by omega, by go_num, trivial, Lib.hid fun j h1 h2 => ?_⟩, by simp [intOf]; omega⟩
        by_cases hjk : j = k
        · subst hjk; exact HE.out
        · exact hn.out j h1 (by omega)
    · obtain rfl : k = ps.length := by omega
      go_wp2_with fail
      go_ret
      refine ⟨?_, rfl⟩
      have hni : q ∉ ps := fun hm => by
        obtain ⟨j, hj, he⟩ := List.getElem_of_mem hm
        exact hn.out j hj hj he
      simp [at?, hni]
end Go.Proofs.YtaemdppihpefnaaGreatDoor

/- jwk's set: LookupKeyID; KeyRun's place of a key. -/
namespace Go.Proofs.YtaemdppihpefnaaGreatDoor
open Go.RowKit
set_option linter.unusedVariables false

theorem mKeyID (a : Addr) (w : World) : (method 508 146 (.pointer (some a)) "KeyID").run Tryz.prog w = .ok (215, .pointer (some a)) w := by kernel_rfl
theorem eKeyID (args : Array Value) (w : World) : (callFunc 215 args).run Tryz.prog w = .ok (.enter 215 args) w :=
  enter_of Tryz.func215 (by kernel_rfl) rfl args w

/-- What LookupKeyID gives. -/
def found (o : Option Nat) : Value := match o with
  | some p => .tuple #[kv p, .bool true]
  | none => .tuple #[.nilIface, .bool false]

set_option maxRecDepth 100000 in
set_option maxHeartbeats 1000000 in
theorem lookup (s : Nat) (v : Value) (ps : List Nat) (ids : Nat → List Int) (kid : List Int) (hL : ps.length ≤ 1000) (hB : ∀ p ∈ ps, Byt (ids p)) (hK : Byt kid) (w : World) (hs : w.cell? ⟨s, 0, none⟩ = some v) (h : Kys w v ps) (hk : ∀ p ∈ ps, KeyAt w p (ids p)) :
    Calls Tryz.prog 241 #[.pointer (some ⟨s, 0, none⟩), .string (strOfNums kid)] w fun e w' => e = .returned (found (ps.find? fun p => decide (ids p = kid))) ∧ w' = w := by
  obtain ⟨a, c, rfl, hx, _⟩ := h
  have HX := Lib.hid hx
  have HK := Lib.hid hk
  have HB := Lib.hid hB
  have HKB := Lib.hid hK
  clear hx hk hB hK
  go_enter Tryz.func241, Tryz.ntmps241
  go_wp2_with fail
  go_loopw [15] (fun i wr => ∃ k : Nat, k ≤ ps.length ∧ i = .int .i64 k ∧ wr = w ∧ Hid (ps.find? (fun p => decide (ids p = kid)) = (ps.drop k).find? (fun p => decide (ids p = kid)))) (fun i _ => ps.length - (intOf i).toNat)
  case atStart => exact ⟨0, by omega, rfl, rfl, Lib.hid (by simp)⟩
  case round =>
    obtain ⟨k, hk, rfl, rfl, hn⟩ := hrel
    by_cases hkn : k < ps.length
    · obtain ⟨g, o, rfl, hc⟩ := HX.out (by omega)
      have c0 := hc k hkn
      have hki : (k : Int) < ps.length := by omega
      have hm := List.getElem_mem hkn
      have G := Lib.hid (keyID ps[k] (ids ps[k]) wr (HK.out _ hm))
      have hsb := str_beq (ids ps[k]) kid (HB.out _ hm) HKB.out
      have hd : ps.drop k = ps[k] :: ps.drop (k + 1) := List.drop_eq_getElem_cons hkn
      have HN := hn.out
      rw [hd, List.find?_cons] at HN
      have hme := mKeyID ⟨ps[k], 0, none⟩
      have hw : IntKind.i64.wrap ((k : Int) + 1) = ((k + 1 : Nat) : Int) := by rw [IntWalk.i64_in _ (by omega)]; omega
      unfold kv at *
      generalize ps[k] = pk at *
      clear hc hd hn
      by_cases heq : ids pk = kid
      · rw [show decide (ids pk = kid) = true by simpa using heq] at HN hsb
        have HN := Lib.hid HN
        clear heq
        go_wp2_with (go_at_call 215; refine G.out.mono ?_; rintro e w' ⟨rfl, rfl⟩)
        go_ret2
        refine ⟨?_, rfl⟩
        rw [HN.out]; rfl
      · rw [show decide (ids pk = kid) = false by simpa using heq] at HN hsb
        have HN := Lib.hid HN
        clear heq
        go_wp2_with (go_at_call 215; refine G.out.mono ?_; rintro e w' ⟨rfl, rfl⟩)
        exact ⟨⟨k + 1, by omega, by go_num, trivial, Lib.hid HN.out⟩, by simp [intOf]; omega⟩
    · obtain rfl : k = ps.length := by omega
      go_wp2_with fail
      go_ret2
      refine ⟨?_, rfl⟩
      rw [hn.out, List.drop_length]; rfl

set_option maxRecDepth 100000 in
set_option maxHeartbeats 1000000 in
/-- KeyRun's at: the place among the keys made. -/
theorem atC (mb : Nat) (v : Value) (ps : List Nat) (q : Nat) (hL : ps.length ≤ 1000) (w : World) (hs : w.cell? ⟨mb, 0, none⟩ = some v) (h : Kys w v ps) (hq : ∃ cs, Row w q 194 cs) :
    Calls Tryz.prog 38 #[kv q, .pointer (some ⟨mb, 0, none⟩)] w fun e w' => e = .returned (.int .i64 (at? q ps)) ∧ w' = w := by
  obtain ⟨a, c, rfl, hx, hr⟩ := h
  have HX := Lib.hid hx
  have HR := Lib.hid hr
  have HQ := Lib.hid hq
  clear hx hr hq
  unfold kv at *
  go_enter Tryz.func38, Tryz.ntmps38
  go_wp2_with fail
  go_loopw [8] (fun i wr => ∃ k : Nat, k ≤ ps.length ∧ i = .int .i64 k ∧ wr = w ∧ Hid (∀ j (h : j < ps.length), j < k → ps[j] ≠ q)) (fun i _ => ps.length - (intOf i).toNat)
  case atStart => exact ⟨0, by omega, rfl, rfl, Lib.hid (fun j _ h => absurd h (Nat.not_lt_zero _))⟩
  case round =>
    obtain ⟨k, hk, rfl, rfl, hn⟩ := hrel
    by_cases hkn : k < ps.length
    · obtain ⟨g, o, rfl, hc⟩ := HX.out (by omega)
      have c0 := hc k hkn
      have hki : (k : Int) < ps.length := by omega
      have he := kv_eql 91 ⟨_, Tryz.underlying91⟩ ps[k] q wr (HR.out _ (List.getElem_mem hkn)) HQ.out
      clear hc
      by_cases heq : ps[k] = q
      · rw [show decide (ps[k] = q) = true by simpa using heq] at he
        have HE := Lib.hid heq
        unfold kv at *
        generalize ps[k] = pk at he c0
        clear heq
        go_wp2_with fail
        go_ret
        refine ⟨?_, rfl⟩
        have hin : q ∈ ps := by rw [← HE.out]; exact List.getElem_mem hkn
        have hix : ps.idxOf q = k := by
          have hlt := List.idxOf_lt_length_of_mem hin
          have h2 := List.getElem_idxOf hlt
          rcases Nat.lt_trichotomy (ps.idxOf q) k with hlt2 | heq | hgt
          · exact absurd h2 (hn.out _ hlt hlt2)
          · exact heq
          · exfalso
            have := List.not_of_lt_findIdx (p := (· == q)) hgt
            simp [HE.out] at this
        simp [at?, hin, hix]
      · rw [show decide (ps[k] = q) = false by simpa using heq] at he
        have HE := Lib.hid heq
        unfold kv at *
        generalize ps[k] = pk at he c0
        clear heq
        go_wp2_with fail
        have hw : IntKind.i64.wrap ((k : Int) + 1) = ((k + 1 : Nat) : Int) := by rw [IntWalk.i64_in _ (by omega)]; omega
        refine ⟨⟨k + 1, by omega, by go_num, trivial, Lib.hid fun j h1 h2 => ?_⟩, by simp [intOf]; omega⟩
        by_cases hjk : j = k
        · subst hjk; exact HE.out
        · exact hn.out j h1 (by omega)
    · obtain rfl : k = ps.length := by omega
      go_wp2_with fail
      go_ret
      refine ⟨?_, rfl⟩
      have hni : q ∉ ps := fun hm => by
        obtain ⟨j, hj, he⟩ := List.getElem_of_mem hm
        exact hn.out j hj hj he
      simp [at?, hni]
end Go.Proofs.YtaemdppihpefnaaGreatDoor

/- The keys of a set: a slice that is owned, at whatever place of its row; append of a key, and of keys that lie in it. -/
namespace Go.Proofs.YtaemdppihpefnaaGreatDoor
open Go.RowKit
set_option linter.unusedVariables false

/-- Stores behind each other. -/
def putL (cur : List Value) : Nat → List Value → List Value
  | _, [] => cur
  | o, v :: r => putL (cur.set o v) (o + 1) r
theorem putL_length : ∀ (vs : List Value) (cur : List Value) (o : Nat), (putL cur o vs).length = cur.length
  | [], _, _ => rfl
  | v :: r, cur, o => by rw [putL, putL_length r]; simp
theorem putL_get : ∀ (vs : List Value) (cur : List Value) (o j : Nat), o + vs.length ≤ cur.length → (putL cur o vs)[j]? = if o ≤ j ∧ j < o + vs.length then vs[j - o]? else cur[j]?
  | [], cur, o, j, _ => by simp [putL]; omega
  | v :: r, cur, o, j, h => by
    simp only [List.length_cons] at h
    rw [putL, putL_get r _ _ _ (by simp; omega)]
    by_cases h1 : o + 1 ≤ j ∧ j < o + 1 + r.length
    · rw [if_pos h1, if_pos (by simp; omega), show j - o = j - (o + 1) + 1 by omega]; simp
    · rw [if_neg h1]
      by_cases h2 : j = o
      · subst h2
        rw [if_pos (by simp)]
        simp [List.getElem?_set]; omega
      · rw [if_neg (by simp; omega), List.getElem?_set_ne (by omega)]
theorem Row.cells' {g : Nat} {t : TypeId} : ∀ (vs : List Value) (o : Nat) (w : World) (cur : List Value), Row w g t cur → Row (w.setCells g o vs) g t (putL cur o vs)
  | [], _, _, _, h => h
  | v :: r, o, w, cur, h => Row.cells' r (o + 1) _ _ (h.set o v)
theorem Only.cells' (g : Nat) : ∀ (vs : List Value) (o : Nat) (w : World), Only g w (w.setCells g o vs)
  | [], _, w => ⟨rfl, rfl, rfl, rfl, fun _ _ => rfl⟩
  | v :: r, o, w => (Only.set w g o v).thn (Only.cells' g r (o + 1) _)

/-- A slice of keys in a row of one's own, at whatever place. -/
def OwnK (w : World) (B : Nat) (v : Value) (ps : List Nat) : Prop :=
  (v = .slice none 0 0 ∧ ps = []) ∨ ∃ g o c cur, v = .slice (some ⟨g, o, none⟩) ps.length c ∧ B ≤ g ∧ Row w g 91 cur ∧ ps.length ≤ c ∧ o + c ≤ cur.length ∧ c ≤ maxLen ∧ ∀ i (h : i < ps.length), cur[o + i]? = some (kv ps[i])

theorem OwnK.kys {w : World} {B : Nat} {v : Value} {ps : List Nat} (h : OwnK w B v ps) (hr : ∀ p ∈ ps, ∃ cs, Row w p 194 cs) : Kys w v ps := by
  rcases h with ⟨rfl, rfl⟩ | ⟨g, o, c, cur, rfl, hB, hrow, h1, h2, h3, hc⟩
  · exact ⟨none, 0, rfl, fun h => by simp at h, hr⟩
  · exact ⟨_, c, rfl, fun _ => ⟨g, o, rfl, fun i hi => by rw [hrow.cell]; exact hc i hi⟩, hr⟩
theorem OwnK.below {w w' : World} {B : Nat} {v : Value} {ps : List Nat} (h : OwnK w B v ps) (hb : Below w.heap.size w w') : OwnK w' B v ps := by
  rcases h with h | ⟨g, o, c, cur, rfl, hB, hrow, h1, h2, h3, hc⟩
  · exact .inl h
  · exact .inr ⟨g, o, c, cur, rfl, hB, hrow.below hb hrow.lt, h1, h2, h3, hc⟩
theorem OwnK.only {w w' : World} {B s : Nat} {v : Value} {ps : List Nat} (h : OwnK w B v ps) (hb : Only s w w') (hs : s < B) : OwnK w' B v ps := by
  rcases h with h | ⟨g, o, c, cur, rfl, hB, hrow, h1, h2, h3, hc⟩
  · exact .inl h
  · exact .inr ⟨g, o, c, cur, rfl, hB, hrow.only hb (by omega), h1, h2, h3, hc⟩

theorem zk : (Tryz.prog.info? 91).map (fun i => (i.zero, i.size, i.bytes)) = some (some .nilIface, 1, 16) := by kernel_rfl
theorem zcK (n : Nat) : Builtin.zeroCells (Value.nilIface).cells n = (List.replicate n Value.nilIface).toArray := by
  have hz : (Value.nilIface).cells = #[.nilIface] := rfl
  rw [hz]
  apply Array.ext_getElem?
  intro j
  simp only [Builtin.zeroCells]
  by_cases hj : j < n
  · simp [hj, Nat.mod_one]
  · simp [hj]

set_option maxHeartbeats 1000000 in
/-- append of one key. -/
theorem run_appK (w : World) (B : Nat) (ty : TypeId) (v : Value) (ps : List Nat) (p : Nat) (ho : OwnK w B v ps) (hB : B ≤ w.heap.size) (hL : ps.length ≤ 1000) (a : Addr) (c : Nat) (hc : w.cell? a = some (kv p)) (ha : a.spot = none) :
    ∃ v' w', (Builtin.append_ #[84, 84] ty #[v, .slice (some a) 1 c]).run Tryz.prog w = .ok v' w' ∧ OwnK w' B v' (ps ++ [p]) ∧ w.grownBy w' v.ownBlock ∧ (v'.ownBlock = v.ownBlock ∨ ∃ k, v'.ownBlock = some k ∧ w.heap.size ≤ k) := by
  obtain ⟨i, hi1, hz, hs1, hb1⟩ := info_parts zk
  have hn1 : ∀ (j : Nat) u, [kv p][j]? = some u → w.cell? (a.add j) = some u := by
    intro j u hj
    obtain ⟨b, o, s⟩ := a
    simp only at ha
    subst ha
    cases j with
    | zero => rw [Go.WideShapes.add_plain]; simpa using hc.trans (by simpa using hj)
    | succ j => simp at hj
  have one1 : ∀ u ∈ [kv p], u.oneCell' = true := by simp [kv]; rfl
  rcases id ho with ⟨rfl, rfl⟩ | ⟨g, o, cp, cur, rfl, hg, hrow, h1, h2, h3, hcc⟩
  · have hrun := run_append_nil (P := Tryz.prog) w 84 ty 91 i _ Tryz.underlying84 hi1 hz a 1 c [kv p] (by simp [hs1]) hn1 (by decide) (by decide) (by rw [hb1]; decide)
    have hge := grownCap_ge w 1 0 91
    have hle := grownCap_le_maxLen w 1 0 91 (by unfold maxLen; omega)
    refine ⟨_, _, hrun, ?_, grown_of_below ((below_drewd (Below.refl w.heap.size w)).alloc (Nat.le_refl _) _) _, .inr ⟨_, rfl, Nat.le_refl _⟩⟩
    generalize grownCap w 1 0 91 = G at *
    refine .inr ⟨w.heap.size, 0, G, [kv p] ++ List.replicate (G - 1) Value.nilIface, rfl, hB, ?_, hge, by simp; omega, hle, ?_⟩
    · have e : [kv p].toArray ++ Builtin.zeroCells (Value.nilIface).cells (G - 1) = ([kv p] ++ List.replicate (G - 1) Value.nilIface).toArray := by
        rw [zcK]; simp
      rw [e]
      exact Row.alloc w.drew _ _
    · intro i hi
      simp at hi
      subst hi
      rfl
  · by_cases hroom : ps.length + 1 ≤ cp
    · have hrun := run_append_room_cells (P := Tryz.prog) w 84 ty 91 i Tryz.underlying84 hi1 g o ps.length cp a 1 c [kv p] (by simp [hs1]) hn1 one1 hroom
        (by intro j hj; rw [hrow.cell]; simp [hs1] at hj ⊢; omega) (by intro j hj; exact hrow.unfrozen _)
      have oc := Only.cells' g [kv p] (o + ps.length * i.size) w
      refine ⟨_, _, hrun, ?_, ⟨oc.os, oc.tape, oc.output, Nat.le_of_eq oc.size.symm, fun k _ hk => oc.block k (fun e => hk (by rw [e]; rfl))⟩, .inl rfl⟩
      rw [hs1, Nat.mul_one]
      have hR := Row.cells' [kv p] (o + ps.length) w cur hrow
      refine .inr ⟨g, o, cp, _, by simp, hg, hR, by simpa using hroom, by rw [putL_length]; exact h2, h3, ?_⟩
      intro i hi
      rw [putL_get _ _ _ _ (by simp; omega)]
      simp only [List.length_append, List.length_cons, List.length_nil] at hi ⊢
      by_cases he : i = ps.length
      · subst he
        rw [if_pos (by omega)]
        simp
      · rw [if_neg (by omega), hcc i (by omega), List.getElem_append_left (by omega)]
    · have hcell : ∀ (j : Nat) u, (ps.map kv)[j]? = some u → w.cell? ((⟨g, o, none⟩ : Addr).add j) = some u := by
        intro j u hj
        rw [Go.WideShapes.add_plain, hrow.cell]
        have hlt : j < ps.length := by have := (List.getElem?_eq_some_iff.1 hj).1; simpa using this
        rw [hcc j hlt, ← hj]; simp [hlt]
      have hrun := run_append_grow (P := Tryz.prog) w 84 ty 91 i _ Tryz.underlying84 hi1 hz ⟨g, o, none⟩ ps.length cp (ps.map kv) (by simp [hs1]) hcell a 1 c [kv p] (by simp [hs1]) hn1 (by omega) (by omega)
        (by rw [hb1]; exact growslice_fits (by omega) (by omega))
      have hge := grownCap_ge w (ps.length + 1) cp 91
      have hle := grownCap_le_maxLen w (ps.length + 1) cp 91 (by unfold maxLen; omega)
      refine ⟨_, _, hrun, ?_, grown_of_below ((below_drewd (Below.refl w.heap.size w)).alloc (Nat.le_refl _) _) _, .inr ⟨_, rfl, Nat.le_refl _⟩⟩
      generalize grownCap w (ps.length + 1) cp 91 = G at *
      refine .inr ⟨w.heap.size, 0, G, (ps ++ [p]).map kv ++ List.replicate (G - (ps.length + 1)) Value.nilIface, by simp, hB, ?_, by simpa using hge, by simp; omega, hle, ?_⟩
      · have e : (ps.map kv).toArray ++ [kv p].toArray ++ Builtin.zeroCells (Value.nilIface).cells (G - (ps.length + 1)) = ((ps ++ [p]).map kv ++ List.replicate (G - (ps.length + 1)) Value.nilIface).toArray := by
          rw [zcK]; simp
        rw [e]
        exact Row.alloc w.drew _ _
      · intro i hi
        rw [Nat.zero_add, List.getElem?_append_left (by simpa using hi), List.getElem?_map, List.getElem?_eq_getElem hi]
        rfl

section
variable {P : Program} {w : World} {ops : Array Oper} {o : Oper} {a : Act} {Q : Exit → Act → World → Prop}
/-- A step of a region that appends, its run known. -/
theorem step_appendR {K : Act → World → Prop} {E : Prop} (hgd : o.guard = none) (s x : Operand) (t : TypeId)
    (ho : o.op = .call { callee := .builtin .append, args := #[s, x], argTypes := #[t, t] }) (v vb : Value) (hs : a.eval s = v) (hx : a.eval x = vb) (v' : Value) (w' : World)
    (hr : (Builtin.append_ #[t, t] o.type #[v, vb]).run P w = .ok v' w') (h : K (a.put o.dst v') w') :
    if Region.wanted o (yielded ops a.tmps) = true then Oper.wp P o a w K Q else E := by
  have hw : Region.wanted o (yielded ops a.tmps) = true := by simp [Region.wanted, hgd]
  rw [if_pos hw]
  unfold Oper.wp execOp
  simp only [ho, resolve, invoke, builtin, Sem.run_bind, Sem.run_pure, Result.andThen_ok, List.map_toArray, List.map_cons, List.map_nil, hs, hx, hr]
  exact h
end
end Go.Proofs.YtaemdppihpefnaaGreatDoor

/- jwk's set: AddKey. -/
namespace Go.Proofs.YtaemdppihpefnaaGreatDoor
open Go.RowKit
set_option linter.unusedVariables false

/-- What turns by a change of a set at s whose keys lie in the row r: both of them, and what is new. -/
structure KF (s : Nat) (r : Option Nat) (w w' : World) : Prop where
  os : w'.os = w.os
  tape : w'.tape = w.tape
  output : w'.output = w.output
  size : w.heap.size ≤ w'.heap.size
  block : ∀ k, k < w.heap.size → k ≠ s → some k ≠ r → w'.heap[k]? = w.heap[k]?

theorem KF.below {s : Nat} {r : Option Nat} {w w' : World} (h : Below w.heap.size w w') : KF s r w w' := ⟨h.os, h.tape, h.output, h.size, fun k hk _ _ => h.block k hk⟩
theorem KF.row {s : Nat} {r : Option Nat} {w w' : World} {g : Nat} {t : TypeId} {cur : List Value} (h : KF s r w w') (hr : Row w g t cur) (h1 : g ≠ s) (h2 : some g ≠ r) : Row w' g t cur := by
  have hl := hr.lt
  unfold Row at hr ⊢
  rw [h.block g hl h1 h2]; exact hr

theorem keyErr (s : ByteArray) (w : World) :
    Calls Tryz.prog 70 #[.string s] w fun e w' => e = .returned (.iface 215 (.pointer (some ⟨w.heap.size, 0, none⟩))) ∧ Below w.heap.size w w' := by
  go_enter Tryz.func70, Tryz.ntmps70
  go_wp2_with fail
  go_ret
  exact ⟨rfl, (Below.refl _ _).alloc (Nat.le_refl _) _⟩

/-- A key more, if it is not there. -/
def addK (q : Nat) (ps : List Nat) : List Nat := if q ∈ ps then ps else ps ++ [q]

/-- A result that is an error or none. -/
def ErrV (v : Value) : Prop := v = .nilIface ∨ ∃ T a, v = .iface T (.pointer (some a))

/-- A set is turned. -/
def Turned (s B : Nat) (m : Value) (v : Value) (w : World) (ps : List Nat) (e : Ending) (w' : World) : Prop :=
  ∃ x v', e = .returned x ∧ (x = .nilIface ∨ ∃ k, x = .iface 215 (.pointer (some ⟨k, 0, none⟩))) ∧ Row w' s 196 [v', m] ∧ OwnK w' B v' ps ∧ KF s v.ownBlock w w' ∧ (v'.ownBlock = v.ownBlock ∨ v'.ownBlock = none ∨ ∃ k, v'.ownBlock = some k ∧ w.heap.size ≤ k)

set_option maxRecDepth 100000 in
set_option maxHeartbeats 1000000 in
theorem addKey (s B : Nat) (v m : Value) (ps : List Nat) (q : Nat) (hL : ps.length ≤ 900) (w : World) (hs : Row w s 196 [v, m]) (ho : OwnK w B v ps) (hsB : s < B) (hB : B ≤ w.heap.size) (hr : ∀ p ∈ ps, ∃ cs, Row w p 194 cs) (hq : ∃ cs, Row w q 194 cs) :
    Calls Tryz.prog 233 #[.pointer (some ⟨s, 0, none⟩), kv q] w (Turned s B m v w (addK q ps)) := by
  have c0 : w.cell? ⟨s, 0, none⟩ = some v := by rw [hs.cell]; rfl
  have G := Lib.hid (indexNL s v ps q (by omega) w c0 (ho.kys hr) hq)
  have HS := Lib.hid hs
  have HO := Lib.hid ho
  have hlt := hs.lt
  clear hs hr hq ho
  unfold kv at *
  by_cases hin : q ∈ ps
  · have ha : at? q ps = (ps.idxOf q : Nat) := by simp [at?, hin]
    rw [ha] at G
    have had : addK q ps = ps := by simp [addK, hin]
    rw [had]
    have hgt : ¬ ((ps.idxOf q : Nat) : Int) ≤ -1 := by omega
    have hgt2 : (-1 : Int) < ((ps.idxOf q : Nat) : Int) := by omega
    generalize ps.idxOf q = ix at *
    clear ha had hin
    go_enter Tryz.func233, Tryz.ntmps233
    go_wp2_with (first | (go_at_call 245; refine G.out.mono ?_; rintro e w' ⟨rfl, rfl⟩) | (go_at_call 70; refine (keyErr _ _).mono ?_; rintro e w3 ⟨rfl, hb3⟩; have hb3 := Lib.hid hb3))
    go_ret
    exact ⟨_, v, rfl, .inr ⟨_, rfl⟩, HS.out.below hb3.out hlt, HO.out.below hb3.out, KF.below hb3.out, .inl rfl⟩
  · have ha : at? q ps = -1 := by simp [at?, hin]
    rw [ha] at G
    have had : addK q ps = ps ++ [q] := by simp [addK, hin]
    rw [had]
    clear ha had hin
    obtain ⟨w1, hw1⟩ : ∃ w1 : World, w1 = w.alloc (.cells #[.iface 146 (.pointer (some ⟨q, 0, none⟩))] 91) := ⟨_, rfl⟩
    have hb1 : Below w.heap.size w w1 := by rw [hw1]; exact (Below.refl _ _).alloc (Nat.le_refl _) _
    have hx1 : w1.cell? ⟨w.heap.size, 0, none⟩ = some (kv q) := by rw [hw1, (Row.new w _ _ _ rfl).cell]; rfl
    obtain ⟨v', w2, hrun, ho2, hg2, hv2⟩ := run_appK w1 B 84 v ps q (HO.out.below hb1) (Nat.le_trans hB hb1.size) (by omega) ⟨w.heap.size, 0, none⟩ 1 hx1 rfl
    have hsr : ∀ r, v.ownBlock = some r → B ≤ r := by
      intro r hr
      rcases HO.out with ⟨rfl, _⟩ | ⟨g, o, c, cur, rfl, hB', _⟩
      · cases hr
      · cases hr; exact hB'
    have hs2 : Row w2 s 196 [v, m] := Row.grown (HS.out.below hb1 hlt) hg2 (fun h => by have := hsr s h.symm; omega)
    have k0 : w2.cell? ⟨s, 0, none⟩ = some v := by rw [hs2.cell]; rfl
    have kf : w2.frozen? ⟨s, 0, none⟩ = false := hs2.unfrozen 0
    have HR := Lib.hid hrun
    have HO2 := Lib.hid ho2
    have HG := Lib.hid hg2
    have HV := Lib.hid hv2
    have HS2 := Lib.hid hs2
    have HB1 := Lib.hid hb1
    have HSR := Lib.hid hsr
    have hv : v = .slice none 0 0 ∨ ∃ g o c, v = .slice (some ⟨g, o, none⟩) ps.length c := by
      rcases HO.out with ⟨rfl, _⟩ | ⟨g, o, c, cur, rfl, _⟩
      · exact .inl rfl
      · exact .inr ⟨g, o, c, rfl⟩
    have hv' : ∃ a n c, v' = .slice a n c := by
      rcases ho2 with ⟨_, h⟩ | ⟨g, o, c, cur, h, _⟩
      · simp at h
      · exact ⟨_, _, _, h⟩
    obtain ⟨a', n', c', rfl⟩ := hv'
    clear hrun ho2 hg2 hv2 hs2 hb1 hsr hx1
    go_enter Tryz.func233, Tryz.ntmps233
    go_upto_region 6 with (first | (go_at_call 245; refine G.out.mono ?_; rintro e w' ⟨rfl, rfl⟩))
    go_wp2_with (at_builtin; rw [← hw1]; refine Lib.wpList_append_run _ rfl _ _ _ _ rfl _ _ rfl rfl _ _ HR.out ?_)
    go_ret
    have on := Only.set w2 s 0 (.slice a' n' c')
    have hst : Row (w2.setCell ⟨s, 0, none⟩ (.slice a' n' c')) s 196 [.slice a' n' c', m] := HS2.out.set 0 (.slice a' n' c')
    refine ⟨_, _, rfl, .inl rfl, hst, HO2.out.only on hsB, ⟨on.os.trans (HG.out.os.trans HB1.out.os), on.tape.trans (HG.out.tape.trans HB1.out.tape), on.output.trans (HG.out.output.trans HB1.out.output), by have := HB1.out.size; have := HG.out.size; have := on.size; omega, fun k h1 h2 h3 => ?_⟩, ?_⟩
    · rw [on.block k h2, HG.out.block k (Nat.lt_of_lt_of_le h1 HB1.out.size) h3, HB1.out.block k h1]
    · rcases HV.out with h | ⟨k, h1, h2⟩
      · exact .inl h
      · exact .inr (.inr ⟨k, h1, Nat.le_trans HB1.out.size h2⟩)
end Go.Proofs.YtaemdppihpefnaaGreatDoor
