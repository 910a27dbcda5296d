/- fastjson's parseObject, of fields that are texts. -/
import Derived.Test.YtaemdppihpefnaaGreatDoorJsA
import Derived.Deep.RegionHeld3
import Derived.Deep.RegionWith
import Derived.Test.YtaemdppihpefnaaGreatDoorBsD
namespace Go.Proofs.YtaemdppihpefnaaGreatDoor
open Go.RowKit
set_option linter.unusedVariables false

/-- Behind the opening brace: the fields from k on, up to n. -/
def jrest (K V : Nat → List Int) (n : Nat) : Nat → Nat → List Int
  | 0, _ => []
  | fuel + 1, k => 34 :: (K k ++ 34 :: (58 :: (34 :: (V k ++ 34 :: (if k + 1 < n then 44 :: jrest K V n fuel (k + 1) else [125])))))

set_option maxRecDepth 100000 in
set_option maxHeartbeats 1000000 in
theorem resetO (go : Nat) (w : World) (h0 : w.cell? ⟨go, 0, none⟩ = some (.slice none 0 0)) (h1 : w.cell? ⟨go, 1, none⟩ = some (.bool false)) (f0 : w.frozen? ⟨go, 0, none⟩ = false) (f1 : w.frozen? ⟨go, 1, none⟩ = false) :
    Calls Tryz.prog 176 #[.pointer (some ⟨go, 0, none⟩)] w fun e w' => (∃ v, e = .returned v) ∧ w' = (w.setCell ⟨go, 0, none⟩ (.slice none 0 0)).setCell ⟨go, 1, none⟩ (.bool false) := by
  have hcl : ∀ ty, (Builtin.clear_ #[177] ty #[.slice none 0 0]).run Tryz.prog w = .ok (.tuple #[]) w := fun ty => by simp [Builtin.clear_, run_underlying Tryz.underlying177]
  go_enter Tryz.func176, Tryz.ntmps176
  go_wp2_with fail
  first
    | go_end0
    | ((try simp only [Exit.inBlock, Exit.then]); refine bodyPost_ret (results_none rfl _ _ _) rfl ?_)
  exact ⟨⟨_, rfl⟩, rfl⟩

set_option maxRecDepth 100000 in
set_option maxHeartbeats 1000000 in
theorem resetC (gp : Nat) (w : World) (h0 : w.cell? ⟨gp, 1, none⟩ = some (.slice none 0 0)) (f0 : w.frozen? ⟨gp, 1, none⟩ = false) :
    Calls Tryz.prog 133 #[.pointer (some ⟨gp, 1, none⟩)] w fun e w' => (∃ v, e = .returned v) ∧ w' = w.setCell ⟨gp, 1, none⟩ (.slice none 0 0) := by
  go_enter Tryz.func133, Tryz.ntmps133
  go_wp2_with fail
  go_loopw [10] (fun i wr => i = .int .i64 0 ∧ w = wr) (fun _ _ => 0)
  case atStart => exact ⟨rfl, rfl⟩
  case round =>
    obtain ⟨rfl, rfl⟩ := hrel
    go_wp2_with fail
    first
      | go_end0
      | ((try simp only [Exit.inBlock, Exit.then]); refine bodyPost_ret (results_none rfl _ _ _) rfl ?_)
    exact ⟨⟨_, rfl⟩, rfl⟩

theorem jrest_byt (K V : Nat → List Int) (n : Nat) (hK : ∀ i, Bare (K i)) (hV : ∀ i, Bare (V i)) : ∀ f k, Byt (jrest K V n f k)
  | 0, k => by intro x hx; cases hx
  | f + 1, k => by
    have ih := jrest_byt K V n hK hV f (k + 1)
    have tail : Byt (if k + 1 < n then 44 :: jrest K V n f (k + 1) else [125]) := by
      split
      · intro x hx
        rcases List.mem_cons.1 hx with h | h
        · omega
        · exact ih x h
      · intro x hx; simp at hx; omega
    have c : ∀ (x : Int) (l : List Int), 0 ≤ x → x < 256 → Byt l → Byt (x :: l) := fun x l h0 h1 hl y hy => by
      rcases List.mem_cons.1 hy with h | h
      · omega
      · exact hl y h
    rw [jrest]
    exact c _ _ (by omega) (by omega) (bare_mid (hK k) (c _ _ (by omega) (by omega) (c _ _ (by omega) (by omega) (bare_mid (hV k) tail))))
theorem jrest_len (K V : Nat → List Int) (n : Nat) (hK : ∀ i, (K i).length ≤ 100) (hV : ∀ i, (V i).length ≤ 100) : ∀ f k, (jrest K V n f k).length ≤ f * 300
  | 0, k => by simp [jrest]
  | f + 1, k => by
    have ih := jrest_len K V n hK hV f (k + 1)
    have h1 := hK k
    have h2 := hV k
    simp only [jrest, List.length_cons, List.length_append]
    split <;> simp <;> omega
theorem Byt.tl {x : Int} {l : List Int} (h : Byt (x :: l)) : Byt l := fun y hy => h y (by simp [hy])
theorem Byt.rt {a l : List Int} (h : Byt (a ++ l)) : Byt l := fun y hy => h y (by simp [hy])
def lenS : Value → Nat
  | .string b => b.size
  | _ => 0

set_option maxRecDepth 100000 in
set_option maxHeartbeats 8000000 in
theorem parseObj (gp B n d : Nat) (K V : Nat → List Int) (w : World) (hc : w.cell? ⟨gp, 1, none⟩ = some (.slice none 0 0)) (hf : w.frozen? ⟨gp, 1, none⟩ = false) (hgB : gp < B) (hB : B ≤ w.heap.size) (hn : n ≤ 10) (hn0 : 0 < n) (hd : d < 100)
    (hK : ∀ i, Bare (K i)) (hV : ∀ i, Bare (V i)) (hKl : ∀ i, (K i).length ≤ 100) (hVl : ∀ i, (V i).length ≤ 100) (hVp : ∀ i, 0 < (V i).length) :
    Calls Tryz.prog 158 #[.pointer (some ⟨gp, 1, none⟩), .string (strOfNums (jrest K V n n 0)), .int .i64 d] w fun e w' => ∃ go gv cv kv es nn, e = .returned (.tuple #[.pointer (some ⟨go, 0, none⟩), .string (strOfNums []), .nilIface]) ∧ Hid (JM gp go B nn n n gv cv kv es K V w') ∧ Hid (Below gp w w') := by
  have HBy := Lib.hid (jrest_byt K V n hK hV)
  have HLn := Lib.hid (jrest_len K V n hKl hVl)
  have HK := Lib.hid hK
  have HV := Lib.hid hV
  have HVp := Lib.hid hVp
  have HKl := Lib.hid hKl
  have HVl := Lib.hid hVl
  have HGB := Lib.hid hgB
  have HBS := Lib.hid hB
  obtain ⟨t0, ht0⟩ : ∃ t, jrest K V n n 0 = 34 :: t := by
    obtain ⟨m, rfl⟩ : ∃ m, n = m + 1 := ⟨n - 1, by omega⟩
    exact ⟨_, rfl⟩
  have hby0 : Byt (34 :: t0) := by rw [← ht0]; exact HBy.out n 0
  have HSK0 := Lib.hid (skipC 34 t0 hby0 (by omega))
  have hs0 := S_size (34 :: t0)
  have hix0 := run_sidx (P := Tryz.prog) 9 Tryz.underlying9 (34 :: t0) hby0 .i64 0 0 rfl (by simp)
  rw [show (34 :: t0).getD 0 0 = 34 from rfl] at hix0
  have hl0 : ¬ ((34 :: t0).length : Int) = 0 := by rw [List.length_cons]; omega
  have hl1 : (((34 :: t0).length : Int) == 0) = false := by rw [beq_eq_false_iff_ne]; exact hl0
  have HR0 : Hid (strOfNums (34 :: t0) = strOfNums (jrest K V n (n - 0) 0)) := Lib.hid (by rw [Nat.sub_zero, ht0])
  rw [ht0]
  have HG := Lib.hid (getValueC gp 1 B 0 (.slice none 0 0) [] w hc hf (World.ownsRow_nil _ _ _ _) (by simp [Value.ownBlock]) hB (by omega))
  have HF := Lib.hid hf
  generalize (34 :: t0).length = N0 at *
  generalize strOfNums (34 :: t0) = S0 at *
  clear hby0 ht0 hK hV hKl hVl hVp hc hf hgB hB
  go_enter Tryz.func158, Tryz.ntmps158
  go_wp2_with fail
  go_at_call 132
  refine (HSK0.out w).mono ?_
  rintro e w ⟨rfl, rfl⟩
  clear HSK0
  go_wp2_with fail
  go_at_call 161
  refine HG.out.mono ?_
  rintro e w1 ⟨go, cap, ys, rfl, ho1, hys, hg1, hgn, hc1, hfr⟩
  rw [Nat.zero_mul]
  rw [List.nil_append] at ho1
  have hgB1 : B ≤ go := (own_cap ho1).2.2.1
  have hyz : ys = [.slice none 0 0, .bool false, .slice none 0 0, .string (⟨#[]⟩ : ByteArray), .int .i64 0] := by
    rcases hg1 with h | h
    · cases h
    · exact h.2
  subst hyz
  have k0 : w1.cell? ⟨go, 0, none⟩ = some (.slice none 0 0) := own_cell ho1 0 _ rfl
  have k1 : w1.cell? ⟨go, 1, none⟩ = some (.bool false) := own_cell ho1 1 _ rfl
  have k4 : w1.cell? ⟨go, 4, none⟩ = some (.int .i64 0) := own_cell ho1 4 _ rfl
  have kf := own_unfrozen ho1
  have hgl : go < w1.heap.size := (own_cap ho1).2.2.2
  obtain ⟨w2, hw2⟩ : ∃ w2 : World, w2 = w1.setCell ⟨go, 4, none⟩ (.int .i64 1) := ⟨_, rfl⟩
  have f2 : Fr go 4 (.int .i64 1) w1 w2 := by rw [hw2]; exact Fr.made (Below.refl _ _) hgl
  have m0 : w2.cell? ⟨go, 0, none⟩ = some (.slice none 0 0) := f2.cellv k0 (by omega)
  have m1 : w2.cell? ⟨go, 1, none⟩ = some (.bool false) := f2.cellv k1 (by omega)
  have m4 : w2.cell? ⟨go, 4, none⟩ = some (.int .i64 1) := by rw [hw2]; exact cell_set_same _ _ _ _ _ k4
  have mf0 : w2.frozen? ⟨go, 0, none⟩ = false := (f2.fz 0).trans (kf 0)
  have mf1 : w2.frozen? ⟨go, 1, none⟩ = false := (f2.fz 1).trans (kf 1)
  have HRS := Lib.hid (resetO go w2 m0 m1 mf0 mf1)
  obtain ⟨w3, hw3⟩ : ∃ w3 : World, w3 = w2.setCell ⟨go, 0, none⟩ (.slice none 0 0) := ⟨_, rfl⟩
  have f3 : Fr go 0 (.slice none 0 0) w2 w3 := by rw [hw3]; exact Fr.made (Below.refl _ _) (Nat.lt_of_lt_of_le hgl f2.but.size)
  obtain ⟨w4, hw4⟩ : ∃ w4 : World, w4 = w3.setCell ⟨go, 1, none⟩ (.bool false) := ⟨_, rfl⟩
  have f4 : Fr go 1 (.bool false) w3 w4 := by rw [hw4]; exact Fr.made (Below.refl _ _) (Nat.lt_of_lt_of_le hgl (Nat.le_trans f2.but.size f3.but.size))
  have n0 : w3.cell? ⟨go, 0, none⟩ = some (.slice none 0 0) := by rw [hw3]; exact cell_set_same _ _ _ _ _ m0
  have n1 : w3.cell? ⟨go, 1, none⟩ = some (.bool false) := f3.cellv m1 (by omega)
  have hgpl : gp < w1.heap.size := World.block_lt_of_cell? w1 _ hc1
  have s12 := f2.but.size
  have s23 := f3.but.size
  have s34 := f4.but.size
  have s01 := hfr.but.size
  have JM0 : Hid (JM gp go B 1 0 0 go cap (.slice none 0 0) [] K V w4) := Lib.hid
    { c := f4.cellv (f3.cellv (f2.cellv hc1 (by omega)) (by omega)) (by omega)
      f := (f4.frz gp 1 (by omega)).trans ((f3.frz gp 1 (by omega)).trans ((f2.frz gp 1 hgpl).trans ((hfr.fz 1).trans HF.out)))
      o := ⟨_, own_fr_in (own_fr_in (own_fr_in ho1 f2) f3) f4⟩
      oc := f4.cellv n0 (by omega)
      ok0 := (f4.fz 0).trans ((f3.fz 0).trans mf0)
      ok := World.ownsRow_nil _ _ _ _
      ou := by rw [hw4]; exact cell_set_same _ _ _ _ _ n1
      ot := f4.cellv (f3.cellv m4 (by omega)) (by omega)
      d1 := by simp [Value.ownBlock]
      d2 := by simp [Value.ownBlock]
      d3 := by simp [Value.ownBlock]
      hgp := HGB.out
      hgo := hgB1
      hB := by have := HBS.out; omega
      hn := by omega
      ent := fun j hj => by omega }
  have HB4 : Hid (Below gp w w4) := Lib.hid (by
    have hgB := HGB.out
    have b1 := hfr.but.below (Nat.le_refl gp) (Nat.le_of_lt hfr.lt)
    exact b1.trans ((f2.below (by omega)).trans ((f3.below (by omega)).trans (f4.below (by omega)))))
  have HW2 := Lib.hid hw2
  have HW4 : Hid (w4 = (w2.setCell ⟨go, 0, none⟩ (.slice none 0 0)).setCell ⟨go, 1, none⟩ (.bool false)) := Lib.hid (by rw [hw4, hw3])
  have hz4 : 0 + 4 = 4 := rfl
  have hz0 : 0 + 0 = 0 := rfl
  clear hw2 hw3 hw4 f2 f3 f4 n0 n1 m0 m1 m4 mf0 mf1 ho1 hys hg1 hc1 hfr hgl hgpl s12 s23 s34 s01 HG
  go_wp2_with fail
  rw [← HW2.out]
  go_at_call 176
  refine HRS.out.mono ?_
  rintro e w4' ⟨⟨v, rfl⟩, hw4'⟩
  rw [← HW4.out] at hw4'
  subst hw4'
  clear HRS HW2 HW4 k0 k1 k4 kf
  go_wp2_with fail
  generalize w4' = w5 at *
  go_loopw [1] (fun s wr => ∃ (k gv cv : Nat) (kv : Value) (es : List Value), k < n ∧ s = .string (strOfNums (jrest K V n (n - k) k)) ∧ Hid (JM gp go B (k + 1) k k gv cv kv es K V wr) ∧ Hid (Below gp w wr)) (fun s _ => lenS s)
  case atStart => exact ⟨0, go, cap, _, [], hn0, by rw [HR0.out], JM0, HB4⟩
  case round =>
    clear JM0 HB4 HR0
    obtain ⟨k, gv, cv, kv, es, hk, rfl, hJ, hB⟩ := hrel
    obtain ⟨t4, ht4, hr⟩ : ∃ t4, t4 = (if k + 1 < n then 44 :: jrest K V n (n - (k + 1)) (k + 1) else [125]) ∧ jrest K V n (n - k) k = 34 :: (K k ++ 34 :: (58 :: (34 :: (V k ++ 34 :: t4)))) := by
      obtain ⟨m, hm⟩ : ∃ m, n - k = m + 1 := ⟨n - k - 1, by omega⟩
      refine ⟨_, rfl, ?_⟩
      rw [hm, show n - (k + 1) = m by omega, jrest]
    have HT4 := Lib.hid ht4
    have hby := HBy.out (n - k) k
    have hln := HLn.out (n - k) k
    have ha := HK.out k
    have hb := HV.out k
    have hbp := HVp.out k
    have HKK := Lib.hid (rfl : K k = K k)
    obtain ⟨a, hka⟩ : ∃ a, K k = a := ⟨_, rfl⟩
    obtain ⟨b, hvb⟩ : ∃ b, V k = b := ⟨_, rfl⟩
    have HA := Lib.hid hka
    have HBb := Lib.hid hvb
    rw [hka] at ha hr
    rw [hvb] at hb hr hbp
    rw [hr] at hby hln ⊢
    have hln2 : (n - k) * 300 ≤ 10 * 300 := Nat.mul_le_mul_right _ (by omega)
    obtain ⟨t3, ht3⟩ : ∃ t, 34 :: (b ++ 34 :: t4) = t := ⟨_, rfl⟩
    rw [ht3] at hby hln ⊢
    obtain ⟨t2, ht2⟩ : ∃ t, 58 :: t3 = t := ⟨_, rfl⟩
    rw [ht2] at hby hln ⊢
    have hb2 : Byt t2 := hby.tl.rt.tl
    have hb3 : Byt t3 := by rw [← ht2] at hb2; exact hb2.tl
    have hb4 : Byt t4 := by rw [← ht3] at hb3; exact hb3.tl.rt.tl
    have l3 : t3.length = b.length + t4.length + 2 := by rw [← ht3]; simp; omega
    have l2 : t2.length = t3.length + 1 := by rw [← ht2]; simp
    have l1 : (34 :: (a ++ 34 :: t2)).length = a.length + t2.length + 2 := by simp; omega
    -- the text's first letter
    have F0 := Lib.hid (skipC 34 (a ++ 34 :: t2) hby (by omega))
    have z0 := S_size (34 :: (a ++ 34 :: t2))
    have x0 := run_sidx (P := Tryz.prog) 9 Tryz.underlying9 (34 :: (a ++ 34 :: t2)) hby .i64 0 0 rfl (by simp)
    rw [show (34 :: (a ++ 34 :: t2)).getD 0 0 = 34 from rfl] at x0
    have y0 := run_sfrom (P := Tryz.prog) 9 Tryz.underlying9 (34 :: (a ++ 34 :: t2)) .i64 1 1 rfl (by simp)
    rw [show (34 :: (a ++ 34 :: t2)).drop 1 = a ++ 34 :: t2 from rfl] at y0
    have q0 : ¬ ((34 :: (a ++ 34 :: t2)).length : Int) = 0 := by omega
    have q0b : (((34 :: (a ++ 34 :: t2)).length : Int) == 0) = false := by rw [beq_eq_false_iff_ne]; exact q0
    -- the name
    have F1 := Lib.hid (rawKey a t2 ha hb2 (by simp; omega))
    -- the colon
    have F2 := Lib.hid (skipC 58 t3 (by rw [ht2]; exact hb2) (by omega))
    have z2 := S_size (58 :: t3)
    have x2 := run_sidx (P := Tryz.prog) 9 Tryz.underlying9 (58 :: t3) (by rw [ht2]; exact hb2) .i64 0 0 rfl (by simp)
    rw [show (58 :: t3).getD 0 0 = 58 from rfl] at x2
    have y2 := run_sfrom (P := Tryz.prog) 9 Tryz.underlying9 (58 :: t3) .i64 1 1 rfl (by simp)
    rw [show (58 :: t3).drop 1 = t3 from rfl] at y2
    have q2 : ¬ ((58 :: t3).length : Int) = 0 := by rw [List.length_cons]; omega
    have q2b : (((58 :: t3).length : Int) == 0) = false := by rw [beq_eq_false_iff_ne]; exact q2
    rw [ht2] at F2 z2 x2 y2 q2 q2b
    -- the value
    have F3 := Lib.hid (skipC 34 (b ++ 34 :: t4) (by rw [ht3]; exact hb3) (by omega))
    rw [ht3] at F3
    have FV := Lib.hid (fun (w' : World) (v : Value) (xs : List Value) hc hf ho hBs => valStr gp B (k + 1) d v xs b t4 w' hc hf ho HGB.out hBs (by omega) hb hb4 (by simp; omega) hbp hd)
    rw [ht3] at FV
    -- what is behind it
    have F4 : Hid (∃ c0 r4, t4 = c0 :: r4 ∧ 32 < c0 ∧ ((k + 1 < n ∧ c0 = 44 ∧ r4 = jrest K V n (n - (k + 1)) (k + 1)) ∨ (n = k + 1 ∧ c0 = 125 ∧ r4 = []))) := Lib.hid (by
      by_cases h : k + 1 < n
      · exact ⟨44, _, by rw [HT4.out, if_pos h], by omega, Or.inl ⟨h, rfl, rfl⟩⟩
      · exact ⟨125, [], by rw [HT4.out, if_neg h], by omega, Or.inr ⟨by omega, rfl, rfl⟩⟩)
    obtain ⟨c0, r4, e4, hc32, hend⟩ := F4.out
    have z4 := S_size (c0 :: r4)
    have F4 := Lib.hid (skipC c0 r4 (by rw [← e4]; exact hb4) hc32)
    have x4 := run_sidx (P := Tryz.prog) 9 Tryz.underlying9 (c0 :: r4) (by rw [← e4]; exact hb4) .i64 0 0 rfl (by simp)
    rw [show (c0 :: r4).getD 0 0 = c0 from rfl] at x4
    have y4 := run_sfrom (P := Tryz.prog) 9 Tryz.underlying9 (c0 :: r4) .i64 1 1 rfl (by simp)
    rw [show (c0 :: r4).drop 1 = r4 from rfl] at y4
    have q4 : ¬ ((c0 :: r4).length : Int) = 0 := by rw [List.length_cons]; omega
    have q4b : (((c0 :: r4).length : Int) == 0) = false := by rw [beq_eq_false_iff_ne]; exact q4
    have HM : Hid ((strOfNums r4).size < (strOfNums (34 :: (a ++ 34 :: t2))).size) := Lib.hid (by
      rw [S_size, S_size, l1, l2, l3, e4, List.length_cons]; omega)
    have HEND := Lib.hid hend
    rw [← e4] at z4 F4 x4 y4 q4 q4b
    have HSR : Hid (∀ k', r4 = jrest K V n (n - k') k' → strOfNums r4 = strOfNums (jrest K V n (n - k') k')) := Lib.hid (fun k' h => by rw [h])
    have HSN : Hid (r4 = [] → strOfNums r4 = strOfNums []) := Lib.hid (fun h => by rw [h])
    generalize (34 :: (a ++ 34 :: t2)).length = n0 at *
    generalize t2.length = n2 at *
    generalize t4.length = n4 at *
    generalize hS0 : strOfNums (34 :: (a ++ 34 :: t2)) = S0' at *
    generalize hS1 : strOfNums (a ++ 34 :: t2) = S1 at *
    generalize hS2 : strOfNums t2 = S2 at *
    generalize hS3 : strOfNums t3 = S3 at *
    generalize hS4 : strOfNums t4 = S4 at *
    generalize hSR : strOfNums r4 = SR at *
    have HSA : Hid (strOfNums a = strOfNums (K k)) := Lib.hid (by rw [HA.out])
    have HSB : Hid (strOfNums b = strOfNums (V k)) := Lib.hid (by rw [HBb.out])
    generalize strOfNums a = SA at *
    generalize strOfNums b = SB at *
    have HKV := Lib.hid (getKVC go 0 B k kv es wr hJ.out.oc hJ.out.ok0 hJ.out.ok hJ.out.d3 hJ.out.hB (by omega))
    have HKN := Lib.hid (show k < n ∧ n ≤ 10 from ⟨hk, hn⟩)
    clear hS0 hS1 hS2 hS3 hS4 hSR hby hln ha hb hbp hb2 hb3 hb4 l3 l2 l1 hln2 hr ht4 hka hvb ht3 ht2 e4 hc32 hend HKK hl0 hl1 hix0 hs0
    go_wp2_with fail
    go_at_call 177
    refine HKV.out.mono ?_
    rintro e w1 ⟨gk, ck, ys, rfl, ho1, hys, hg1, hgn1, hc1, hf1⟩
    have J1 := Lib.hid (hJ.out.grow (Nat.le_refl _) ho1 (hg1.imp id (fun h => h.1)) hgn1 hc1 hf1)
    have B1 : Hid (Below gp w w1) := Lib.hid (hB.out.trans (hf1.below (by have := hJ.out.hgp; have := hJ.out.hgo; omega)))
    have HY := Lib.hid hys
    have HEL := Lib.hid (own_len hJ.out.ok)
    clear ho1 hg1 hgn1 hc1 hf1 hys HKV
    go_wp2_with fail
    go_at_call 132
    refine (F0.out w1).mono ?_
    rintro e w1 ⟨rfl, rfl⟩
    go_wp2_with fail
    go_at_call 178
    refine (F1.out w1).mono ?_
    rintro e w2 ⟨rfl, nq, rfl⟩
    have J2 := Lib.hid (J1.out.drewN nq)
    have B2 : Hid (Below gp w (w1.drewN nq)) := Lib.hid (B1.out.trans ⟨rfl, rfl, rfl, Nat.le_refl _, fun _ _ => rfl⟩)
    clear J1 B1 F0 F1
    generalize w1.drewN nq = w2 at *
    obtain ⟨u0, hu0⟩ : ∃ u, ys[0]? = some u := ⟨ys[0]'(by have := HY.out; omega), by simp⟩
    obtain ⟨u1, hu1⟩ : ∃ u, ys[1]? = some u := ⟨ys[1]'(by have := HY.out; omega), by simp⟩
    have HU := Lib.hid (And.intro hu0 hu1)
    have c0' : w2.cell? ⟨gk, k * 2, none⟩ = some u0 := own_cell J2.out.ok (k * 2) u0 (by rw [List.getElem?_append_right (by have := HEL.out; omega), HEL.out, Nat.sub_self]; exact hu0)
    have cf := own_unfrozen J2.out.ok
    obtain ⟨w3, hw3⟩ : ∃ w3 : World, w3 = w2.setCell ⟨gk, k * 2, none⟩ (.string SA) := ⟨_, rfl⟩
    have hgkl : gk < w2.heap.size := World.block_lt_of_cell? w2 _ c0'
    have f3 : Fr gk (k * 2) (.string SA) w2 w3 := by rw [hw3]; exact Fr.made (Below.refl _ _) hgkl
    have J3 := Lib.hid (J2.out.store (k * 2) (by omega) f3)
    have hgkp : gp ≤ gk := by
      have h1 := (J2.out.ok.lt gk rfl).1
      have h2 := J2.out.hgp
      omega
    have B3 : Hid (Below gp w w3) := Lib.hid (B2.out.trans (f3.below hgkp))
    have HGK := Lib.hid hgkp
    have HW3 := Lib.hid hw3
    have hz : k * 2 + 0 = k * 2 := rfl
    clear hw3 f3 hu0 hu1 hgkl J2 B2
    go_wp2_with fail
    rw [← HW3.out]
    go_at_call 132
    refine (F2.out w3).mono ?_
    rintro e w3' ⟨rfl, hww⟩
    subst hww
    go_wp2_with fail
    go_at_call 132
    refine (F3.out w3').mono ?_
    rintro e w3'' ⟨rfl, hww⟩
    subst hww
    clear F2 F3 z2 x2 y2 q2 q2b z0 x0 y0 q0 q0b HW3 c0' cf
    generalize w3'' = w3 at *
    obtain ⟨xs3, hxs3⟩ := J3.out.o
    have HVV := Lib.hid (FV.out w3 _ xs3 J3.out.c J3.out.f hxs3 J3.out.hB)
    clear hxs3 FV
    have hkI : IntKind.i64.wrap ((k : Int) + 1) = (k : Int) + 1 := IntWalk.i64_in _ (by omega)
    go_wp2_with fail
    go_at_call 134
    refine HVV.out.mono ?_
    rintro e w4 ⟨g, cap4, zs, rfl, ho4, hzs, hz3, hz4', hgn4, hg4, hc4, hf4, hkp4⟩
    have hg4' : gv = g ∨ w3.heap.size ≤ g := hg4.imp (fun h => by simpa [Value.ownBlock] using h) id
    have J4 := Lib.hid (J3.out.value ho4.out hg4' hgn4 hc4 hf4 hkp4.out)
    have B4 : Hid (Below gp w w4) := Lib.hid (B3.out.trans hkp4.out.below)
    have hxl := own_len ho4.out
    have p3 : w4.cell? ⟨g, (k + 1) * 5 + 3, none⟩ = some (.string SB) := own_cell ho4.out _ _ (by
      rw [List.getElem?_append_right (by simp at hxl; omega), show (k + 1) * 5 + 3 - xs3.length = 3 by simp at hxl; omega]; exact hz3)
    have p4 : w4.cell? ⟨g, (k + 1) * 5 + 4, none⟩ = some (.int .i64 7) := own_cell ho4.out _ _ (by
      rw [List.getElem?_append_right (by simp at hxl; omega), show (k + 1) * 5 + 4 - xs3.length = 4 by simp at hxl; omega]; exact hz4')
    have pf3 := own_unfrozen ho4.out ((k + 1) * 5 + 3)
    have pf4 := own_unfrozen ho4.out ((k + 1) * 5 + 4)
    have hgB4 := (own_cap ho4.out).2.2.1
    have hl5 : ∀ i u, ys[i]? = some u → (es ++ ys)[k * 2 + i]? = some u := fun i u hu => by
      rw [List.getElem?_append_right (by have := HEL.out; omega), show k * 2 + i - es.length = i by have := HEL.out; omega]; exact hu
    have t1 : ((es ++ ys).set (k * 2) (.string SA))[k * 2 + 1]? = some u1 := by rw [List.getElem?_set_ne (by omega)]; exact hl5 1 u1 HU.out.2
    have t0' : ((es ++ ys).set (k * 2) (.string SA))[k * 2]? = some (.string SA) := by
      have h9 : k * 2 < (es ++ ys).length := (List.getElem?_eq_some_iff.1 (hl5 0 u0 HU.out.1)).1
      exact List.getElem?_set_self h9
    have c5 : w4.cell? ⟨gk, k * 2 + 1, none⟩ = some u1 := own_cell J4.out.ok (k * 2 + 1) u1 t1
    have cf5 := own_unfrozen J4.out.ok
    obtain ⟨w6, hw6⟩ : ∃ w6 : World, w6 = w4.setCell ⟨gk, k * 2 + 1, none⟩ (.pointer (some ⟨g, (k + 1) * 5, none⟩)) := ⟨_, rfl⟩
    have hgkl : gk < w4.heap.size := World.block_lt_of_cell? w4 _ c5
    have f6 : Fr gk (k * 2 + 1) (.pointer (some ⟨g, (k + 1) * 5, none⟩)) w4 w6 := by rw [hw6]; exact Fr.made (Below.refl _ _) hgkl
    have hgk4 : g ≠ gk := fun e => J4.out.d2 (by rw [e]; rfl)
    have hg4l : g < w4.heap.size := World.block_lt_of_cell? w4 _ p3
    have J5 := J4.out.store (k * 2 + 1) (by omega) f6
    have J6 := Lib.hid (J5.whole (g := g) (o := (k + 1) * 5)
      (by rw [show 2 * k = k * 2 by omega, List.getElem?_set_ne (by omega), t0', HSA.out])
      (by rw [show 2 * k + 1 = k * 2 + 1 by omega]; exact List.getElem?_set_self (List.getElem?_eq_some_iff.1 t1).1)
      (by rw [← HSB.out]; exact f6.cellv p3 (fun x => hgk4 x.1)) (f6.cellv p4 (fun x => hgk4 x.1)) ((f6.frz g _ hg4l).trans pf3) ((f6.frz g _ hg4l).trans pf4) hgn4 (by simp [Value.ownBlock]; exact fun e => hgk4 e.symm) (Or.inr (by omega)) hgB4)
    have B6 : Hid (Below gp w w6) := Lib.hid (B4.out.trans (f6.below HGK.out))
    have HW6 := Lib.hid hw6
    clear hw6 f6 J5 ho4 hz3 hz4' hkp4 hg4 hg4' hc4 hf4 hgn4 p3 p4 pf3 pf4 hgB4 hl5 t1 t0' hgk4 hg4l hgkl J4 B4 J3 B3 hxl HVV hzs
    go_wp2_with fail
    rw [← HW6.out]
    go_at_call 132
    refine (F4.out w6).mono ?_
    rintro e w7 ⟨rfl, hww⟩
    subst hww
    clear HW6 F4 c5 cf5
    rcases HEND.out with ⟨hk1, rfl, hr4⟩ | ⟨hk1, rfl, hr4⟩
    · have HSR2 := Lib.hid (HSR.out (k + 1) hr4)
      clear hr4
      go_wp2_with fail
      exact ⟨⟨k + 1, g, cap4, _, _, hk1, by rw [HSR2.out], J6, B6⟩, HM.out⟩
    · have HSN2 := Lib.hid (HSN.out hr4)
      clear hr4
      subst hk1
      go_wp2_with fail
      go_quiet (fail)
      go_wp2_with fail
      go_ret3
      exact ⟨go, g, cap4, _, _, k + 1 + 1, by rw [HSN2.out]; rfl, Lib.hid (J6.out.drewN _), Lib.hid (B6.out.trans ⟨rfl, rfl, rfl, Nat.le_refl _, fun _ _ => rfl⟩)⟩
end Go.Proofs.YtaemdppihpefnaaGreatDoor

/- fastjson's Parse, of an object whose fields are texts; jwsbb.HeaderParse. -/
namespace Go.Proofs.YtaemdppihpefnaaGreatDoor
open Go.RowKit
set_option linter.unusedVariables false

theorem JM.later {gp go B n m k gv cv : Nat} {kv : Value} {es : List Value} {K V : Nat → List Int} {w w' : World} (h : JM gp go B n m k gv cv kv es K V w) (hb : Below w.heap.size w w') : JM gp go B n m k gv cv kv es K V w' := by
  have cl : ∀ b j x, w.cell? ⟨b, j, none⟩ = some x → w'.cell? ⟨b, j, none⟩ = some x := fun b j x hx => by rw [hb.cell (p := ⟨b, j, none⟩) (World.block_lt_of_cell? w _ hx)]; exact hx
  have fz : ∀ b j x, w.cell? ⟨b, j, none⟩ = some x → w.frozen? ⟨b, j, none⟩ = false → w'.frozen? ⟨b, j, none⟩ = false := fun b j x hx hf => by rw [frozen_at (hb.block b (World.block_lt_of_cell? w _ hx))]; exact hf
  obtain ⟨xs, hxs⟩ := h.o
  have kp : ∀ {T sz v n xs}, w.ownsRow B T sz v n xs → w'.ownsRow B T sz v n xs := fun ho => ho.kept (row := none) ⟨hb.os, hb.tape, hb.output, hb.size, fun k hk _ => hb.block k hk⟩ (by rename_i v _ _; cases v.ownBlock <;> simp)
  exact ⟨cl _ _ _ h.c, fz _ _ _ h.c h.f, ⟨xs, kp hxs⟩, cl _ _ _ h.oc, fz _ _ _ h.oc h.ok0, kp h.ok, cl _ _ _ h.ou, cl _ _ _ h.ot, h.d1, h.d2, h.d3, h.hgp, h.hgo, Nat.le_trans h.hB hb.size, h.hn, fun j hj => by
    obtain ⟨g, o, a1, a2, a3, a4, a5, a6, r⟩ := h.ent j hj
    exact ⟨g, o, a1, a2, cl _ _ _ a3, cl _ _ _ a4, fz _ _ _ a3 a5, fz _ _ _ a4 a6, r⟩⟩

/-- The text of the fields. -/
def jtext (K V : Nat → List Int) (n : Nat) : List Int := 123 :: jrest K V n n 0

/-- Names and texts that may stand in a header. -/
structure Fit (K V : Nat → List Int) (n : Nat) : Prop where
  n0 : 0 < n
  n10 : n ≤ 10
  kB : ∀ i, Bare (K i)
  vB : ∀ i, Bare (V i)
  kL : ∀ i, (K i).length ≤ 100
  vL : ∀ i, (V i).length ≤ 100
  vP : ∀ i, 0 < (V i).length

theorem jtext_byt {K V : Nat → List Int} {n : Nat} (hF : Fit K V n) : Byt (jtext K V n) := by
  intro x hx
  rcases List.mem_cons.1 hx with h | h
  · omega
  · exact jrest_byt K V n hF.kB hF.vB _ _ x h
theorem jtext_len {K V : Nat → List Int} {n : Nat} (hF : Fit K V n) : (jtext K V n).length ≤ 5000 := by
  have h := jrest_len K V n hF.kL hF.vL n 0
  have h2 : n * 300 ≤ 10 * 300 := Nat.mul_le_mul_right _ hF.n10
  rw [jtext, List.length_cons]
  omega

set_option maxRecDepth 100000 in
set_option maxHeartbeats 2000000 in
theorem valObj (gp B n : Nat) (K V : Nat → List Int) (w : World) (hc : w.cell? ⟨gp, 1, none⟩ = some (.slice none 0 0)) (hf : w.frozen? ⟨gp, 1, none⟩ = false) (hgB : gp < B) (hB : B ≤ w.heap.size) (hF : Fit K V n) :
    Calls Tryz.prog 134 #[.pointer (some ⟨gp, 1, none⟩), .string (strOfNums (jtext K V n)), .int .i64 0] w fun e w' => ∃ go gv cv kv es nn, e = .returned (.tuple #[.pointer (some ⟨go, 0, none⟩), .string (strOfNums []), .nilIface]) ∧ Hid (JM gp go B nn n n gv cv kv es K V w') ∧ Hid (Below gp w w') := by
  have HP := Lib.hid (parseObj gp B n 1 K V w hc hf hgB hB hF.n10 hF.n0 (by omega) hF.kB hF.vB hF.kL hF.vL hF.vP)
  have hby := jtext_byt hF
  have z := S_size (jtext K V n)
  have x0 := run_sidx (P := Tryz.prog) 9 Tryz.underlying9 (jtext K V n) hby .i64 0 0 rfl (by simp [jtext])
  rw [show (jtext K V n).getD 0 0 = 123 from rfl] at x0
  have y0 := run_sfrom (P := Tryz.prog) 9 Tryz.underlying9 (jtext K V n) .i64 1 1 rfl (by simp [jtext])
  rw [show (jtext K V n).drop 1 = jrest K V n n 0 from rfl] at y0
  have q0 : ¬ ((jtext K V n).length : Int) = 0 := by rw [jtext, List.length_cons]; omega
  have q0b : (((jtext K V n).length : Int) == 0) = false := by rw [beq_eq_false_iff_ne]; exact q0
  generalize (jtext K V n).length = N at *
  generalize strOfNums (jtext K V n) = S at *
  generalize strOfNums (jrest K V n n 0) = S1 at *
  clear hby hc hf hF
  go_enter Tryz.func134, Tryz.ntmps134
  go_wp2_with fail
  go_at_call 158
  refine HP.out.mono ?_
  rintro e w1 ⟨go, gv, cv, kv, es, nn, rfl, hJ, hb⟩
  clear HP
  go_wp2_with fail
  go_ret3
  exact ⟨go, gv, cv, kv, es, nn, rfl, hJ, hb⟩

theorem b2sC (v : Value) (xs : List Int) (w : World) (h : Bs w v xs) : Calls Tryz.prog 100 #[v] w fun e w' => e = .returned (.string (strOfNums xs)) ∧ w' = w := by
  have hcv := h.convert Tryz.underlying22 Tryz.underlying5 Tryz.underlying9
  clear h
  go_enter Tryz.func100, Tryz.ntmps100
  go_wp2_with fail
  go_ret
  exact ⟨rfl, rfl⟩

/-- 'append([]byte(nil), s..)', s a text. -/
theorem run_app_str (w : World) (xs : List Int) (hB : Byt xs) (hl : xs.length ≤ 1000000) (h0 : 0 < xs.length) : ∃ v w', (∀ ty, (Builtin.append_ #[22, 9] ty #[.slice none 0 0, .string (strOfNums xs)]).run Tryz.prog w = .ok v w') ∧ Bs w' v xs ∧ Below w.heap.size w w' := by
  obtain ⟨i0, hi, hz0, hz1, hz2⟩ := info_parts (P := Tryz.prog) (e := 5) (z := .int .u8 0) (size := 1) (bytes := 1) (by kernel_rfl)
  have hz := S_size xs
  refine ⟨_, _, fun ty => run_append_nil_string (P := Tryz.prog) w 22 9 ty 5 i0 _ Tryz.underlying22 Tryz.underlying9 hi hz0 (strOfNums xs) (by omega) (by omega) (by rw [hz2]; omega), ?_, (below_drewd (Below.refl w.heap.size w)).alloc (Nat.le_refl _) _⟩
  have hge := grownCap_ge w (strOfNums xs).size 0 5
  generalize grownCap w (strOfNums xs).size 0 5 = c at hge ⊢
  rw [hz] at hge ⊢
  refine ⟨_, c, rfl, hge, (fun h => by cases h), fun _ => ⟨w.heap.size, 0, rfl, fun i hi' => ?_⟩⟩
  have hb := hB.at hi'
  rw [Nat.zero_add]
  refine (cell_of_row _ _ _ _ _ _ (heap_alloc_new w.drew _)).trans ?_
  rw [Array.getElem?_append_left (by simp [strOfNums]; exact hi')]
  simp only [strOfNums, Array.getElem?_map, List.getElem?_toArray, List.getElem?_map]
  have : xs[i]? = some (xs.getD i 0) := by simp [List.getD, hi']
  rw [this]
  simp only [Option.map_some, Option.some.injEq, Value.int.injEq, true_and]
  rw [UInt8.toNat_ofNat']
  omega

set_option maxRecDepth 100000 in
set_option maxHeartbeats 4000000 in
theorem parse (gp n : Nat) (K V : Nat → List Int) (w : World) (hr : Row w gp 187 [.slice none 0 0, .slice none 0 0]) (hF : Fit K V n) :
    Calls Tryz.prog 99 #[.pointer (some ⟨gp, 0, none⟩), .string (strOfNums (jtext K V n))] w fun e w' => ∃ go gv cv kv es nn, e = .returned (.tuple #[.pointer (some ⟨go, 0, none⟩), .nilIface]) ∧ Hid (JM gp go (gp + 1) nn n n gv cv kv es K V w') ∧ Hid (Below gp w w') := by
  have hby := jtext_byt hF
  have hle := jtext_len hF
  have HSK := Lib.hid (skipC 123 (jrest K V n n 0) hby (by omega) w)
  have HSE := Lib.hid skipE
  obtain ⟨v, w1, hap, hv, hb1⟩ := run_app_str w (jtext K V n) hby (by omega) (by simp [jtext])
  obtain ⟨pv, LL, cv0, hvv⟩ : ∃ p l c, v = .slice p l c := by
    obtain ⟨p, c, h, _⟩ := hv
    exact ⟨_, _, _, h⟩
  have hgl := hr.lt
  have r1 := hr.below hb1 hgl
  have c0 : w1.cell? ⟨gp, 0, none⟩ = some (.slice none 0 0) := by rw [r1.cell]; rfl
  have f0 := r1.unfrozen 0
  have k0 : w.cell? ⟨gp, 0, none⟩ = some (.slice none 0 0) := by rw [hr.cell]; rfl
  obtain ⟨w2, hw2⟩ : ∃ w2 : World, w2 = w1.setCell ⟨gp, 0, none⟩ v := ⟨_, rfl⟩
  have r2 : Row w2 gp 187 [v, .slice none 0 0] := by rw [hw2]; exact r1.set 0 v
  have fr2 : Fr gp 0 v w1 w2 := by rw [hw2]; exact Fr.made (Below.refl _ _) r1.lt
  have c1 : w2.cell? ⟨gp, 1, none⟩ = some (.slice none 0 0) := by rw [r2.cell]; rfl
  have f1 := r2.unfrozen 1
  have HRS := Lib.hid (resetC gp w2 c1 f1)
  obtain ⟨w3, hw3⟩ : ∃ w3 : World, w3 = w2.setCell ⟨gp, 1, none⟩ (.slice none 0 0) := ⟨_, rfl⟩
  have r3 : Row w3 gp 187 [v, .slice none 0 0] := by rw [hw3]; exact r2.set 1 _
  have fr3 : Fr gp 1 (.slice none 0 0) w2 w3 := by rw [hw3]; exact Fr.made (Below.refl _ _) r2.lt
  have hoff : Off gp v := by
    intro a nn c hva hn hag
    obtain ⟨p, c', hv', _, _, hx⟩ := id hv
    rw [hv'] at hva
    simp only [Value.slice.injEq] at hva
    obtain ⟨rfl, rfl, rfl⟩ := hva
    obtain ⟨b, o, hp, hcell⟩ := hx hn
    cases hp
    have h1 := hcell 0 hn
    have h2 := r1.cell 0
    have hbe : b = gp := hag
    subst hbe
    have h3 : w1.cell? ⟨b, o + 0, none⟩ = [Value.slice none 0 0, Value.slice none 0 0][o + 0]? := r1.cell (o + 0)
    rw [h3] at h1
    have : o + 0 = 0 ∨ o + 0 = 1 ∨ 2 ≤ o + 0 := by omega
    rcases this with h | h | h
    · rw [h] at h1; simp at h1
    · rw [h] at h1; simp at h1
    · rw [List.getElem?_eq_none (by simpa using h)] at h1; cases h1
  have HB3 : Hid (Bs w3 v (jtext K V n)) := Lib.hid ((hv.but hoff fr2.but).but hoff fr3.but)
  have HR3 := Lib.hid r3
  have HBW3 : Hid (Below gp w w3) := Lib.hid ((hb1.mono (Nat.le_of_lt hgl)).trans ((fr2.below (Nat.le_refl _)).trans (fr3.below (Nat.le_refl _))))
  have HAP := Lib.hid hap
  have HW2 := Lib.hid hw2
  have HW3 : Hid (w3 = w2.setCell ⟨gp, 1, none⟩ (.slice none 0 0)) := Lib.hid hw3
  have hjt : strOfNums (123 :: jrest K V n n 0) = strOfNums (jtext K V n) := rfl
  have HF := Lib.hid hF
  have c30 : w3.drew.cell? ⟨gp, 0, none⟩ = some v := by show w3.cell? _ = _; rw [r3.cell]; rfl
  subst hvv
  clear hw2 hw3 hap hv hb1 r1 r2 r3 fr2 fr3 c1 f1 hr hF hby hoff
  go_enter Tryz.func99, Tryz.ntmps99
  go_wp2_with fail
  go_at_call 132
  refine HSK.out.mono ?_
  rintro e w' ⟨rfl, hww⟩
  subst hww
  rw [hjt]
  clear HSK
  go_wp2_with (at_builtin; refine Lib.wpList_append_run _ rfl _ _ _ _ rfl _ _ rfl rfl _ _ (HAP.out _) ?_)
  rw [← HW2.out]
  go_at_call 133
  refine HRS.out.mono ?_
  rintro e w3' ⟨⟨v1, rfl⟩, hw3'⟩
  rw [← HW3.out] at hw3'
  subst hw3'
  clear HRS HW2 HW3 c0 f0 k0
  go_wp2_with fail
  go_region_with (first
      | (go_at_call 100; refine (b2sC _ _ _ (show Bs w3'.drew _ _ from HB3.out)).mono ?_; rintro e wn ⟨rfl, rfl⟩)
      | (go_at_call 134; refine (valObj gp (gp + 1) n K V _ (by rw [(row_drewd HR3.out).cell]; rfl) ((row_drewd HR3.out).unfrozen 1) (by omega) (row_drewd HR3.out).lt HF.out).mono ?_; rintro e wn ⟨go, gv, cv, kv, es, nn, rfl, hJ, hb⟩))
  have HBN := Lib.hid (HBW3.out.trans ((show Below gp w3' w3'.drew from ⟨rfl, rfl, rfl, Nat.le_refl _, fun _ _ => rfl⟩).trans hb.out))
  have hs0 := S_size []
  clear hb c30 HAP HB3 HR3
  go_wp2_with fail
  go_at_call 132
  refine (HSE.out wn).mono ?_
  rintro e wn' ⟨rfl, hww⟩
  subst hww
  go_wp2_with fail
  go_ret2
  exact ⟨go, gv, cv, kv, es, nn, rfl, hJ, HBN⟩

set_option maxRecDepth 100000 in
set_option maxHeartbeats 2000000 in
theorem parseBytes (gp n : Nat) (K V : Nat → List Int) (vb : Value) (w : World) (hr : Row w gp 187 [.slice none 0 0, .slice none 0 0]) (hF : Fit K V n) (hv : Bs w vb (jtext K V n)) :
    Calls Tryz.prog 79 #[.pointer (some ⟨gp, 0, none⟩), vb] w fun e w' => ∃ go gv cv kv es nn, e = .returned (.tuple #[.pointer (some ⟨go, 0, none⟩), .nilIface]) ∧ Hid (JM gp go (gp + 1) nn n n gv cv kv es K V w') ∧ Hid (Below gp w w') := by
  have HB := Lib.hid (b2sC vb _ w hv)
  have HP := Lib.hid (parse gp n K V w hr hF)
  clear hr hF hv
  go_enter Tryz.func79, Tryz.ntmps79
  go_wp2_with fail
  go_at_call 100
  refine HB.out.mono ?_
  rintro e w ⟨rfl, rfl⟩
  clear HB
  go_wp2_with fail
  go_at_call 99
  refine HP.out.mono ?_
  rintro e w1 ⟨go, gv, cv, kv, es, nn, rfl, hJ, hb⟩
  clear HP
  go_wp2_with fail
  go_ret2
  exact ⟨go, gv, cv, kv, es, nn, rfl, hJ, hb⟩

/-- A parsed header: behind gh stands a pointer to an object with these fields. -/
def Hdr (w : World) (B gh n : Nat) (K V : Nat → List Int) : Prop :=
  ∃ gp go gv cv kv es nn, B ≤ gp ∧ JM gp go (gp + 1) nn n n gv cv kv es K V w ∧ Row w gh 145 [.pointer (some ⟨go, 0, none⟩), .nilIface]

set_option maxRecDepth 100000 in
set_option maxHeartbeats 2000000 in
theorem headerParse (n : Nat) (K V : Nat → List Int) (vb : Value) (w : World) (hF : Fit K V n) (hv : Bs w vb (jtext K V n)) :
    Calls Tryz.prog 59 #[vb] w fun e w' => (∃ gh, e = .returned (.iface 143 (.pointer (some ⟨gh, 0, none⟩))) ∧ Hid (Hdr w' w.heap.size gh n K V)) ∧ Hid (Below w.heap.size w w') := by
  obtain ⟨w1, hw1⟩ : ∃ w1 : World, w1 = w.alloc (.cells #[.slice none 0 0, .slice none 0 0] 187) := ⟨_, rfl⟩
  have hr : Row w1 w.heap.size 187 [.slice none 0 0, .slice none 0 0] := by rw [hw1]; exact Row.alloc w _ _
  have hb : Below w.heap.size w w1 := by rw [hw1]; exact (Below.refl _ _).alloc (Nat.le_refl _) _
  have HP := Lib.hid (parseBytes w.heap.size n K V vb w1 hr hF (hv.below hb))
  have HB := Lib.hid hb
  have HW := Lib.hid hw1
  obtain ⟨pv, cv0, rfl, _, _, _⟩ := id hv
  clear hr hb hw1 hF hv
  go_enter Tryz.func59, Tryz.ntmps59
  go_wp2_with fail
  rw [← HW.out]
  go_at_call 79
  refine HP.out.mono ?_
  rintro e w2 ⟨go, gv, cv, kv, es, nn, rfl, hJ, hb2⟩
  have HB2 := Lib.hid (HB.out.trans hb2.out)
  obtain ⟨w3, hw3⟩ : ∃ w3 : World, w3 = w2.alloc (.cells #[.pointer (some ⟨go, 0, none⟩), .nilIface] 145) := ⟨_, rfl⟩
  have hb3 : Below w2.heap.size w2 w3 := by rw [hw3]; exact (Below.refl _ _).alloc (Nat.le_refl _) _
  have HH : Hid (Hdr w3 w.heap.size w2.heap.size n K V) := Lib.hid ⟨_, go, gv, cv, kv, es, nn, Nat.le_refl _, hJ.out.later hb3, by rw [hw3]; exact Row.alloc w2 _ _⟩
  have HB3 := Lib.hid (HB2.out.trans (hb3.mono HB2.out.size))
  have HW3 := Lib.hid hw3
  clear hb2 hw3 hb3 hJ HP
  go_wp2_with fail
  go_ret
  rw [← HW3.out]
  exact ⟨⟨_, rfl, HH⟩, HB3⟩

set_option maxRecDepth 100000 in
set_option maxHeartbeats 2000000 in
theorem headC (n : Nat) (K V : Nat → List Int) (vb : Value) (w : World) (hF : Fit K V n) (hv : Bs w vb (jtext K V n)) :
    Calls Tryz.prog 53 #[vb] w fun e w' => (∃ gh B, e = .returned (.iface 143 (.pointer (some ⟨gh, 0, none⟩))) ∧ w.heap.size ≤ B ∧ Hid (Hdr w' B gh n K V)) ∧ Hid (Below w.heap.size w w') := by
  have C := Lib.hid (clone vb _ w hv (by have := jtext_len hF; omega))
  have HF := Lib.hid hF
  clear hv hF
  go_enter Tryz.func53, Tryz.ntmps53
  go_wp2_with fail
  go_at_call 7
  refine C.out.mono ?_
  rintro e w1 ⟨v1, rfl, own1, hb1⟩
  have HP := Lib.hid (headerParse n K V v1 w1 HF.out (Bs.own own1))
  have HB1 := Lib.hid hb1
  clear own1 hb1 C
  go_wp2_with fail
  go_at_call 59
  refine HP.out.mono ?_
  rintro e w2 ⟨⟨gh, rfl, hh⟩, hb2⟩
  have HB2 := Lib.hid (HB1.out.trans (hb2.out.mono HB1.out.size))
  clear hb2 HP
  go_wp2_with fail
  go_ret
  exact ⟨⟨gh, _, rfl, HB1.out.size, hh⟩, HB2⟩
end Go.Proofs.YtaemdppihpefnaaGreatDoor

/- fastjson's Get and StringBytes, of an object whose fields are texts; impl.HeadString. -/
namespace Go.Proofs.YtaemdppihpefnaaGreatDoor
open Go.RowKit
set_option linter.unusedVariables false

theorem kv_some {gp go B n m k gv cv : Nat} {kv : Value} {es : List Value} {K V : Nat → List Int} {w : World} (h : JM gp go B n m k gv cv kv es K V w) (hm : 0 < m) : ∃ gk ck, kv = .slice (some ⟨gk, 0, none⟩) m ck := by
  rcases h.ok.2 with ⟨_, h0⟩ | ⟨g, cap, cur, hv, _⟩
  · omega
  · exact ⟨g, cap, hv⟩

set_option maxRecDepth 100000 in
set_option maxHeartbeats 2000000 in
theorem objGet (gp go B nn n gv cv j0 : Nat) (kv : Value) (es : List Value) (K V : Nat → List Int) (key : List Int) (w : World) (h : JM gp go B nn n n gv cv kv es K V w) (hj : j0 < n) (hk : K j0 = key) (hne : ∀ j, j < j0 → K j ≠ key) (hkb : Bare key) (hF : Fit K V n) :
    Calls Tryz.prog 96 #[.pointer (some ⟨go, 0, none⟩), .string (strOfNums key)] w fun e w' => (∃ g o, e = .returned (.pointer (some ⟨g, o, none⟩)) ∧ w.cell? ⟨g, o + 3, none⟩ = some (.string (strOfNums (V j0))) ∧ w.cell? ⟨g, o + 4, none⟩ = some (.int .i64 7) ∧ w.frozen? ⟨g, o + 3, none⟩ = false ∧ w.frozen? ⟨g, o + 4, none⟩ = false ∧ B ≤ g) ∧ w' = w := by
  obtain ⟨gk, ck, rfl⟩ := kv_some h (by omega)
  have H := Lib.hid h
  have HX := Lib.hid (indexB key 92 (-1) (idx_no key 92 hkb.byt (by omega) (fun hm => (hkb 92 hm).2.2.2 rfl)))
  have u1 := h.ou
  have u0 := h.oc
  have dn : ∀ (b : Bool) (wx : World), (Op.unary .not (.bool b)).run Tryz.prog wx = .ok (.bool (!b)) wx := fun _ _ => rfl
  have HNE := Lib.hid hne
  have HK := Lib.hid hk
  have HF := Lib.hid hF
  have HKB := Lib.hid hkb
  have hcn := (own_cap h.ok).1
  have hn10 := hF.n10
  clear h hne hk hF hkb
  go_enter Tryz.func96, Tryz.ntmps96
  go_wp2_with fail
  go_at_call 125
  refine (HX.out w).mono ?_
  rintro e w' ⟨rfl, hww⟩
  subst hww
  clear HX
  go_wp2_with fail
  go_loopw [27] (fun i wr => ∃ k : Nat, k ≤ j0 ∧ i = .int .i64 k ∧ Hid (w' = wr)) (fun i _ => n - (intOf i).toNat)
  case atStart => exact ⟨0, by omega, rfl, Lib.hid rfl⟩
  case round =>
    obtain ⟨k, hk, rfl, hwr⟩ := hrel
    obtain rfl := hwr.out
    have hkn : k < n := by omega
    have hkI : (k : Int) < n := by omega
    obtain ⟨g, o, a1, a2, a3, a4, a5, a6, a7, a8, a9, a10⟩ := H.out.ent k hkn
    have c0 : w'.cell? ⟨gk, k * 2, none⟩ = some (.string (strOfNums (K k))) := own_cell H.out.ok _ _ (by rw [show k * 2 = 2 * k by omega]; exact a1)
    have c1 : w'.cell? ⟨gk, k * 2 + 1, none⟩ = some (.pointer (some ⟨g, o, none⟩)) := own_cell H.out.ok _ _ (by rw [show k * 2 + 1 = 2 * k + 1 by omega]; exact a2)
    have hkw : IntKind.i64.wrap ((k : Int) + 1) = (k : Int) + 1 := IntWalk.i64_in _ (by omega)
    have hsb := str_beq (K k) key (HF.out.kB k).byt HKB.out.byt
    have A3 := Lib.hid a3
    have A4 := Lib.hid a4
    have A5 := Lib.hid a5
    have A6 := Lib.hid a6
    have A10 := Lib.hid a10
    clear a1 a2 a3 a4 a5 a6 a7 a8 a9 a10
    by_cases hkj : k < j0
    · have hd : decide (K k = key) = false := by rw [decide_eq_false_iff_not]; exact HNE.out k hkj
      rw [hd] at hsb
      go_wp2_with fail
      exact ⟨⟨k + 1, by omega, by rw [show ((k + 1 : Nat) : Int) = (k : Int) + 1 by omega], Lib.hid trivial⟩, by simp [intOf]; omega⟩
    · obtain rfl : k = j0 := by omega
      have hd : decide (K k = key) = true := by rw [decide_eq_true_eq]; exact HK.out
      rw [hd] at hsb
      go_wp2_with fail
      go_ret
      exact ⟨⟨g, o, rfl, A3.out, A4.out, A5.out, A6.out, A10.out⟩, rfl⟩

/-- A value that is a text. -/
def TextAt (w : World) (B g o : Nat) (s : List Int) : Prop :=
  w.cell? ⟨g, o + 3, none⟩ = some (.string (strOfNums s)) ∧ w.cell? ⟨g, o + 4, none⟩ = some (.int .i64 7) ∧ w.frozen? ⟨g, o + 3, none⟩ = false ∧ w.frozen? ⟨g, o + 4, none⟩ = false ∧ B ≤ g

set_option maxRecDepth 100000 in
set_option maxHeartbeats 2000000 in
theorem valGet (gp go B nn n gv cv j0 gs c : Nat) (kv : Value) (es : List Value) (K V : Nat → List Int) (key : List Int) (w : World) (h : JM gp go B nn n n gv cv kv es K V w) (hj : j0 < n) (hk : K j0 = key) (hne : ∀ j, j < j0 → K j ≠ key) (hkb : Bare key) (hF : Fit K V n)
    (hs : w.cell? ⟨gs, 0, none⟩ = some (.string (strOfNums key))) :
    Calls Tryz.prog 76 #[.pointer (some ⟨go, 0, none⟩), .slice (some ⟨gs, 0, none⟩) 1 c] w fun e w' => (∃ g o, e = .returned (.pointer (some ⟨g, o, none⟩)) ∧ Hid (TextAt w B g o (V j0))) ∧ w' = w := by
  have HG := Lib.hid (objGet gp go B nn n gv cv j0 kv es K V key w h hj hk hne hkb hF)
  have t4 := h.ot
  clear h hk hne hkb hF
  go_enter Tryz.func76, Tryz.ntmps76
  go_wp2_with fail
  go_loopw [0, 13] (fun v i wr => Hid (w = wr) ∧ ((v = .pointer (some ⟨go, 0, none⟩) ∧ i = .int .i64 0) ∨ (i = .int .i64 1 ∧ ∃ g o, v = .pointer (some ⟨g, o, none⟩) ∧ Hid (TextAt w B g o (V j0))))) (fun _ i _ => 1 - (intOf i).toNat)
  case atStart => exact ⟨Lib.hid rfl, Or.inl ⟨rfl, rfl⟩⟩
  case round =>
    obtain ⟨hw, hor⟩ := hrel
    obtain rfl := hw.out
    rcases hor with ⟨rfl, rfl⟩ | ⟨rfl, g, o, rfl, ht⟩
    · go_wp2_with fail
      go_at_call 96
      refine HG.out.mono ?_
      rintro e w1 ⟨⟨g, o, rfl, a1, a2, a3, a4, a5⟩, hww⟩
      have HT : Hid (TextAt w B g o (V j0)) := Lib.hid ⟨a1, a2, a3, a4, a5⟩
      subst hww
      clear a1 a2 a3 a4 a5 HG
      go_wp2_with fail
      exact ⟨⟨Lib.hid (by first | trivial | rfl), Or.inr ⟨rfl, g, o, rfl, HT⟩⟩, by simp [intOf]⟩
    · go_wp2_with fail
      go_ret
      exact ⟨⟨g, o, rfl, ht⟩, rfl⟩

set_option maxRecDepth 100000 in
set_option maxHeartbeats 2000000 in
theorem unescC (s : List Int) (hs : Bare s) (w : World) : Calls Tryz.prog 98 #[.string (strOfNums s)] w fun e w' => e = .returned (.string (strOfNums s)) ∧ w' = w := by
  have HX := Lib.hid (indexB s 92 (-1) (idx_no s 92 hs.byt (by omega) (fun hm => (hs 92 hm).2.2.2 rfl)) w)
  clear hs
  go_enter Tryz.func98, Tryz.ntmps98
  go_wp2_with fail
  go_at_call 125
  refine HX.out.mono ?_
  rintro e w ⟨rfl, rfl⟩
  go_wp2_with fail
  go_ret
  exact ⟨rfl, rfl⟩

theorem s2bC (s : List Int) (hB : Byt s) (w : World) : Calls Tryz.prog 78 #[.string (strOfNums s)] w fun e w' => (∃ v, e = .returned v ∧ Bs w' v s) ∧ Below w.heap.size w w' := by
  obtain ⟨v, w1, hrun, hv, hb⟩ := run_bytesS (P := Tryz.prog) 9 22 5 Tryz.underlying9 Tryz.underlying22 Tryz.underlying5 s hB w
  have HV := Lib.hid hv
  have HB := Lib.hid hb
  clear hv hb
  go_enter Tryz.func78, Tryz.ntmps78
  go_wp2_with fail
  go_ret
  exact ⟨⟨v, rfl, HV.out⟩, HB.out⟩

set_option maxRecDepth 100000 in
set_option maxHeartbeats 2000000 in
theorem typeC (B g o : Nat) (s : List Int) (w : World) (h : TextAt w B g o s) (hs : Bare s) : Calls Tryz.prog 77 #[.pointer (some ⟨g, o, none⟩)] w fun e w' => e = .returned (.int .i64 3) ∧ w'.cell? ⟨g, o + 3, none⟩ = some (.string (strOfNums s)) ∧ Hid (Below B w w') := by
  obtain ⟨a1, a2, a3, a4, hB⟩ := h
  have HU := Lib.hid (unescC s hs w)
  have hgl : g < w.heap.size := World.block_lt_of_cell? w _ a1
  obtain ⟨w1, hw1⟩ : ∃ w1 : World, w1 = w.setCell ⟨g, o + 3, none⟩ (.string (strOfNums s)) := ⟨_, rfl⟩
  have f1 : Fr g (o + 3) (.string (strOfNums s)) w w1 := by rw [hw1]; exact Fr.made (Below.refl _ _) hgl
  have b1 : w1.cell? ⟨g, o + 3, none⟩ = some (.string (strOfNums s)) := by rw [hw1]; exact cell_set_same _ _ _ _ _ a1
  have b2 : w1.cell? ⟨g, o + 4, none⟩ = some (.int .i64 7) := f1.cellv a2 (by omega)
  have b4 : w1.frozen? ⟨g, o + 4, none⟩ = false := (f1.fz _).trans a4
  obtain ⟨w2, hw2⟩ : ∃ w2 : World, w2 = w1.setCell ⟨g, o + 4, none⟩ (.int .i64 3) := ⟨_, rfl⟩
  have f2 : Fr g (o + 4) (.int .i64 3) w1 w2 := by rw [hw2]; exact Fr.made (Below.refl _ _) (Nat.lt_of_lt_of_le hgl f1.but.size)
  have d1 : w2.cell? ⟨g, o + 3, none⟩ = some (.string (strOfNums s)) := f2.cellv b1 (by omega)
  have d2 : w2.cell? ⟨g, o + 4, none⟩ = some (.int .i64 3) := by rw [hw2]; exact cell_set_same _ _ _ _ _ b2
  have HB : Hid (Below B w w2) := Lib.hid ((f1.below hB).trans (f2.below hB))
  have D1 := Lib.hid d1
  have HW1 := Lib.hid hw1
  have HW2 := Lib.hid hw2
  clear f1 f2 hw1 hw2 hs d1
  go_enter Tryz.func77, Tryz.ntmps77
  go_wp2_with fail
  go_at_call 98
  refine HU.out.mono ?_
  rintro e w' ⟨rfl, hww⟩
  subst hww
  clear HU
  go_wp2_with fail
  go_ret
  rw [← HW1.out, ← HW2.out]
  exact ⟨rfl, D1.out, HB⟩

set_option maxRecDepth 100000 in
set_option maxHeartbeats 2000000 in
theorem stringBytes (B g o : Nat) (s : List Int) (w : World) (h : TextAt w B g o s) (hs : Bare s) (hBl : B ≤ w.heap.size) : Calls Tryz.prog 58 #[.pointer (some ⟨g, o, none⟩)] w fun e w' => (∃ v, e = .returned (.tuple #[v, .nilIface]) ∧ Hid (Bs w' v s)) ∧ Hid (Below B w w') := by
  have HT := Lib.hid (typeC B g o s w h hs)
  have HS := Lib.hid (s2bC s hs.byt)
  clear h hs
  go_enter Tryz.func58, Tryz.ntmps58
  go_wp2_with fail
  go_at_call 77
  refine HT.out.mono ?_
  rintro e w1 ⟨rfl, c1, hb1⟩
  clear HT
  go_wp2_with fail
  go_at_call 78
  refine (HS.out w1).mono ?_
  rintro e w2 ⟨⟨v, rfl, hv⟩, hb2⟩
  have HV := Lib.hid hv
  have HB := Lib.hid (hb1.out.trans (hb2.mono (Nat.le_trans hBl hb1.out.size)))
  clear hv hb2 HS
  go_wp2_with fail
  go_ret2
  exact ⟨⟨v, rfl, HV⟩, HB⟩

set_option maxRecDepth 100000 in
set_option maxHeartbeats 2000000 in
theorem headerGetC (B gh n j0 : Nat) (K V : Nat → List Int) (key : List Int) (w : World) (h : Hdr w B gh n K V) (hj : j0 < n) (hk : K j0 = key) (hne : ∀ j, j < j0 → K j ≠ key) (hkb : Bare key) (hF : Fit K V n) :
    Calls Tryz.prog 57 #[.iface 143 (.pointer (some ⟨gh, 0, none⟩)), .string (strOfNums key)] w fun e w' => (∃ g o, e = .returned (.tuple #[.pointer (some ⟨g, o, none⟩), .nilIface]) ∧ Hid (TextAt w' B g o (V j0))) ∧ Hid (Below w.heap.size w w') ∧ Hid (B ≤ w.heap.size) := by
  obtain ⟨gp, go, gv, cv, kv, es, nn, hgp, hJ, hr⟩ := h
  obtain ⟨w1, hw1⟩ : ∃ w1 : World, w1 = w.alloc (.cells #[.string (strOfNums key)] 9) := ⟨_, rfl⟩
  have hb1 : Below w.heap.size w w1 := by rw [hw1]; exact (Below.refl _ _).alloc (Nat.le_refl _) _
  have hrs : Row w1 w.heap.size 9 [.string (strOfNums key)] := by rw [hw1]; exact Row.alloc w _ _
  have HG := Lib.hid (valGet gp go (gp + 1) nn n gv cv j0 w.heap.size 1 kv es K V key w1 (hJ.later hb1) hj hk hne hkb hF (by rw [hrs.cell]; rfl))
  have c0 : w.cell? ⟨gh, 0, none⟩ = some (.pointer (some ⟨go, 0, none⟩)) := by rw [hr.cell]; rfl
  have c1 : w.cell? ⟨gh, 1, none⟩ = some .nilIface := by rw [hr.cell]; rfl
  have HB1 := Lib.hid hb1
  have HGP := Lib.hid hgp
  have HW1 := Lib.hid hw1
  have HBB : Hid (B ≤ w.heap.size) := Lib.hid (by have := hJ.hB; omega)
  have hta : ∀ wx, (Instr.typeAssert (.iface 143 (.pointer (some ⟨gh, 0, none⟩))) 82 143 false).run Tryz.prog wx = .ok (.pointer (some ⟨gh, 0, none⟩)) wx := fun _ => by kernel_rfl
  clear hJ hr hw1 hb1 hrs hk hne hkb hF
  go_enter Tryz.func57, Tryz.ntmps57
  go_wp2_with fail
  rw [← HW1.out]
  go_at_call 76
  refine HG.out.mono ?_
  rintro e w2 ⟨⟨g, o, rfl, ht⟩, hww⟩
  subst hww
  have HT : Hid (TextAt w2 B g o (V j0)) := Lib.hid (by
    obtain ⟨a1, a2, a3, a4, a5⟩ := ht.out
    have := HGP.out
    exact ⟨a1, a2, a3, a4, by omega⟩)
  clear HG ht HW1
  go_wp2_with fail
  go_ret2
  exact ⟨⟨g, o, rfl, HT⟩, HB1, HBB⟩

set_option maxRecDepth 100000 in
set_option maxHeartbeats 2000000 in
theorem headerGetS (B gh n j0 : Nat) (K V : Nat → List Int) (key : List Int) (w : World) (h : Hdr w B gh n K V) (hj : j0 < n) (hk : K j0 = key) (hne : ∀ j, j < j0 → K j ≠ key) (hkb : Bare key) (hF : Fit K V n) :
    Calls Tryz.prog 35 #[.iface 143 (.pointer (some ⟨gh, 0, none⟩)), .string (strOfNums key)] w fun e w' => e = .returned (.tuple #[.string (strOfNums (V j0)), .nilIface]) ∧ Hid (Below B w w') := by
  have HG := Lib.hid (headerGetC B gh n j0 K V key w h hj hk hne hkb hF)
  have HVB := Lib.hid (hF.vB j0)
  clear h hk hne hkb hF
  go_enter Tryz.func35, Tryz.ntmps35
  go_wp2_with fail
  go_at_call 57
  refine HG.out.mono ?_
  rintro e w1 ⟨⟨g, o, rfl, ht⟩, hb1, hBB⟩
  have HS := Lib.hid (stringBytes B g o (V j0) w1 ht.out HVB.out (Nat.le_trans hBB.out hb1.out.size))
  clear HG ht
  go_wp2_with fail
  go_at_call 58
  refine HS.out.mono ?_
  rintro e w2 ⟨⟨v, rfl, hv⟩, hb2⟩
  have hcv := hv.out.convert Tryz.underlying22 Tryz.underlying5 Tryz.underlying9
  have HB2 := Lib.hid ((hb1.out.mono hBB.out).trans hb2.out)
  clear HS hv
  go_wp2_with fail
  go_ret2
  exact ⟨rfl, HB2⟩

set_option maxRecDepth 100000 in
set_option maxHeartbeats 2000000 in
theorem headStringC (n j0 : Nat) (K V : Nat → List Int) (key : List Int) (vb : Value) (w : World) (hv : Bs w vb (jtext K V n)) (hj : j0 < n) (hk : K j0 = key) (hne : ∀ j, j < j0 → K j ≠ key) (hkb : Bare key) (hF : Fit K V n) :
    Calls Tryz.prog 30 #[vb, .string (strOfNums key)] w fun e w' => e = .returned (.tuple #[.string (strOfNums (V j0)), .bool true]) ∧ Hid (Below w.heap.size w w') := by
  have HH := Lib.hid (headC n K V vb w hF hv)
  have HP := Lib.hid (fun B gh w' (h : Hdr w' B gh n K V) => headerGetS B gh n j0 K V key w' h hj hk hne hkb hF)
  clear hv hk hne hkb hF
  go_enter Tryz.func30, Tryz.ntmps30
  go_wp2_with fail
  go_at_call 53
  refine HH.out.mono ?_
  rintro e w1 ⟨⟨gh, B, rfl, hB, hh⟩, hb1⟩
  have HG := Lib.hid (HP.out B gh w1 hh.out)
  clear HH HP hh
  go_wp2_with fail
  go_at_call 35
  refine HG.out.mono ?_
  rintro e w2 ⟨rfl, hb2⟩
  have HB2 := Lib.hid (hb1.out.trans (hb2.out.mono hB))
  clear HG
  go_wp2_with fail
  go_quiet (fail)
  go_wp2_with fail
  go_ret2
  exact ⟨rfl, Lib.hid (HB2.out.trans ⟨rfl, rfl, rfl, Nat.le_refl _, fun _ _ => rfl⟩)⟩
end Go.Proofs.YtaemdppihpefnaaGreatDoor

/- jwsbb's HeaderParseCompact; impl.HeadCompact. -/
namespace Go.Proofs.YtaemdppihpefnaaGreatDoor
open Go.RowKit
set_option linter.unusedVariables false

set_option maxRecDepth 100000 in
set_option maxHeartbeats 2000000 in
theorem headerParseC (n : Nat) (K V : Nat → List Int) (hd : List Nat) (vb : Value) (w : World) (hF : Fit K V n) (hjt : jtext K V n = bi hd) (hdb : ∀ x ∈ hd, x < 256) (hdl : hd.length ≤ 65536) (hv : Bs w vb (bi (B64.enc hd))) :
    Calls Tryz.prog 36 #[vb] w fun e w' => (∃ gh B, e = .returned (.iface 143 (.pointer (some ⟨gh, 0, none⟩))) ∧ Hid (w.heap.size ≤ B) ∧ Hid (Hdr w' B gh n K V)) ∧ Hid (Below w.heap.size w w') := by
  have D := Lib.hid (decodeB vb hd w hv hdb hdl)
  have HF := Lib.hid hF
  have HJ := Lib.hid hjt
  clear hv hF hjt hdb
  go_enter Tryz.func36, Tryz.ntmps36
  go_wp2_with fail
  go_at_call 52
  refine D.out.mono ?_
  rintro e w1 ⟨⟨v, rfl, hv⟩, hb⟩
  have HB1 := Lib.hid hb
  have HP := Lib.hid (headerParse n K V v w1 HF.out (by rw [HJ.out]; exact hv))
  clear hv hb D
  go_wp2_with fail
  go_at_call 59
  refine HP.out.mono ?_
  rintro e w2 ⟨⟨gh, rfl, hh⟩, hb2⟩
  have HB2 := Lib.hid (HB1.out.trans (hb2.out.mono HB1.out.size))
  have HS := Lib.hid HB1.out.size
  clear hb2 HP
  go_wp2_with fail
  go_ret
  exact ⟨⟨gh, _, rfl, HS, hh⟩, HB2⟩

set_option maxRecDepth 100000 in
set_option maxHeartbeats 2000000 in
theorem headCompact (n j0 : Nat) (K V : Nat → List Int) (key : List Int) (hd : List Nat) (vb : Value) (w : World) (hjt : jtext K V n = bi hd) (hdb : ∀ x ∈ hd, x < 256) (hdl : hd.length ≤ 65536) (hv : Bs w vb (bi (B64.enc hd))) (hj : j0 < n) (hk : K j0 = key) (hne : ∀ j, j < j0 → K j ≠ key) (hkb : Bare key) (hF : Fit K V n) :
    Calls Tryz.prog 19 #[vb, .string (strOfNums key)] w fun e w' => e = .returned (.tuple #[.string (strOfNums (V j0)), .bool true]) ∧ Hid (Below w.heap.size w w') := by
  have C := Lib.hid (clone vb _ w hv (by rw [bi_len, B64.enc_len]; omega))
  have HH := Lib.hid (fun v w' (h : Bs w' v (bi (B64.enc hd))) => headerParseC n K V hd v w' hF hjt hdb hdl h)
  have HP := Lib.hid (fun B gh w' (h : Hdr w' B gh n K V) => headerGetS B gh n j0 K V key w' h hj hk hne hkb hF)
  clear hv hk hne hkb hF hjt hdb
  go_enter Tryz.func19, Tryz.ntmps19
  go_wp2_with fail
  go_at_call 7
  refine C.out.mono ?_
  rintro e w0 ⟨v0, rfl, own0, hb0⟩
  have HB0 := Lib.hid hb0
  have HQ := Lib.hid (HH.out v0 w0 (Bs.own own0))
  clear own0 hb0 C HH
  go_wp2_with fail
  go_at_call 36
  refine HQ.out.mono ?_
  rintro e w1 ⟨⟨gh, B, rfl, hB, hh⟩, hb1⟩
  have HB1 := Lib.hid (HB0.out.trans (hb1.out.mono HB0.out.size))
  have HBB := Lib.hid (Nat.le_trans HB0.out.size hB.out)
  have HG := Lib.hid (HP.out B gh w1 hh.out)
  clear HQ HP hh hb1 hB
  go_wp2_with fail
  go_at_call 35
  refine HG.out.mono ?_
  rintro e w2 ⟨rfl, hb2⟩
  have HB2 := Lib.hid (HB1.out.trans (hb2.out.mono HBB.out))
  clear HG hb2
  go_wp2_with fail
  go_quiet (fail)
  go_wp2_with fail
  go_ret2
  exact ⟨rfl, Lib.hid (HB2.out.trans ⟨rfl, rfl, rfl, Nat.le_refl _, fun _ _ => rfl⟩)⟩
end Go.Proofs.YtaemdppihpefnaaGreatDoor
