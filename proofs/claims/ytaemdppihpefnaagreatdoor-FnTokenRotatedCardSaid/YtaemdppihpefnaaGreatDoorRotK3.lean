/- FnTokenRotated: a round of kind 3. -/
import Derived.Test.YtaemdppihpefnaaGreatDoorRotKit
import Derived.Test.YtaemdppihpefnaaGreatDoorKeyRun
namespace Go.Proofs.YtaemdppihpefnaaGreatDoor
open Go.RowKit
set_option linter.unusedVariables false

theorem below_drews {B : Nat} {a w : World} (h : Below B a w) (n : Nat) : Below B a (w.drewN n) := h.trans ⟨rfl, rfl, rfl, Nat.le_refl _, fun _ _ => rfl⟩

set_option maxRecDepth 1000000 in
set_option maxHeartbeats 80000000 in
theorem rotK3 (Hs : Nat → HK) (pm : Option Addr) (n c : Nat) (f : Nat → Nat → Int) (w wb wr : World) (kg kc k : Nat) (hA : ∀ n, n < 3 → AlgOk n (Hs n) ∧ Row w (Hs n).kg (Hs n).kT (Hs n).kC) (he : Ev w) (hm : MV w pm n f) (hBw : Below w.heap.size w wb) (hKD : KD wb kg) (hn3 : n ≤ 40) (hkn : k < n) (hK : kdF f k = 3)
    {c0 c1 c4 c28 c29 c30 c31 c32 c33 c34 c35 c36 c37 c38 c39 c40 c41 c42 c43 c44 c45 c46 c47 c48 c49 c231 : Value} {u2 u5 u6 u7 u8 u9 u10 u11 u12 u13 u14 u15 u16 u17 u18 u19 u20 u21 u22 u23 u24 u25 u26 u27 u53 u54 u55 u56 u57 u58 u59 u60 u61 u62 u63 u64 u65 u66 u67 u68 u69 u70 u71 u72 u73 u74 u75 u76 u77 u78 u79 u80 u81 u82 u83 u84 u85 u86 u87 u88 u89 u90 u91 u92 u93 u94 u95 u96 u97 u98 u99 u100 u101 u102 u103 u104 u105 u106 u107 u108 u109 u110 u111 u112 u113 u114 u115 u116 u117 u118 u119 u120 u121 u122 u123 u124 u125 u126 u127 u128 u129 u130 u131 u132 u133 u134 u135 u136 u137 u138 u139 u140 u141 u142 u143 u144 u145 u146 u147 u148 u149 u150 u151 u152 u153 u154 u155 u156 u157 u158 u159 u160 u161 u162 u163 u164 u165 u166 u167 u168 u169 u170 u171 u172 u173 u174 u175 u176 u177 u178 u179 u180 u181 u182 u183 u184 u185 u186 u187 u188 u189 u190 u191 u192 u193 u194 u195 u196 u197 u198 u199 u200 u201 u202 u203 u204 u205 u206 u207 u208 u209 u210 u211 u212 u213 u214 u215 u216 u217 u218 u219 u220 u221 u222 u223 u224 u225 u226 u227 u228 u229 u230 : Value}
    (hLG : LG wb Hs (stepsN (kdF f) (kyF f) k) (hereN (kdF f) (kyF f) k) (toksN (kdF f) (kyF f) (alF f) k) u5 u6 u7 u8 wr) {Q : Exit → Act → World → Prop}
    (hQ : ∀ (v2 v5 v6 v7 v8 v9 v10 v11 v12 v13 v14 v15 v16 v17 v18 v19 v20 v21 v22 v23 v24 v25 v26 v27 v53 v54 v55 v56 v57 v58 v59 v60 v61 v62 v63 v64 v65 v66 v67 v68 v69 v70 v71 v72 v73 v74 v75 v76 v77 v78 v79 v80 v81 v82 v83 v84 v85 v86 v87 v88 v89 v90 v91 v92 v93 v94 v95 v96 v97 v98 v99 v100 v101 v102 v103 v104 v105 v106 v107 v108 v109 v110 v111 v112 v113 v114 v115 v116 v117 v118 v119 v120 v121 v122 v123 v124 v125 v126 v127 v128 v129 v130 v131 v132 v133 v134 v135 v136 v137 v138 v139 v140 v141 v142 v143 v144 v145 v146 v147 v148 v149 v150 v151 v152 v153 v154 v155 v156 v157 v158 v159 v160 v161 v162 v163 v164 v165 v166 v167 v168 v169 v170 v171 v172 v173 v174 v175 v176 v177 v178 v179 v180 v181 v182 v183 v184 v185 v186 v187 v188 v189 v190 v191 v192 v193 v194 v195 v196 v197 v198 v199 v200 v201 v202 v203 v204 v205 v206 v207 v208 v209 v210 v211 v212 v213 v214 v215 v216 v217 v218 v219 v220 v221 v222 v223 v224 v225 v226 v227 v228 v229 v230 : Value) (w' : World), LG wb Hs (stepsN (kdF f) (kyF f) (k + 1)) (hereN (kdF f) (kyF f) (k + 1)) (toksN (kdF f) (kyF f) (alF f) (k + 1)) v5 v6 v7 v8 w' → Q .normal ⟨#[c0, c1, v2, .slice (some ⟨kg, 0, none⟩) 6 kc, c4, v5, v6, v7, v8, v9, v10, v11, v12, v13, v14, v15, v16, v17, v18, v19, v20, v21, v22, v23, v24, v25, v26, v27, c28, c29, c30, c31, c32, c33, c34, c35, c36, c37, c38, c39, c40, c41, c42, c43, c44, c45, c46, c47, c48, c49, .slice pm n c, .int .i64 n, .int .i64 ((k : Int) + 1), v53, v54, v55, v56, v57, v58, v59, v60, v61, v62, v63, v64, v65, v66, v67, v68, v69, v70, v71, v72, v73, v74, v75, v76, v77, v78, v79, v80, v81, v82, v83, v84, v85, v86, v87, v88, v89, v90, v91, v92, v93, v94, v95, v96, v97, v98, v99, v100, v101, v102, v103, v104, v105, v106, v107, v108, v109, v110, v111, v112, v113, v114, v115, v116, v117, v118, v119, v120, v121, v122, v123, v124, v125, v126, v127, v128, v129, v130, v131, v132, v133, v134, v135, v136, v137, v138, v139, v140, v141, v142, v143, v144, v145, v146, v147, v148, v149, v150, v151, v152, v153, v154, v155, v156, v157, v158, v159, v160, v161, v162, v163, v164, v165, v166, v167, v168, v169, v170, v171, v172, v173, v174, v175, v176, v177, v178, v179, v180, v181, v182, v183, v184, v185, v186, v187, v188, v189, v190, v191, v192, v193, v194, v195, v196, v197, v198, v199, v200, v201, v202, v203, v204, v205, v206, v207, v208, v209, v210, v211, v212, v213, v214, v215, v216, v217, v218, v219, v220, v221, v222, v223, v224, v225, v226, v227, v228, v229, v230, c231], []⟩ w') :
    Code.wp Tryz.prog rbody Q ⟨#[c0, c1, u2, .slice (some ⟨kg, 0, none⟩) 6 kc, c4, u5, u6, u7, u8, u9, u10, u11, u12, u13, u14, u15, u16, u17, u18, u19, u20, u21, u22, u23, u24, u25, u26, u27, c28, c29, c30, c31, c32, c33, c34, c35, c36, c37, c38, c39, c40, c41, c42, c43, c44, c45, c46, c47, c48, c49, .slice pm n c, .int .i64 n, .int .i64 k, u53, u54, u55, u56, u57, u58, u59, u60, u61, u62, u63, u64, u65, u66, u67, u68, u69, u70, u71, u72, u73, u74, u75, u76, u77, u78, u79, u80, u81, u82, u83, u84, u85, u86, u87, u88, u89, u90, u91, u92, u93, u94, u95, u96, u97, u98, u99, u100, u101, u102, u103, u104, u105, u106, u107, u108, u109, u110, u111, u112, u113, u114, u115, u116, u117, u118, u119, u120, u121, u122, u123, u124, u125, u126, u127, u128, u129, u130, u131, u132, u133, u134, u135, u136, u137, u138, u139, u140, u141, u142, u143, u144, u145, u146, u147, u148, u149, u150, u151, u152, u153, u154, u155, u156, u157, u158, u159, u160, u161, u162, u163, u164, u165, u166, u167, u168, u169, u170, u171, u172, u173, u174, u175, u176, u177, u178, u179, u180, u181, u182, u183, u184, u185, u186, u187, u188, u189, u190, u191, u192, u193, u194, u195, u196, u197, u198, u199, u200, u201, u202, u203, u204, u205, u206, u207, u208, u209, u210, u211, u212, u213, u214, u215, u216, u217, u218, u219, u220, u221, u222, u223, u224, u225, u226, u227, u228, u229, u230, c231], []⟩ wr := by
  conv => arg 2; whnf
  have HA := Lib.hid hA
  have HE := Lib.hid he
  have HM := Lib.hid hm
  have HB := Lib.hid hBw
  have HKD := Lib.hid hKD
  have HQ := Lib.hid hQ
  have hL := Lib.hid hLG
  have HK := Lib.hid hK
  have dn : ∀ (b : Bool) (wx : World), (Op.unary .not (.bool b)).run Tryz.prog wx = .ok (.bool (!b)) wx := fun _ _ => rfl
  clear hA he hm hBw hKD hQ hLG hK
  have hkI : (k : Int) < n := by omega
  have hkw : IntKind.i64.wrap ((k : Int) + 1) = (k : Int) + 1 := IntWalk.i64_in _ (by omega)
  have hbw := HB.out.trans (hL.out.bel.mono HB.out.size)
  have hMr := HM.out.below hbw
  obtain ⟨b, o, rfl, hmc⟩ := hMr.1 (by omega)
  obtain ⟨m0, m1, m2, m3⟩ := hmc k hkn
  have hbd := HM.out.2 k
  have hb0 := hbd 0
  have hb1 := hbd 1
  have hb2 := hbd 2
  have hb3 := hbd 3
  have HST : Hid (stepsN (kdF f) (kyF f) (k + 1) = if kdF f k = 0 then stepsN (kdF f) (kyF f) k ++ [(0, kyF f k)] else if kdF f k = 1 then stepsN (kdF f) (kyF f) k ++ [(1, kyF f k)] else stepsN (kdF f) (kyF f) k) := Lib.hid rfl
  have HHE : Hid (hereN (kdF f) (kyF f) (k + 1) = if kdF f k = 0 then addN (kyF f k) (hereN (kdF f) (kyF f) k) else if kdF f k = 1 then dropN (kyF f k) (hereN (kdF f) (kyF f) k) else hereN (kdF f) (kyF f) k) := Lib.hid rfl
  have HTK : Hid (toksN (kdF f) (kyF f) (alF f) (k + 1) = if kdF f k = 2 then toksN (kdF f) (kyF f) (alF f) k ++ [(alF f k, k, kyF f k)] else toksN (kdF f) (kyF f) (alF f) k) := Lib.hid rfl
  have HSO := Lib.hid (stepsN_ok (kdF f) (kyF f) 6 (fun i => by unfold kyF; have := HM.out.2 i 1; omega) k)
  have HTO := Lib.hid (toksN_ok (kdF f) (kyF f) (alF f) 6 (fun i => by unfold kyF; have := HM.out.2 i 1; omega) (fun i => by unfold alF; have := HM.out.2 i 3; omega) k)
  have HSH := Lib.hid (set_here (kdF f) (kyF f) k)
  have hsl := stepsN_len (kdF f) (kyF f) k
  have hhl := hereN_len (kdF f) (kyF f) k
  have htl := toksN_len (kdF f) (kyF f) (alF f) k
  have hky : (f k 1).tmod 6 = (kyF f k : Int) := by rw [Int.tmod_eq_emod_of_nonneg hb1.1]; unfold kyF; omega
  have hkd : (f k 0).tmod 4 = (kdF f k : Int) := by rw [Int.tmod_eq_emod_of_nonneg hb0.1]; unfold kdF; omega
  have hq6 : kyF f k < 6 := by unfold kyF; omega
  have hd4 : kdF f k < 4 := by unfold kdF; omega
  have HAL : Hid ((f k 3 % 3).toNat = alF f k) := Lib.hid rfl
  generalize stepsN (kdF f) (kyF f) k = st at *
  generalize hereN (kdF f) (kyF f) k = he at *
  generalize toksN (kdF f) (kyF f) (alF f) k = tk at *
  generalize kyF f k = q at *
  generalize kdF f k = kd at *
  generalize alF f k = al at *
  generalize f k 0 = x0 at *
  generalize f k 1 = x1 at *
  generalize f k 2 = x2 at *
  generalize f k 3 = x3 at *
  have hqI : (0 : Int) ≤ q := by omega
  have hq64 : IntKind.i64.wrap (q : Int) = q := IntWalk.i64_in _ (by omega)
  have HBW := Lib.hid hbw
  clear hbw hMr hmc hbd hb0 hb1
  go_upto_region 20 with (fail)
  obtain ⟨W1, hW1⟩ : ∃ W1 : World, (wr.alloc (.cells #[.int .u8 x0, .int .u8 x1, .int .u8 x2, .int .u8 x3] 43)).alloc (.cells #[.int .u8 q] 5) = W1 := ⟨_, rfl⟩
  obtain ⟨hrm, hrq, hs1, hb1⟩ := two hW1
  have HRM := Lib.hid hrm
  have HRQ := Lib.hid hrq
  have hL1 := hL.out.below hb1
  have HL1 := Lib.hid hL1
  have HBW1 := Lib.hid (HBW.out.trans (hb1.mono HBW.out.size))
  have q1 : W1.cell? ⟨wr.heap.size + 1, 0, none⟩ = some (.int .u8 q) := by rw [hrq.cell]; rfl
  have HQW : Hid (wr.heap.size + 1 < W1.heap.size) := Lib.hid hrq.lt
  have HBB : Hid (wb.heap.size ≤ wr.heap.size) := Lib.hid hL.out.bel.size
  have p2 : W1.cell? ⟨wr.heap.size, 2, none⟩ = some (.int .u8 x2) := by rw [hrm.cell]; rfl
  have p3 : W1.cell? ⟨wr.heap.size, 3, none⟩ = some (.int .u8 x3) := by rw [hrm.cell]; rfl
  rw [hW1]
  clear hrm hrq hs1 hb1 hL1 hL hW1 m0 m1 m2 m3 hky hkd
  obtain rfl := HK.out
  have e0 : ((3 : Nat) : Int) = 3 := rfl
  rw [e0]
  have HS' : Hid (stepsN (kdF f) (kyF f) (k + 1) = st) := Lib.hid (by rw [HST.out, if_neg (by omega), if_neg (by omega)])
  have HH' : Hid (hereN (kdF f) (kyF f) (k + 1) = he) := Lib.hid (by rw [HHE.out, if_neg (by omega), if_neg (by omega)])
  have HT' : Hid (toksN (kdF f) (kyF f) (alF f) (k + 1) = tk) := Lib.hid (by rw [HTK.out, if_neg (by omega)])
  obtain ⟨ts, ht1, ht2⟩ := HL1.out.toks
  obtain ⟨pt, ct, hu7⟩ := own_any ht1
  obtain ⟨po, co, hu8⟩ := own_any HL1.out.own
  obtain ⟨pq, cq, hu5⟩ := own_any HL1.out.steps
  obtain ⟨m, hm⟩ : ∃ m, tk.length = m := ⟨_, rfl⟩
  obtain ⟨s, hs⟩ : ∃ s, st.length = s := ⟨_, rfl⟩
  rw [hm] at hu7 hu8
  rw [hs] at hu5
  subst hu7 hu8 hu5
  have hs40 : s ≤ 40 := by omega
  have hm40 : m ≤ 40 := by omega
  by_cases hm0 : m = 0
  · subst hm0
    clear ht1 ht2 hm hs
    go_wp2_with fail
    apply HQ.out
    rw [HS'.out, HH'.out, HT'.out]
    exact HL1.out
  · have hmI : ¬ (m : Int) = 0 := by omega
    have hmI0 : ¬ (m : Int) ≤ 0 := by omega
    obtain ⟨gt, rfl⟩ := own_pos ht1 (by omega)
    obtain ⟨go, rfl⟩ := own_pos HL1.out.own (by omega)
    obtain ⟨a, ham, hat⟩ : ∃ a : Nat, a < m ∧ x2.tmod (m : Int) = a := by
      have h1 := Int.emod_nonneg x2 (show (m : Int) ≠ 0 by omega)
      have h2 := Int.emod_lt_of_pos x2 (show (0 : Int) < m by omega)
      rw [Int.tmod_eq_emod_of_nonneg hb2.1]
      generalize x2 % (m : Int) = y at h1 h2 ⊢
      exact ⟨y.toNat, by omega, by omega⟩
    have hbA : a < tk.length := by omega
    obtain ⟨tv, htv, hX, -, -, -⟩ := ht2 a hbA
    obtain ⟨⟨A, I, o⟩, hx⟩ : ∃ x, tk[a] = x := ⟨_, rfl⟩
    rw [hx] at hX
    have hmem : (A, I, o) ∈ tk := hx ▸ List.getElem_mem hbA
    obtain ⟨hA3, hIk, ho6⟩ : A < 3 ∧ I < k ∧ o < 6 := HTO.out _ hmem
    have hX : Bs W1 tv (tokG (Hs A) (hdK A o) [I, o] (octL o)) := hX
    obtain ⟨pv, lv, cv, rfl⟩ : ∃ p l c, tv = .slice p l c := by
      obtain ⟨p, c, h, _⟩ := id hX; exact ⟨_, _, _, h⟩
    have cO : W1.cell? ⟨go, a, none⟩ = some (.int .u8 o) := own_cellM HL1.out.own (by simp [cs8, bi, hbA, hx])
    have cT : W1.cell? ⟨gt, a, none⟩ = some (.slice pv lv cv) := own_cellM ht1 htv
    have hTL := tokG_len (Hs A) (hdK A o) [I, o] (octL o) hdK_len
    have hTL2 : (tokG (Hs A) (hdK A o) [I, o] (octL o)).length ≤ 1000 := by simp at hTL; omega
    have HC1 := Lib.hid (clone (.slice pv lv cv) _ W1 hX (by omega))
    have HX := Lib.hid hX
    have HTL := Lib.hid hTL2
    have HM' := Lib.hid hm
    have HS1 := Lib.hid hs
    have hx264 : IntKind.i64.wrap x2 = x2 := IntWalk.i64_in _ (by omega)
    have ha64 : IntKind.i64.wrap (a : Int) = a := IntWalk.i64_in _ (by omega)
    have haI : (a : Int) < m := by omega
    have ha0 : (0 : Int) ≤ a := by omega
    have HAn := Lib.hid (HA.out A hA3)
    have CO := Lib.hid cO
    have CT := Lib.hid cT
    clear ht1 ht2 hm hs hX hTL hTL2 hmem hx htv cO hbA
    go_wp2_with fail
    go_at_call 7
    refine HC1.out.mono ?_
    rintro e w1 ⟨v1, rfl, own1, b1⟩
    have B1 := Lib.hid b1
    have S := Lib.hid (split v1 _ w1 (Bs.own own1) (by have := HTL.out; omega) (HE.out.below (HBW1.out.trans (b1.mono HBW1.out.size))))
    clear own1 b1 HC1
    go_wp2_with fail
    go_at_call 18
    refine S.out.mono ?_
    rintro e w2 ⟨hs4, b2⟩
    obtain ⟨r0, r1, r2, r3⟩ := tok_parts (hdK A o) [I, o] (macG (Hs A) (hdK A o) [I, o] (octL o)) (hdK_lt hA3 ho6) (by intro x hx; simp at hx; omega) (macG_lt _ _ _ _)
    have hs4 : Split4 w2 (joinB (hdK A o) [I, o] (macG (Hs A) (hdK A o) [I, o] (octL o))) e := hs4
    rw [Split4, r0, if_pos rfl, r1, r2, r3] at hs4
    obtain ⟨va, vb, vc, rfl, ha, -, -⟩ := hs4
    have B2 := Lib.hid (B1.out.trans (b2.mono B1.out.size))
    have HJT : Hid (jtext kK (kV (nmI A) (idL o)) 3 = bi (hdK A o)) := Lib.hid (hdK_bi hA3 ho6).symm
    have HFT := Lib.hid (kFit (nm_plain A) (idL_plain ho6) (by rw [nm_len]; omega) (by simp [idL]) (by rw [nm_len]; omega) (by simp [idL]))
    have HCO := Lib.hid (headCompact 3 2 kK (kV (nmI A) (idL o)) sKid (hdK A o) va w2 HJT.out (hdK_lt hA3 ho6) (by have := @hdK_len A o; omega) ha (by omega) rfl (fun j hj => by
      have : j = 0 ∨ j = 1 := by omega
      rcases this with rfl | rfl <;> decide) (by intro x hx; simp [sKid] at hx; omega) HFT.out)
    rw [eKid, show kV (nmI A) (idL o) 2 = idL o from rfl] at HCO
    clear hs4 ha b2 S r0 r1 r2 r3
    go_wp2_with fail
    go_at_call 19
    refine HCO.out.mono ?_
    rintro e w3 ⟨rfl, b3⟩
    have B3 := Lib.hid (B2.out.trans (b3.out.mono B2.out.size))
    have HCS := Lib.hid (cloneSt wb.heap.size st.length (.slice pq s cq) (stC st) w3 (HL1.out.below B3.out).steps (stC_one st) (by omega))
    clear b3 HCO
    go_wp2_with fail
    go_at_call 21
    refine HCS.out.mono ?_
    rintro e w4 ⟨v4, rfl, own4, b4⟩
    obtain ⟨W5, hW5⟩ : ∃ W5 : World, W5 = w4.alloc (.cells #[.int .i64 4, .int .i64 0, .int .i64 0, .string (strOfNums (idL o)), .string (⟨#[]⟩ : ByteArray)] 45) := ⟨_, rfl⟩
    have b5 : Below w4.heap.size w4 W5 := by rw [hW5]; exact (Below.refl _ _).alloc (Nat.le_refl _) _
    have hr5 : Row W5 w4.heap.size 45 [.int .i64 4, .int .i64 0, .int .i64 0, .string (strOfNums (idL o)), .string (⟨#[]⟩ : ByteArray)] := by rw [hW5]; exact Row.alloc w4 _ _
    have own5 := own_below own4 b5
    obtain ⟨v5', w6, hrun, how6, hg6, -, g6, c6, rfl⟩ := run_one (P := Tryz.prog) W5 w3.heap.size 40 45 _ 5 56 Tryz.underlying40 zStep rfl (by decide) (by decide) v4 st.length (stC st) own5 (by omega) ⟨w4.heap.size, 0, none⟩ 1 [.int .i64 4, .int .i64 0, .int .i64 0, .string (strOfNums (idL o)), .string (⟨#[]⟩ : ByteArray)] rfl (fun jj u hu => by rw [Go.WideShapes.add_plain, hr5.cell, Nat.zero_add]; exact hu) (by intro u hu; simp only [List.mem_cons, List.not_mem_nil, or_false] at hu; rcases hu with rfl | rfl | rfl | rfl | rfl <;> rfl) (by have := b4.size; have := b5.size; omega)
    have bw6 : Below W1.heap.size W1 w6 := by
      have h5 : Below w3.heap.size w3 W5 := b4.trans (b5.mono b4.size)
      exact (B3.out.trans (h5.mono B3.out.size)).grown hg6 (Nat.le_trans B3.out.size h5.size) (fun r hr => Nat.le_trans B3.out.size (own_row own5 hr).1)
    have hkr := keyRun kg kc g6 c6 (asked st o) w6 (HKD.out.below (HL1.out.bel.trans (bw6.mono HL1.out.bel.size))) (SD.own (by rw [stG_asked]; exact how6)) (by rw [asked_len]; omega) (by rw [asked_len]; omega) (asked_ok HSO.out ho6)
    rw [asked_len, HS1.out] at hkr
    rw [HS1.out] at hrun
    have HKR := Lib.hid hkr
    have HRUN := Lib.hid hrun
    have HW5 := Lib.hid hW5
    have B6 := Lib.hid bw6
    clear hkr hrun hW5 bw6 own4 own5 b4 b5 hr5 how6 hg6 HCS
    go_wp2_with (at_builtin; rw [← HW5.out]; refine Lib.wpList_append_run _ rfl _ _ _ _ rfl _ _ rfl rfl _ _ (HRUN.out _) ?_)
    go_at_call 20
    refine HKR.out.mono ?_
    rintro e w7 ⟨⟨v7', B7', qs, xs, rfl, hq7, hqn, hB7, ho7, hfin⟩, b7⟩
    obtain ⟨p7, c7, rfl⟩ := own_any ho7
    obtain ⟨g7, rfl⟩ := own_pos ho7 (by omega)
    have hla := look_asked hqn st o (fun x hx => by have := (HSO.out x hx).2; omega) (by omega)
    have hfa := fnd_asked hqn st o (fun x hx => by have := (HSO.out x hx).2; omega) (by omega)
    obtain ⟨⟨f0, f2⟩, n3, p4, m4, c4', f1, f3, f4, f5⟩ := hfin s (by omega) (by rw [← HS1.out, asked_last])
    rw [HS1.out] at hla hfa
    rw [HSH.out] at hla hfa
    obtain ⟨bb, hbb⟩ : ∃ bb, (lookAt qs (asked st o) s).isSome = bb := ⟨_, rfl⟩
    obtain ⟨fv, hfv⟩ : ∃ fv, fndI qs (lookAt qs (asked st o) s) = fv := ⟨_, rfl⟩
    rw [hbb] at f0
    rw [hfv] at f2
    have k0 := own_cellM ho7 f0
    have k1 := own_cellM ho7 f1
    have k2 := own_cellM ho7 f2
    have k3 := own_cellM ho7 f3
    have k4 := own_cellM ho7 f4
    have k5 := own_cellM ho7 f5
    have hbo : bb = decide (o ∈ he) := by
      rw [← hbb, hla]
      by_cases h : o ∈ he
      · rw [if_pos h, decide_eq_true h]; rfl
      · rw [if_neg h, decide_eq_false h]; rfl
    have HFV : Hid (bb = true → fv = (o : Int)) := Lib.hid (fun h => by rw [← hfv]; exact hfa (by simpa [hbo] using h))
    have hmi : ((o : Int) ∈ bi he) ↔ o ∈ he := by
      constructor
      · intro h; obtain ⟨y, hy, e⟩ := List.mem_map.1 h; have : y = o := by omega
        exact this ▸ hy
      · intro h; exact List.mem_map.2 ⟨o, h, rfl⟩
    have HBO : Hid (decide ((o : Int) ∈ bi he) = bb) := Lib.hid (by rw [hbo]; exact decide_eq_decide.2 hmi)
    have B7 := Lib.hid (B6.out.trans (b7.mono B6.out.size))
    have hsw : IntKind.i64.wrap ((s : Int) + 1) = (s : Int) + 1 := IntWalk.i64_in _ (by omega)
    have hsI : (s : Int) < (s : Int) + 1 := by omega
    clear hla hfa hfin f0 f1 f2 f3 f4 f5 hbb hfv hbo hmi ho7 b7 HKR HRUN HW5
    go_upto_region 42 with (fail)
    obtain ⟨W8, hW8⟩ : ∃ W8 : World, w7.alloc (.cells #[.bool bb, .int .i64 (-1), .int .i64 fv, .int .i64 n3, .slice p4 m4 c4', .slice none 0 0] 59) = W8 := ⟨_, rfl⟩
    have b8 : Below w7.heap.size w7 W8 := by rw [← hW8]; exact (Below.refl _ _).alloc (Nat.le_refl _) _
    have r8 : Row W8 w7.heap.size 59 [.bool bb, .int .i64 (-1), .int .i64 fv, .int .i64 n3, .slice p4 m4 c4', .slice none 0 0] := by rw [← hW8]; exact Row.alloc w7 _ _
    have B8 := Lib.hid (B7.out.trans (b8.mono B7.out.size))
    rw [hW8]
    have n0 : W8.cell? ⟨w7.heap.size, 0, none⟩ = some (.bool bb) := by rw [r8.cell]; rfl
    have nO : W8.cell? ⟨go, a, none⟩ = some (.int .u8 o) := by rw [B8.out.cell (p := ⟨go, a, none⟩) (World.block_lt_of_cell? W1 _ CO.out)]; exact CO.out
    have HC8 : Hid (∀ nq, Calls Tryz.prog 14 #[u6, .int .u8 o] (W8.drewN nq) fun e w' => e = .returned (.bool bb) ∧ w' = W8.drewN nq) := Lib.hid (fun nq => by
      have h := sContains u6 (bi he) o (W8.drewN nq) ((HL1.out.below B8.out).here.below (below_drews (Below.refl _ _) nq)) (by rw [bi_len]; omega)
      rw [HBO.out] at h
      exact h)
    have R8 := Lib.hid r8
    clear hW8 b8 r8 k0 k1 k2 k3 k4 k5
    cases bb with
    | false =>
      go_quiet ((go_at_call 14; exact Calls.quiet_of_same (HC8.out _)))
      go_wp2_with fail
      apply HQ.out
      rw [HS'.out, HH'.out, HT'.out]
      exact HL1.out.below (below_drews B8.out _)
    | true =>
      obtain rfl := HFV.out rfl
      go_quiet ((go_at_call 14; exact Calls.quiet_of_same (HC8.out _)))
      obtain ⟨W9, hW9⟩ : ∃ W9 : World, W8.drewN nq = W9 := ⟨_, rfl⟩
      have b9 : Below W8.heap.size W8 W9 := by rw [← hW9]; exact below_drews (Below.refl _ _) _
      have B9 := Lib.hid (B8.out.trans (b9.mono B8.out.size))
      have r9 := R8.out.below b9 R8.out.lt
      have m0 : W9.cell? ⟨w7.heap.size, 0, none⟩ = some (.bool true) := by rw [r9.cell]; rfl
      have m2 : W9.cell? ⟨w7.heap.size, 2, none⟩ = some (.int .i64 o) := by rw [r9.cell]; rfl
      obtain ⟨ov, d0, hov, d1, d2⟩ := (HKD.out.below (HL1.out.bel.trans (B9.out.mono HL1.out.bel.size))) o ho6
      obtain ⟨op, oc, rfl, _, _, _⟩ := id hov
      have t9 : W9.cell? ⟨gt, a, none⟩ = some (.slice pv lv cv) := by rw [B9.out.cell (p := ⟨gt, a, none⟩) (World.block_lt_of_cell? W1 _ CT.out)]; exact CT.out
      have HS9 : Hid (∀ w', Below W9.heap.size W9 w' → w'.cell? ⟨gt, a, none⟩ = some (.slice pv lv cv) ∧ w'.cell? ⟨w7.heap.size, 2, none⟩ = some (.int .i64 o) ∧ w'.cell? ⟨kg, o * 3, none⟩ = some (.slice op (octL o).length oc)) := Lib.hid (fun w' h => by
        have cl : ∀ b j x, W9.cell? ⟨b, j, none⟩ = some x → w'.cell? ⟨b, j, none⟩ = some x := fun b j x hx => by rw [h.cell (p := ⟨b, j, none⟩) (World.block_lt_of_cell? W9 _ hx)]; exact hx
        exact ⟨cl _ _ _ t9, cl _ _ _ m2, cl _ _ _ d0⟩)
      have HTR := Lib.hid (fun w' (h : Below W9.heap.size W9 w') => tokenReadG (Hs A) A (hdK A o) HAn.out.1 (.slice pv lv cv) (.slice op (octL o).length oc) [I, o] (octL o) w' (HX.out.below (B9.out.trans (h.mono B9.out.size))) (hov.below h) (hdK_lt hA3 ho6) hdK_len (by intro x hx; simp at hx; omega) (by simp) (by simp [octL]) (by simp [octL]) (HAn.out.2.below (HBW1.out.trans ((B9.out.trans (h.mono B9.out.size)).mono HBW1.out.size)) HAn.out.2.lt) (HE.out.below (HBW1.out.trans ((B9.out.trans (h.mono B9.out.size)).mono HBW1.out.size))) 3 kK (kV (nmI A) (idL o)) HJT.out rfl rfl (by omega) HFT.out)
      have hB := Lib.hid (below_drewd (Below.refl W9.heap.size W9))
      have hoI : (o : Int) < 6 := by omega
      have ho0 : (0 : Int) ≤ o := by omega
      rw [hW9]
      clear hW9 b9 r9 m2 hov d0 d1 d2 t9 n0 nO
      go_upto_region 45 with (fail)
      go_region_held3 (fun w' => w'.cell? ⟨gt, a, none⟩ = some (.slice pv lv cv) ∧ w'.cell? ⟨w7.heap.size, 2, none⟩ = some (.int .i64 o) ∧ w'.cell? ⟨kg, o * 3, none⟩ = some (.slice op (octL o).length oc)) (exact HS9.out _ hB.out)
        ((go_at_call 11; refine (HTR.out _ hB.out).mono ?_; rintro e w10 ⟨⟨z1, z2, rfl, hz⟩, b10⟩; have HZ := Lib.hid hz.out; have hB := Lib.hid (hB.out.trans (b10.out.mono hB.out.size)); clear hz b10))
      obtain ⟨pz, cz, rfl, _, _, hzd⟩ := id HZ.out
      obtain ⟨bz, oz, rfl, hzc⟩ := hzd (by simp [bi])
      have z1c : w10.cell? ⟨bz, oz + 1, none⟩ = some (.int .u8 o) := hzc 1 (by simp [bi])
      have B10 := Lib.hid (B9.out.trans (hB.out.mono B9.out.size))
      have t10 : w10.cell? ⟨go, a, none⟩ = some (.int .u8 o) := by rw [B10.out.cell (p := ⟨go, a, none⟩) (World.block_lt_of_cell? W1 _ CO.out)]; exact CO.out
      have e2 : (bi [I, o]).length = 2 := rfl
      rw [e2]
      clear hzc hzd e2 m0
      go_upto_region 46 with (fail)
      go_quiet (fail)
      go_wp2_with fail
      apply HQ.out
      rw [HS'.out, HH'.out, HT'.out]
      exact HL1.out.below (below_drews B10.out _)
end Go.Proofs.YtaemdppihpefnaaGreatDoor
