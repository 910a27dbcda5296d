/- FnTokenRotated: a round of kind 2. -/
import Derived.Test.YtaemdppihpefnaaGreatDoorRotR29
import Derived.Test.YtaemdppihpefnaaGreatDoorRotR32
namespace Go.Proofs.YtaemdppihpefnaaGreatDoor
open Go.RowKit
set_option linter.unusedVariables false

set_option maxRecDepth 1000000 in
set_option maxHeartbeats 80000000 in
theorem rotK2 (Hs : Nat → HK) (pm : Option Addr) (n c : Nat) (f : Nat → Nat → Int) (w wb wr : World) (kg kc k : Nat) (hA : ∀ n, n < 3 → AlgOk n (Hs n) ∧ Row w (Hs n).kg (Hs n).kT (Hs n).kC) (he : Ev w) (hm : MV w pm n f) (hBw : Below w.heap.size w wb) (hKD : KD wb kg) (hn3 : n ≤ 40) (hkn : k < n) (hK : kdF f k = 2)
    {c0 c1 c4 c28 c29 c30 c31 c32 c33 c34 c35 c36 c37 c38 c39 c40 c41 c42 c43 c44 c45 c46 c47 c48 c49 c231 : Value} {u2 u5 u6 u7 u8 u9 u10 u11 u12 u13 u14 u15 u16 u17 u18 u19 u20 u21 u22 u23 u24 u25 u26 u27 u53 u54 u55 u56 u57 u58 u59 u60 u61 u62 u63 u64 u65 u66 u67 u68 u69 u70 u71 u72 u73 u74 u75 u76 u77 u78 u79 u80 u81 u82 u83 u84 u85 u86 u87 u88 u89 u90 u91 u92 u93 u94 u95 u96 u97 u98 u99 u100 u101 u102 u103 u104 u105 u106 u107 u108 u109 u110 u111 u112 u113 u114 u115 u116 u117 u118 u119 u120 u121 u122 u123 u124 u125 u126 u127 u128 u129 u130 u131 u132 u133 u134 u135 u136 u137 u138 u139 u140 u141 u142 u143 u144 u145 u146 u147 u148 u149 u150 u151 u152 u153 u154 u155 u156 u157 u158 u159 u160 u161 u162 u163 u164 u165 u166 u167 u168 u169 u170 u171 u172 u173 u174 u175 u176 u177 u178 u179 u180 u181 u182 u183 u184 u185 u186 u187 u188 u189 u190 u191 u192 u193 u194 u195 u196 u197 u198 u199 u200 u201 u202 u203 u204 u205 u206 u207 u208 u209 u210 u211 u212 u213 u214 u215 u216 u217 u218 u219 u220 u221 u222 u223 u224 u225 u226 u227 u228 u229 u230 : Value}
    (hLG : LG wb Hs (stepsN (kdF f) (kyF f) k) (hereN (kdF f) (kyF f) k) (toksN (kdF f) (kyF f) (alF f) k) u5 u6 u7 u8 wr) {Q : Exit → Act → World → Prop}
    (hQ : ∀ (v2 v5 v6 v7 v8 v9 v10 v11 v12 v13 v14 v15 v16 v17 v18 v19 v20 v21 v22 v23 v24 v25 v26 v27 v53 v54 v55 v56 v57 v58 v59 v60 v61 v62 v63 v64 v65 v66 v67 v68 v69 v70 v71 v72 v73 v74 v75 v76 v77 v78 v79 v80 v81 v82 v83 v84 v85 v86 v87 v88 v89 v90 v91 v92 v93 v94 v95 v96 v97 v98 v99 v100 v101 v102 v103 v104 v105 v106 v107 v108 v109 v110 v111 v112 v113 v114 v115 v116 v117 v118 v119 v120 v121 v122 v123 v124 v125 v126 v127 v128 v129 v130 v131 v132 v133 v134 v135 v136 v137 v138 v139 v140 v141 v142 v143 v144 v145 v146 v147 v148 v149 v150 v151 v152 v153 v154 v155 v156 v157 v158 v159 v160 v161 v162 v163 v164 v165 v166 v167 v168 v169 v170 v171 v172 v173 v174 v175 v176 v177 v178 v179 v180 v181 v182 v183 v184 v185 v186 v187 v188 v189 v190 v191 v192 v193 v194 v195 v196 v197 v198 v199 v200 v201 v202 v203 v204 v205 v206 v207 v208 v209 v210 v211 v212 v213 v214 v215 v216 v217 v218 v219 v220 v221 v222 v223 v224 v225 v226 v227 v228 v229 v230 : Value) (w' : World), LG wb Hs (stepsN (kdF f) (kyF f) (k + 1)) (hereN (kdF f) (kyF f) (k + 1)) (toksN (kdF f) (kyF f) (alF f) (k + 1)) v5 v6 v7 v8 w' → Q .normal ⟨#[c0, c1, v2, .slice (some ⟨kg, 0, none⟩) 6 kc, c4, v5, v6, v7, v8, v9, v10, v11, v12, v13, v14, v15, v16, v17, v18, v19, v20, v21, v22, v23, v24, v25, v26, v27, c28, c29, c30, c31, c32, c33, c34, c35, c36, c37, c38, c39, c40, c41, c42, c43, c44, c45, c46, c47, c48, c49, .slice pm n c, .int .i64 n, .int .i64 ((k : Int) + 1), v53, v54, v55, v56, v57, v58, v59, v60, v61, v62, v63, v64, v65, v66, v67, v68, v69, v70, v71, v72, v73, v74, v75, v76, v77, v78, v79, v80, v81, v82, v83, v84, v85, v86, v87, v88, v89, v90, v91, v92, v93, v94, v95, v96, v97, v98, v99, v100, v101, v102, v103, v104, v105, v106, v107, v108, v109, v110, v111, v112, v113, v114, v115, v116, v117, v118, v119, v120, v121, v122, v123, v124, v125, v126, v127, v128, v129, v130, v131, v132, v133, v134, v135, v136, v137, v138, v139, v140, v141, v142, v143, v144, v145, v146, v147, v148, v149, v150, v151, v152, v153, v154, v155, v156, v157, v158, v159, v160, v161, v162, v163, v164, v165, v166, v167, v168, v169, v170, v171, v172, v173, v174, v175, v176, v177, v178, v179, v180, v181, v182, v183, v184, v185, v186, v187, v188, v189, v190, v191, v192, v193, v194, v195, v196, v197, v198, v199, v200, v201, v202, v203, v204, v205, v206, v207, v208, v209, v210, v211, v212, v213, v214, v215, v216, v217, v218, v219, v220, v221, v222, v223, v224, v225, v226, v227, v228, v229, v230, c231], []⟩ w') :
    Code.wp Tryz.prog rbody Q ⟨#[c0, c1, u2, .slice (some ⟨kg, 0, none⟩) 6 kc, c4, u5, u6, u7, u8, u9, u10, u11, u12, u13, u14, u15, u16, u17, u18, u19, u20, u21, u22, u23, u24, u25, u26, u27, c28, c29, c30, c31, c32, c33, c34, c35, c36, c37, c38, c39, c40, c41, c42, c43, c44, c45, c46, c47, c48, c49, .slice pm n c, .int .i64 n, .int .i64 k, u53, u54, u55, u56, u57, u58, u59, u60, u61, u62, u63, u64, u65, u66, u67, u68, u69, u70, u71, u72, u73, u74, u75, u76, u77, u78, u79, u80, u81, u82, u83, u84, u85, u86, u87, u88, u89, u90, u91, u92, u93, u94, u95, u96, u97, u98, u99, u100, u101, u102, u103, u104, u105, u106, u107, u108, u109, u110, u111, u112, u113, u114, u115, u116, u117, u118, u119, u120, u121, u122, u123, u124, u125, u126, u127, u128, u129, u130, u131, u132, u133, u134, u135, u136, u137, u138, u139, u140, u141, u142, u143, u144, u145, u146, u147, u148, u149, u150, u151, u152, u153, u154, u155, u156, u157, u158, u159, u160, u161, u162, u163, u164, u165, u166, u167, u168, u169, u170, u171, u172, u173, u174, u175, u176, u177, u178, u179, u180, u181, u182, u183, u184, u185, u186, u187, u188, u189, u190, u191, u192, u193, u194, u195, u196, u197, u198, u199, u200, u201, u202, u203, u204, u205, u206, u207, u208, u209, u210, u211, u212, u213, u214, u215, u216, u217, u218, u219, u220, u221, u222, u223, u224, u225, u226, u227, u228, u229, u230, c231], []⟩ wr := by
  conv => arg 2; whnf
  have HA := Lib.hid hA
  have HE := Lib.hid he
  have HM := Lib.hid hm
  have HB := Lib.hid hBw
  have HKD := Lib.hid hKD
  have HQ := Lib.hid hQ
  have hL := Lib.hid hLG
  have HK := Lib.hid hK
  have dn : ∀ (b : Bool) (wx : World), (Op.unary .not (.bool b)).run Tryz.prog wx = .ok (.bool (!b)) wx := fun _ _ => rfl
  clear hA he hm hBw hKD hQ hLG hK
  have hkI : (k : Int) < n := by omega
  have hkw : IntKind.i64.wrap ((k : Int) + 1) = (k : Int) + 1 := IntWalk.i64_in _ (by omega)
  have hbw := HB.out.trans (hL.out.bel.mono HB.out.size)
  have hMr := HM.out.below hbw
  obtain ⟨b, o, rfl, hmc⟩ := hMr.1 (by omega)
  obtain ⟨m0, m1, m2, m3⟩ := hmc k hkn
  have hbd := HM.out.2 k
  have hb0 := hbd 0
  have hb1 := hbd 1
  have hb2 := hbd 2
  have hb3 := hbd 3
  have HST : Hid (stepsN (kdF f) (kyF f) (k + 1) = if kdF f k = 0 then stepsN (kdF f) (kyF f) k ++ [(0, kyF f k)] else if kdF f k = 1 then stepsN (kdF f) (kyF f) k ++ [(1, kyF f k)] else stepsN (kdF f) (kyF f) k) := Lib.hid rfl
  have HHE : Hid (hereN (kdF f) (kyF f) (k + 1) = if kdF f k = 0 then addN (kyF f k) (hereN (kdF f) (kyF f) k) else if kdF f k = 1 then dropN (kyF f k) (hereN (kdF f) (kyF f) k) else hereN (kdF f) (kyF f) k) := Lib.hid rfl
  have HTK : Hid (toksN (kdF f) (kyF f) (alF f) (k + 1) = if kdF f k = 2 then toksN (kdF f) (kyF f) (alF f) k ++ [(alF f k, k, kyF f k)] else toksN (kdF f) (kyF f) (alF f) k) := Lib.hid rfl
  have HSO := Lib.hid (stepsN_ok (kdF f) (kyF f) 6 (fun i => by unfold kyF; have := HM.out.2 i 1; omega) k)
  have HTO := Lib.hid (toksN_ok (kdF f) (kyF f) (alF f) 6 (fun i => by unfold kyF; have := HM.out.2 i 1; omega) (fun i => by unfold alF; have := HM.out.2 i 3; omega) k)
  have HSH := Lib.hid (set_here (kdF f) (kyF f) k)
  have hsl := stepsN_len (kdF f) (kyF f) k
  have hhl := hereN_len (kdF f) (kyF f) k
  have htl := toksN_len (kdF f) (kyF f) (alF f) k
  have hky : (f k 1).tmod 6 = (kyF f k : Int) := by rw [Int.tmod_eq_emod_of_nonneg hb1.1]; unfold kyF; omega
  have hkd : (f k 0).tmod 4 = (kdF f k : Int) := by rw [Int.tmod_eq_emod_of_nonneg hb0.1]; unfold kdF; omega
  have hq6 : kyF f k < 6 := by unfold kyF; omega
  have hd4 : kdF f k < 4 := by unfold kdF; omega
  have HAL : Hid ((f k 3 % 3).toNat = alF f k) := Lib.hid rfl
  generalize stepsN (kdF f) (kyF f) k = st at *
  generalize hereN (kdF f) (kyF f) k = he at *
  generalize toksN (kdF f) (kyF f) (alF f) k = tk at *
  generalize kyF f k = q at *
  generalize kdF f k = kd at *
  generalize alF f k = al at *
  generalize f k 0 = x0 at *
  generalize f k 1 = x1 at *
  generalize f k 2 = x2 at *
  generalize f k 3 = x3 at *
  have hqI : (0 : Int) ≤ q := by omega
  have hq64 : IntKind.i64.wrap (q : Int) = q := IntWalk.i64_in _ (by omega)
  have HBW := Lib.hid hbw
  clear hbw hMr hmc hbd hb0 hb1
  go_upto_region 20 with (fail)
  obtain ⟨W1, hW1⟩ : ∃ W1 : World, (wr.alloc (.cells #[.int .u8 x0, .int .u8 x1, .int .u8 x2, .int .u8 x3] 43)).alloc (.cells #[.int .u8 q] 5) = W1 := ⟨_, rfl⟩
  obtain ⟨hrm, hrq, hs1, hb1⟩ := two hW1
  have HRM := Lib.hid hrm
  have HRQ := Lib.hid hrq
  have hL1 := hL.out.below hb1
  have HL1 := Lib.hid hL1
  have HBW1 := Lib.hid (HBW.out.trans (hb1.mono HBW.out.size))
  have q1 : W1.cell? ⟨wr.heap.size + 1, 0, none⟩ = some (.int .u8 q) := by rw [hrq.cell]; rfl
  have HQW : Hid (wr.heap.size + 1 < W1.heap.size) := Lib.hid hrq.lt
  have HBB : Hid (wb.heap.size ≤ wr.heap.size) := Lib.hid hL.out.bel.size
  have p2 : W1.cell? ⟨wr.heap.size, 2, none⟩ = some (.int .u8 x2) := by rw [hrm.cell]; rfl
  have p3 : W1.cell? ⟨wr.heap.size, 3, none⟩ = some (.int .u8 x3) := by rw [hrm.cell]; rfl
  rw [hW1]
  clear hrm hrq hs1 hb1 hL1 hL hW1 m0 m1 m2 m3 hky hkd
  obtain rfl := HK.out
  have e0 : ((2 : Nat) : Int) = 2 := rfl
  rw [e0]
  have HS' : Hid (stepsN (kdF f) (kyF f) (k + 1) = st) := Lib.hid (by rw [HST.out, if_neg (by omega), if_neg (by omega)])
  have HH' : Hid (hereN (kdF f) (kyF f) (k + 1) = he) := Lib.hid (by rw [HHE.out, if_neg (by omega), if_neg (by omega)])
  have HT' : Hid (toksN (kdF f) (kyF f) (alF f) (k + 1) = tk ++ [(al, k, q)]) := Lib.hid (by rw [HTK.out, if_pos rfl])
  have hal3 : al < 3 := by have := HAL.out; omega
  have HT1 := Lib.hid (tokenAlg x3 W1 hb3.1 hb3.2)
  rw [HAL.out] at HT1
  have HAn := Lib.hid (HA.out al hal3)
  have HKT := Lib.hid (HAn.out.2.below HBW1.out HAn.out.2.lt)
  obtain ⟨nm, hnm⟩ : ∃ nm, hsName al = nm := ⟨_, rfl⟩
  rw [hnm] at HT1
  have HNM := Lib.hid hnm
  clear hnm
  have hk8 : IntKind.u8.wrap (k : Int) = k := IntWalk.u8_in _ (by omega)
  have hq6I : (q : Int) < 6 := by omega
  go_upto_region 29 with (go_at_call 8; refine HT1.out.mono ?_; rintro e w2 ⟨rfl, b2⟩; have B2 := Lib.hid b2; clear b2)
  have hL2 := HL1.out.below B2.out
  obtain ⟨ov, c0, hov, c1, c2⟩ := (HKD.out.below hL2.bel) q hq6
  obtain ⟨op, oc, rfl, _, _, _⟩ := id hov
  have HOV := Lib.hid hov
  have HL2 := Lib.hid hL2
  have hq2 : w2.cell? ⟨wr.heap.size + 1, 0, none⟩ = some (.int .u8 q) := by rw [B2.out.cell (p := ⟨wr.heap.size + 1, 0, none⟩) HQW.out]; exact q1
  have HQ2 := Lib.hid hq2
  have C0 := Lib.hid c0
  have C2 := Lib.hid c2
  clear q1 p2 p3 hL2 hov HT1 c0 c1 c2 hq2
  refine rotR29 Hs al q k kg kc (wr.heap.size + 1) oc op nm w2 HAn.out.1 hal3 hq6 (by omega) (HKT.out.below B2.out HKT.out.lt) HNM.out HQ2.out C2.out C0.out HOV.out ?_
  intros
  rename_i v5 w5 hx5 hf5 hb5
  obtain ⟨pv, lv, cv, rfl⟩ : ∃ p l c, v5 = .slice p l c := by
    obtain ⟨p, c, h, _⟩ := id hx5; exact ⟨_, _, _, h⟩
  have HX5 := Lib.hid hx5
  have HF5 := Lib.hid hf5
  have HB5 := Lib.hid hb5
  clear hx5 hf5 hb5
  go_upto_region 32 with (fail)
  refine rotR32 Hs al q k (wr.heap.size + 1) lv cv pv wb w5 st he tk u5 u6 u7 u8 (HL2.out.below HB5.out) HX5.out (fun r hr => HL2.out.rowsOld (HF5.out r hr)) (fun r hr => HX5.out.inOld hr (by simp only [tokX, tokG, joinB, List.length_append, List.length_cons]; omega)) (by omega) (HRQ.out.below (B2.out.trans (HB5.out.mono B2.out.size)) HQW.out) ?_
  intros
  rename_i vt9 vo9 w7 hF
  have HF := Lib.hid hF
  clear hF
  go_wp2_with fail
  apply HQ.out
  rw [HS'.out, HH'.out, HT'.out]
  exact HF.out
end Go.Proofs.YtaemdppihpefnaaGreatDoor
