/- FnTokenRotated: a round of whatever kind. -/
import Derived.Test.YtaemdppihpefnaaGreatDoorRotK0
import Derived.Test.YtaemdppihpefnaaGreatDoorRotK1
import Derived.Test.YtaemdppihpefnaaGreatDoorRotK2
import Derived.Test.YtaemdppihpefnaaGreatDoorRotK3
import Derived.Test.YtaemdppihpefnaaGreatDoorFits
import Derived.Test.YtaemdppihpefnaaGreatDoorLiveKit
import Derived.Test.YtaemdppihpefnaaGreatDoorGlobal
import Derived.Test.YtaemdppihpefnaaGreatDoorOpened
namespace Go.Proofs.YtaemdppihpefnaaGreatDoor
open Go.RowKit
set_option linter.unusedVariables false

set_option maxRecDepth 1000000 in
set_option maxHeartbeats 8000000 in
theorem rotRound (Hs : Nat → HK) (pm : Option Addr) (n c : Nat) (f : Nat → Nat → Int) (w wb wr : World) (kg kc k : Nat) (hA : ∀ n, n < 3 → AlgOk n (Hs n) ∧ Row w (Hs n).kg (Hs n).kT (Hs n).kC) (he : Ev w) (hm : MV w pm n f) (hBw : Below w.heap.size w wb) (hKD : KD wb kg) (hn3 : n ≤ 40) (hkn : k < n)
    {c0 c1 c4 c28 c29 c30 c31 c32 c33 c34 c35 c36 c37 c38 c39 c40 c41 c42 c43 c44 c45 c46 c47 c48 c49 c231 : Value} {u2 u5 u6 u7 u8 u9 u10 u11 u12 u13 u14 u15 u16 u17 u18 u19 u20 u21 u22 u23 u24 u25 u26 u27 u53 u54 u55 u56 u57 u58 u59 u60 u61 u62 u63 u64 u65 u66 u67 u68 u69 u70 u71 u72 u73 u74 u75 u76 u77 u78 u79 u80 u81 u82 u83 u84 u85 u86 u87 u88 u89 u90 u91 u92 u93 u94 u95 u96 u97 u98 u99 u100 u101 u102 u103 u104 u105 u106 u107 u108 u109 u110 u111 u112 u113 u114 u115 u116 u117 u118 u119 u120 u121 u122 u123 u124 u125 u126 u127 u128 u129 u130 u131 u132 u133 u134 u135 u136 u137 u138 u139 u140 u141 u142 u143 u144 u145 u146 u147 u148 u149 u150 u151 u152 u153 u154 u155 u156 u157 u158 u159 u160 u161 u162 u163 u164 u165 u166 u167 u168 u169 u170 u171 u172 u173 u174 u175 u176 u177 u178 u179 u180 u181 u182 u183 u184 u185 u186 u187 u188 u189 u190 u191 u192 u193 u194 u195 u196 u197 u198 u199 u200 u201 u202 u203 u204 u205 u206 u207 u208 u209 u210 u211 u212 u213 u214 u215 u216 u217 u218 u219 u220 u221 u222 u223 u224 u225 u226 u227 u228 u229 u230 : Value}
    (hLG : LG wb Hs (stepsN (kdF f) (kyF f) k) (hereN (kdF f) (kyF f) k) (toksN (kdF f) (kyF f) (alF f) k) u5 u6 u7 u8 wr) {Q : Exit → Act → World → Prop}
    (hQ : ∀ (v2 v5 v6 v7 v8 v9 v10 v11 v12 v13 v14 v15 v16 v17 v18 v19 v20 v21 v22 v23 v24 v25 v26 v27 v53 v54 v55 v56 v57 v58 v59 v60 v61 v62 v63 v64 v65 v66 v67 v68 v69 v70 v71 v72 v73 v74 v75 v76 v77 v78 v79 v80 v81 v82 v83 v84 v85 v86 v87 v88 v89 v90 v91 v92 v93 v94 v95 v96 v97 v98 v99 v100 v101 v102 v103 v104 v105 v106 v107 v108 v109 v110 v111 v112 v113 v114 v115 v116 v117 v118 v119 v120 v121 v122 v123 v124 v125 v126 v127 v128 v129 v130 v131 v132 v133 v134 v135 v136 v137 v138 v139 v140 v141 v142 v143 v144 v145 v146 v147 v148 v149 v150 v151 v152 v153 v154 v155 v156 v157 v158 v159 v160 v161 v162 v163 v164 v165 v166 v167 v168 v169 v170 v171 v172 v173 v174 v175 v176 v177 v178 v179 v180 v181 v182 v183 v184 v185 v186 v187 v188 v189 v190 v191 v192 v193 v194 v195 v196 v197 v198 v199 v200 v201 v202 v203 v204 v205 v206 v207 v208 v209 v210 v211 v212 v213 v214 v215 v216 v217 v218 v219 v220 v221 v222 v223 v224 v225 v226 v227 v228 v229 v230 : Value) (w' : World), LG wb Hs (stepsN (kdF f) (kyF f) (k + 1)) (hereN (kdF f) (kyF f) (k + 1)) (toksN (kdF f) (kyF f) (alF f) (k + 1)) v5 v6 v7 v8 w' → Q .normal ⟨#[c0, c1, v2, .slice (some ⟨kg, 0, none⟩) 6 kc, c4, v5, v6, v7, v8, v9, v10, v11, v12, v13, v14, v15, v16, v17, v18, v19, v20, v21, v22, v23, v24, v25, v26, v27, c28, c29, c30, c31, c32, c33, c34, c35, c36, c37, c38, c39, c40, c41, c42, c43, c44, c45, c46, c47, c48, c49, .slice pm n c, .int .i64 n, .int .i64 ((k : Int) + 1), v53, v54, v55, v56, v57, v58, v59, v60, v61, v62, v63, v64, v65, v66, v67, v68, v69, v70, v71, v72, v73, v74, v75, v76, v77, v78, v79, v80, v81, v82, v83, v84, v85, v86, v87, v88, v89, v90, v91, v92, v93, v94, v95, v96, v97, v98, v99, v100, v101, v102, v103, v104, v105, v106, v107, v108, v109, v110, v111, v112, v113, v114, v115, v116, v117, v118, v119, v120, v121, v122, v123, v124, v125, v126, v127, v128, v129, v130, v131, v132, v133, v134, v135, v136, v137, v138, v139, v140, v141, v142, v143, v144, v145, v146, v147, v148, v149, v150, v151, v152, v153, v154, v155, v156, v157, v158, v159, v160, v161, v162, v163, v164, v165, v166, v167, v168, v169, v170, v171, v172, v173, v174, v175, v176, v177, v178, v179, v180, v181, v182, v183, v184, v185, v186, v187, v188, v189, v190, v191, v192, v193, v194, v195, v196, v197, v198, v199, v200, v201, v202, v203, v204, v205, v206, v207, v208, v209, v210, v211, v212, v213, v214, v215, v216, v217, v218, v219, v220, v221, v222, v223, v224, v225, v226, v227, v228, v229, v230, c231], []⟩ w') :
    Code.wp Tryz.prog rbody Q ⟨#[c0, c1, u2, .slice (some ⟨kg, 0, none⟩) 6 kc, c4, u5, u6, u7, u8, u9, u10, u11, u12, u13, u14, u15, u16, u17, u18, u19, u20, u21, u22, u23, u24, u25, u26, u27, c28, c29, c30, c31, c32, c33, c34, c35, c36, c37, c38, c39, c40, c41, c42, c43, c44, c45, c46, c47, c48, c49, .slice pm n c, .int .i64 n, .int .i64 k, u53, u54, u55, u56, u57, u58, u59, u60, u61, u62, u63, u64, u65, u66, u67, u68, u69, u70, u71, u72, u73, u74, u75, u76, u77, u78, u79, u80, u81, u82, u83, u84, u85, u86, u87, u88, u89, u90, u91, u92, u93, u94, u95, u96, u97, u98, u99, u100, u101, u102, u103, u104, u105, u106, u107, u108, u109, u110, u111, u112, u113, u114, u115, u116, u117, u118, u119, u120, u121, u122, u123, u124, u125, u126, u127, u128, u129, u130, u131, u132, u133, u134, u135, u136, u137, u138, u139, u140, u141, u142, u143, u144, u145, u146, u147, u148, u149, u150, u151, u152, u153, u154, u155, u156, u157, u158, u159, u160, u161, u162, u163, u164, u165, u166, u167, u168, u169, u170, u171, u172, u173, u174, u175, u176, u177, u178, u179, u180, u181, u182, u183, u184, u185, u186, u187, u188, u189, u190, u191, u192, u193, u194, u195, u196, u197, u198, u199, u200, u201, u202, u203, u204, u205, u206, u207, u208, u209, u210, u211, u212, u213, u214, u215, u216, u217, u218, u219, u220, u221, u222, u223, u224, u225, u226, u227, u228, u229, u230, c231], []⟩ wr := by
  have hd : kdF f k = 0 ∨ kdF f k = 1 ∨ kdF f k = 2 ∨ kdF f k = 3 := by unfold kdF; omega
  rcases hd with h | h | h | h
  · exact rotK0 Hs pm n c f w wb wr kg kc k hA he hm hBw hKD hn3 hkn h hLG hQ
  · exact rotK1 Hs pm n c f w wb wr kg kc k hA he hm hBw hKD hn3 hkn h hLG hQ
  · exact rotK2 Hs pm n c f w wb wr kg kc k hA he hm hBw hKD hn3 hkn h hLG hQ
  · exact rotK3 Hs pm n c f w wb wr kg kc k hA he hm hBw hKD hn3 hkn h hLG hQ
end Go.Proofs.YtaemdppihpefnaaGreatDoor

/- laws.FnTokenRotated returns true: whatever hashes the algorithms have. -/
namespace Go.Proofs.YtaemdppihpefnaaGreatDoor
open Go.RowKit
set_option linter.unusedVariables false

set_option maxRecDepth 100000 in
set_option maxHeartbeats 8000000 in
theorem lawRotated (Hs : Nat → HK) (pm : Option Addr) (n c : Nat) (f : Nat → Nat → Int) (w : World) (hA : ∀ n, n < 3 → AlgOk n (Hs n) ∧ Row w (Hs n).kg (Hs n).kT (Hs n).kC) (hl : Live w) (he : Ev w) (hm : MV w pm n f) :
    Calls Tryz.prog 4 #[.slice pm n c] w fun e w' => e = .returned (.bool true) ∧ Below w.heap.size w w' := by
  have HA := Lib.hid hA
  have HL := Lib.hid hl
  have HE := Lib.hid he
  have HM := Lib.hid hm
  have dn : ∀ (b : Bool) (wx : World), (Op.unary .not (.bool b)).run Tryz.prog wx = .ok (.bool (!b)) wx := fun _ _ => rfl
  clear hA hl he hm
  by_cases hn1 : n ≤ 2147483647
  · have hn2 : ¬ (2147483647 : Int) < n := by omega
    by_cases hn3 : n ≤ 40
    · have hn4 : ¬ (40 : Int) < n := by omega
      have HK0 : Hid (KL w w 0 (.slice none 0 0)) := Lib.hid ⟨[], World.ownsRow_nil _ _ _ _, (fun j h => absurd h (Nat.not_lt_zero _)), Below.refl _ _⟩
      go_enter Tryz.func4, Tryz.ntmps4
      go_wp2_with fail
      go_loopw [3, 35] (fun vk i wr => ∃ k : Nat, k ≤ 6 ∧ i = .int .u8 k ∧ Hid (KL w wr k vk)) (fun _ i _ => 6 - (intOf i).toNat)
      case atStart => exact ⟨0, by omega, rfl, HK0⟩
      case round =>
        clear HK0
        obtain ⟨k, hk6, rfl, hK⟩ := hrel
        by_cases hkn : k < 6
        · have hkI : (k : Int) < 6 := by omega
          obtain ⟨xs, hxo, hx, hB⟩ := hK.out
          have HXO := Lib.hid hxo
          have HX := Lib.hid hx
          have HB := Lib.hid hB
          have HOC := Lib.hid (octets (k : Int) wr (by omega) (by omega))
          have ha97 : IntKind.u8.wrap (97 + (k : Int)) = 97 + (k : Int) := IntWalk.u8_in _ (by omega)
          have hen := enc_ascii (97 + (k : Int)) (by omega) (by omega)
          have hcat : ∀ wx, (Op.stringOp .add (⟨#[107]⟩ : ByteArray) (strOfNums [97 + (k : Int)])).run Tryz.prog wx = .ok (.string (strOfNums (idL k))) wx := fun wx => run_cat (P := Tryz.prog) [107] [97 + (k : Int)] (by simp) (by simp) wx
          have hkw : IntKind.u8.wrap ((k : Int) + 1) = (k : Int) + 1 := IntWalk.u8_in _ (by omega)
          clear hxo hx hB hK
          go_wp2_with fail
          go_at_call 13
          refine HOC.out.mono ?_
          rintro e w1 ⟨rfl, hw1⟩
          obtain ⟨W2, hW2⟩ : ∃ W2 : World, W2 = w1.alloc (.cells #[.slice (some ⟨wr.heap.size, 0, none⟩) 5 5, .bool true, .string (strOfNums (idL k))] 39) := ⟨_, rfl⟩
          have b1 : Below wr.heap.size wr w1 := by rw [hw1]; exact (Below.refl _ _).alloc (Nat.le_refl _) _
          have b2 : Below wr.heap.size wr W2 := by rw [hW2]; exact b1.alloc b1.size _
          have ho1 : Row w1 wr.heap.size 5 (cs8 (octL k)) := by rw [hw1]; exact Row.alloc wr (cs8 (octL k)) _
          have hv : Bs W2 (.slice (some ⟨wr.heap.size, 0, none⟩) 5 5) (octL k) := by
            have h := Bs.row (show Row W2 wr.heap.size 5 (cs8 (octL k)) by rw [hW2]; exact ho1.allocd _) 0 5 (octL k) (Nat.le_refl _) (fun i hi => by rw [Nat.zero_add, get_cs8 _ _ hi])
            exact h
          have hs1 : w1.heap.size = wr.heap.size + 1 := by rw [hw1]; simp
          have hlt : wr.heap.size < W2.heap.size := by have : w1.heap.size ≤ W2.heap.size := by (rw [hW2]; simp)
                                                       omega
          have hr2 : Row W2 w1.heap.size 39 [.slice (some ⟨wr.heap.size, 0, none⟩) 5 5, .bool true, .string (strOfNums (idL k))] := by rw [hW2]; exact Row.alloc w1 _ _
          obtain ⟨v', w3, hrun, ho, hg, hs, g', c', rfl⟩ := run_one (P := Tryz.prog) W2 w.heap.size 36 39 (.agg #[.slice none 0 0, .bool false, .string (⟨#[]⟩ : ByteArray)]) 3 48 Tryz.underlying36 (by kernel_rfl) rfl (by decide) (by decide) u3 k xs (own_below HXO.out b2) (by omega) ⟨w1.heap.size, 0, none⟩ 1 [.slice (some ⟨wr.heap.size, 0, none⟩) 5 5, .bool true, .string (strOfNums (idL k))] rfl (fun jj u hu => by rw [Go.WideShapes.add_plain, hr2.cell, Nat.zero_add]; exact hu) (by intro u hu; simp only [List.mem_cons, List.not_mem_nil, or_false] at hu; rcases hu with rfl | rfl | rfl <;> rfl) (by have := HB.out.size; have := b2.size; omega)
          have HKM := Lib.hid (KL.more HXO.out HX.out HB.out b2 hv hlt ho hg hs)
          have HRUN := Lib.hid hrun
          have HW2 := Lib.hid hW2
          clear hW2 b1 b2 ho1 hv hs1 hlt hr2 hrun ho hg hs hw1 HOC
          go_wp2_with (at_builtin; rw [← HW2.out]; refine Lib.wpList_append_run _ rfl _ _ _ _ rfl _ _ rfl rfl _ _ (HRUN.out _) ?_)
          exact ⟨⟨k + 1, by omega, by rw [show ((k + 1 : Nat) : Int) = (k : Int) + 1 by omega], HKM⟩, by simp [intOf]; omega⟩
        · obtain ⟨wb, rfl⟩ : ∃ wo : World, wo = wr := ⟨_, rfl⟩
          have hkk : k = 6 := by omega
          subst hkk
          have hkI : ¬ ((6 : Nat) : Int) < 6 := by omega
          obtain ⟨xs, hxo, hx, hB⟩ := id hK.out
          obtain ⟨kg, kc, rfl⟩ : ∃ g c, u3 = .slice (some ⟨g, 0, none⟩) 6 c := by
            rcases hxo.2 with ⟨_, h⟩ | ⟨g, cap, cur, h, _⟩
            · omega
            · exact ⟨g, cap, h⟩
          have HKD := Lib.hid hK.out.kd
          have HB := Lib.hid hB
          clear hxo hx hB hK
          have HLG : Hid (LG wb Hs (stepsN (kdF f) (kyF f) 0) (hereN (kdF f) (kyF f) 0) (toksN (kdF f) (kyF f) (alF f) 0) (.slice none 0 0) (.slice none 0 0) (.slice none 0 0) (.slice none 0 0) wb) := Lib.hid
            ⟨Below.refl _ _, World.ownsRow_nil _ _ _ _, Bs.nil _, (fun r h => by cases h), ⟨[], World.ownsRow_nil _ _ _ _, fun j h => absurd h (Nat.not_lt_zero _)⟩, World.ownsRow_nil _ _ _ _, (fun r h => by cases h)⟩
          go_wp2_with fail
          go_loopw [5, 6, 7, 8, 52] (fun vs vh vt vo i wr => ∃ k : Nat, k ≤ n ∧ i = .int .i64 k ∧ Hid (LG wb Hs (stepsN (kdF f) (kyF f) k) (hereN (kdF f) (kyF f) k) (toksN (kdF f) (kyF f) (alF f) k) vs vh vt vo wr)) (fun _ _ _ _ i _ => n - (intOf i).toNat)
          case atStart => exact ⟨0, by omega, rfl, HLG⟩
          case round =>
            clear HLG
            obtain ⟨k, hkN, rfl, hL⟩ := hrel
            by_cases hkn : k < n
            · refine rotRound Hs pm n c f w wb wr kg kc k HA.out HE.out HM.out HB.out HKD.out hn3 hkn hL.out ?_
              intros
              rename_i w' hF
              refine And.intro ?_ ?_
              · (repeat apply Exists.intro)
                refine ⟨?_, rfl⟩
                exact ⟨k + 1, by omega, by rw [show ((k + 1 : Nat) : Int) = (k : Int) + 1 by omega], Lib.hid hF⟩
              · simp [intOf]; omega
            · obtain ⟨wo, rfl⟩ : ∃ wo : World, wo = wr := ⟨_, rfl⟩
              have hkI : ¬ (k : Int) < n := by omega
              have HBW := Lib.hid (HB.out.trans (hL.out.bel.mono HB.out.size))
              clear hL
              go_wp2_with fail
              go_at_call 6
              refine (HL.out _ HBW.out).mono ?_
              rintro e w2 ⟨rfl, b2⟩
              have B2 := Lib.hid (HBW.out.trans (b2.mono HBW.out.size))
              clear b2
              go_wp2_with fail
              go_ret
              exact ⟨rfl, B2.out⟩
    · have hn4 : (40 : Int) < n := by omega
      go_enter Tryz.func4, Tryz.ntmps4
      go_wp2_with fail
      go_at_call 6
      refine (HL.out _ (Below.refl _ _)).mono ?_
      rintro e w2 ⟨rfl, b2⟩
      have B2 := Lib.hid b2
      clear b2
      go_wp2_with fail
      go_ret
      exact ⟨rfl, B2.out⟩
  · have hn2 : (2147483647 : Int) < n := by omega
    go_enter Tryz.func4, Tryz.ntmps4
    go_wp2_with fail
    go_ret
    exact ⟨rfl, Below.refl _ _⟩
end Go.Proofs.YtaemdppihpefnaaGreatDoor

/- laws.FnTokenRotated over any well-shaped world in which jwsbb's error is one. -/
namespace Go.Proofs.YtaemdppihpefnaaGreatDoor
open Go.RowKit
set_option linter.unusedVariables false

theorem rotated (pm : Option Addr) (n c : Nat) (f : Nat → Nat → Int) (w : World) (h : w.ShapedOpen Tryz.prog) (he : Ev w) (hm : MV w pm n f) :
    Calls Tryz.prog 4 #[.slice pm n c] w fun e w' => e = .returned (.bool true) ∧ Below w.heap.size w w' := by
  obtain ⟨K, hK, r⟩ := table256 w h
  obtain ⟨L, hL, s⟩ := table512 w h
  refine lawRotated (fun n => if n = 0 then hk256 K hK else if n = 1 then hk384 L hL else hk512 L hL) pm n c f w (fun n hn => ?_) (live_of w h) he hm
  have hc : n = 0 ∨ n = 1 ∨ n = 2 := by omega
  rcases hc with rfl | rfl | rfl
  · exact ⟨algOk0 K hK, r⟩
  · exact ⟨algOk1 L hL, s⟩
  · exact ⟨algOk2 L hL, s⟩
end Go.Proofs.YtaemdppihpefnaaGreatDoor
