/- FnTokenRotated: a token is made: the region that draws its order. -/
import Derived.Test.YtaemdppihpefnaaGreatDoorRotKit
namespace Go.Proofs.YtaemdppihpefnaaGreatDoor
open Go.RowKit
set_option linter.unusedVariables false

set_option maxRecDepth 1000000 in
set_option maxHeartbeats 80000000 in
theorem rotR29 (Hs : Nat → HK) (al q k kg kc mb oc : Nat) (op : Option Addr) (nm : ByteArray) (w2 : World) (hHA : AlgOk al (Hs al)) (hal3 : al < 3) (hq6 : q < 6) (hk40 : k < 40) (hkt : Row w2 (Hs al).kg (Hs al).kT (Hs al).kC) (hnm : hsName al = nm)
    (hq2 : w2.cell? ⟨mb, 0, none⟩ = some (.int .u8 q)) (c2 : w2.cell? ⟨kg, q * 3 + 2, none⟩ = some (.string (strOfNums (idL q)))) (c0 : w2.cell? ⟨kg, q * 3, none⟩ = some (.slice op (octL q).length oc)) (hov : Bs w2 (.slice op (octL q).length oc) (octL q))
    {u0 u1 u2 u4 u5 u6 u7 u8 u10 u13 u14 u15 u16 u17 u18 u19 u20 u21 u22 u23 u24 u25 u26 u27 u28 u29 u30 u31 u32 u33 u34 u35 u36 u37 u38 u39 u40 u41 u42 u43 u44 u45 u46 u47 u48 u49 u50 u51 u52 u53 u54 u55 u56 u57 u58 u59 u60 u61 u62 u63 u64 u65 u66 u67 u68 u69 u70 u71 u72 u73 u74 u75 u76 u77 u78 u79 u80 u81 u82 u83 u84 u85 u86 u87 u88 u89 u90 u91 u92 u93 u94 u95 u96 u97 u98 u99 u100 u101 u102 u103 u104 u105 u106 u107 u108 u109 u110 u111 u112 u113 u114 u115 u116 u117 u118 u119 u120 u121 u122 u123 u124 u125 u126 u127 u128 u129 u130 u131 u132 u133 u134 u135 u136 u137 u138 u139 u140 u141 u142 u143 u144 u145 u146 u147 u148 u149 u150 u151 u152 u153 u154 u155 u156 u157 u158 u159 u160 u161 u162 u163 u164 u165 u166 u167 u168 u169 u170 u171 u172 u173 u174 u175 u176 u177 u178 u179 u180 u181 u182 u183 u184 u185 u186 u187 u188 u189 u190 u191 u192 u193 u194 u195 u196 u197 u198 u199 u200 u201 u202 u203 u204 u205 u206 u207 u208 u209 u210 u211 u212 u213 u214 u215 u216 u217 u218 u219 u220 u221 u222 u223 u224 u225 u226 u227 u228 u229 u230 u231 : Value} {Q : Exit → Act → World → Prop}
    (hQ : ∀ (v98 v99 v100 v101 v102 v103 v104 v105 v106 v107 v108 v109 v110 v111 v112 v113 v114 v115 v97 v116 v117 v13 : Value) (w5 : World), Bs w5 v13 (tokX Hs (al, k, q)) → (∀ r, v13.ownBlock = some r → w2.heap.size ≤ r) → Below w2.heap.size w2 w5 → Q .normal ⟨#[u0, u1, u2, .slice (some ⟨kg, 0, none⟩) 6 kc, u4, u5, u6, u7, u8, .int .i64 k, u10, .pointer (some ⟨mb, 0, none⟩), .string nm, v13, .bool true, u15, u16, u17, u18, u19, u20, u21, u22, u23, u24, u25, u26, u27, u28, u29, u30, u31, u32, u33, u34, u35, u36, u37, u38, u39, u40, u41, u42, u43, u44, u45, u46, u47, u48, u49, u50, u51, u52, u53, u54, u55, u56, u57, u58, u59, u60, u61, u62, u63, u64, u65, u66, u67, u68, u69, u70, u71, u72, u73, u74, u75, u76, u77, u78, u79, u80, u81, u82, u83, u84, u85, u86, u87, u88, u89, u90, u91, u92, u93, u94, u95, u96, v97, v98, v99, v100, v101, v102, v103, v104, v105, v106, v107, v108, v109, v110, v111, v112, v113, v114, v115, v116, v117, u118, u119, u120, u121, u122, u123, u124, u125, u126, u127, u128, u129, u130, u131, u132, u133, u134, u135, u136, u137, u138, u139, u140, u141, u142, u143, u144, u145, u146, u147, u148, u149, u150, u151, u152, u153, u154, u155, u156, u157, u158, u159, u160, u161, u162, u163, u164, u165, u166, u167, u168, u169, u170, u171, u172, u173, u174, u175, u176, u177, u178, u179, u180, u181, u182, u183, u184, u185, u186, u187, u188, u189, u190, u191, u192, u193, u194, u195, u196, u197, u198, u199, u200, u201, u202, u203, u204, u205, u206, u207, u208, u209, u210, u211, u212, u213, u214, u215, u216, u217, u218, u219, u220, u221, u222, u223, u224, u225, u226, u227, u228, u229, u230, u231], []⟩ w5) :
    Code.wp Tryz.prog (regOf 29 rbody) Q ⟨#[u0, u1, u2, .slice (some ⟨kg, 0, none⟩) 6 kc, u4, u5, u6, u7, u8, .int .i64 k, u10, .pointer (some ⟨mb, 0, none⟩), .string nm, u13, u14, u15, u16, u17, u18, u19, u20, u21, u22, u23, u24, u25, u26, u27, u28, u29, u30, u31, u32, u33, u34, u35, u36, u37, u38, u39, u40, u41, u42, u43, u44, u45, u46, u47, u48, u49, u50, u51, u52, u53, u54, u55, u56, u57, u58, u59, u60, u61, u62, u63, u64, u65, u66, u67, u68, u69, u70, u71, u72, u73, u74, u75, u76, u77, u78, u79, u80, u81, u82, u83, u84, u85, u86, u87, u88, u89, u90, u91, u92, u93, u94, u95, u96, u97, u98, u99, u100, u101, u102, u103, u104, u105, u106, u107, u108, u109, u110, u111, u112, u113, u114, u115, u116, u117, u118, u119, u120, u121, u122, u123, u124, u125, u126, u127, u128, u129, u130, u131, u132, u133, u134, u135, u136, u137, u138, u139, u140, u141, u142, u143, u144, u145, u146, u147, u148, u149, u150, u151, u152, u153, u154, u155, u156, u157, u158, u159, u160, u161, u162, u163, u164, u165, u166, u167, u168, u169, u170, u171, u172, u173, u174, u175, u176, u177, u178, u179, u180, u181, u182, u183, u184, u185, u186, u187, u188, u189, u190, u191, u192, u193, u194, u195, u196, u197, u198, u199, u200, u201, u202, u203, u204, u205, u206, u207, u208, u209, u210, u211, u212, u213, u214, u215, u216, u217, u218, u219, u220, u221, u222, u223, u224, u225, u226, u227, u228, u229, u230, u231], []⟩ w2 := by
  conv => arg 2; whnf
  have HQ := Lib.hid hQ
  have HAn := Lib.hid hHA
  have HOV := Lib.hid hov
  have HTM := Lib.hid (fun vh vp vk w' hh hp hk hkt => tokenMadeG (Hs al) al (hdK al q) HAn.out vh vp vk [k, q] (octL q) w' hh hp hk (hdK_lt hal3 hq6) hdK_len (by intro x hx; simp at hx; omega) (by simp) (by simp [octL]) (by simp [octL]) hkt)
  have HTH := Lib.hid (fun wx => tokenHeadK (nmI al) (idL q) (nm_plain al) (idL_plain hq6) (by rw [nm_len]; omega) (by simp [idL]) (by rw [nm_len]; omega) (by simp [idL]) wx)
  rw [← nm_eq] at HTH
  have HHB := Lib.hid (hdK_bi hal3 hq6)
  rw [hnm] at HTM HTH
  have hk8 : IntKind.u8.wrap (k : Int) = k := IntWalk.u8_in _ (by omega)
  have hq6I : (q : Int) < 6 := by omega
  have HS3 : Hid (∀ w', Below w2.heap.size w2 w' → w'.cell? ⟨mb, 0, none⟩ = some (.int .u8 q) ∧ w'.cell? ⟨kg, q * 3 + 2, none⟩ = some (.string (strOfNums (idL q))) ∧ w'.cell? ⟨kg, q * 3, none⟩ = some (.slice op (octL q).length oc)) := Lib.hid (fun w' h => by
    have cl : ∀ b j x, w2.cell? ⟨b, j, none⟩ = some x → w'.cell? ⟨b, j, none⟩ = some x := fun b j x hx => by rw [h.cell (p := ⟨b, j, none⟩) (World.block_lt_of_cell? w2 _ hx)]; exact hx
    exact ⟨cl _ _ _ hq2, cl _ _ _ c2, cl _ _ _ c0⟩)
  have hB := Lib.hid (below_drewd (Below.refl w2.heap.size w2))
  have hTa := Lib.hid (HTH.out w2.drew)
  have hTb := Lib.hid (HTH.out (w2.drew.alloc (.cells #[.int .u8 k, .int .u8 q] 5)))
  have HKT2 := Lib.hid hkt
  clear hov c0 c2 hq2 hQ hHA hkt hnm
  go_region_held3 (fun w' => w'.cell? ⟨mb, 0, none⟩ = some (.int .u8 q) ∧ w'.cell? ⟨kg, q * 3 + 2, none⟩ = some (.string (strOfNums (idL q))) ∧ w'.cell? ⟨kg, q * 3, none⟩ = some (.slice op (octL q).length oc)) (first | exact HS3.out _ hB.out | exact HS3.out _ (hB.out.alloc hB.out.size _))
    (first
      | (go_at_call 10; refine hTa.out.mono ?_; rintro e w3 ⟨⟨vh, rfl, hvh⟩, b3⟩; have HVA := Lib.hid hvh; have hB := Lib.hid (hB.out.trans b3); clear hvh b3)
      | (go_at_call 10; refine hTb.out.mono ?_; rintro e w3 ⟨⟨vg, rfl, hvh⟩, b3⟩; have HVB := Lib.hid hvh; have HPY := Lib.hid (two_bytes w2.drew k q w3 b3); have hB := Lib.hid ((hB.out.alloc hB.out.size (.cells #[.int .u8 k, .int .u8 q] 5)).trans (b3.mono (by simp))); clear hvh b3)
      | (go_at_call 9; refine (HTM.out vh (.slice (some ⟨w3.heap.size, 0, none⟩) 2 2) (.slice op (octL q).length oc) (w3.alloc (.cells #[.int .u8 k, .int .u8 q] 5)) (by rw [HHB.out]; exact HVA.out.below ((Below.refl _ _).alloc (Nat.le_refl _) _)) (two_new w3 k q) (HOV.out.below (hB.out.alloc hB.out.size _)) (HKT2.out.below (hB.out.alloc hB.out.size _) HKT2.out.lt)).mono ?_; rintro e w5 ⟨⟨v5, rfl, hv5, hf5⟩, b5⟩; have HV5 := Lib.hid hv5; have HF5 : Hid (∀ r, v5.ownBlock = some r → w2.heap.size ≤ r) := Lib.hid (fun r hr => Nat.le_trans (hB.out.alloc hB.out.size _).size (hf5.out r hr)); have hB := Lib.hid ((hB.out.alloc hB.out.size (.cells #[.int .u8 k, .int .u8 q] 5)).trans (b5.out.mono (hB.out.alloc hB.out.size _).size)); clear hv5 hf5 b5)
      | (go_at_call 9; refine (HTM.out vg (.slice (some ⟨w2.heap.size, 0, none⟩) 2 2) (.slice op (octL q).length oc) w3 (by rw [HHB.out]; exact HVB.out) HPY.out (HOV.out.below hB.out) (HKT2.out.below hB.out HKT2.out.lt)).mono ?_; rintro e w5 ⟨⟨v5, rfl, hv5, hf5⟩, b5⟩; have HV5 := Lib.hid hv5; have HF5 : Hid (∀ r, v5.ownBlock = some r → w2.heap.size ≤ r) := Lib.hid (fun r hr => Nat.le_trans hB.out.size (hf5.out r hr)); have hB := Lib.hid (hB.out.trans (b5.out.mono hB.out.size)); clear hv5 hf5 b5))
  all_goals
    (apply HQ.out
     · exact HV5.out
     · exact HF5.out
     · exact hB.out)
end Go.Proofs.YtaemdppihpefnaaGreatDoor
