/- spec.hashTimes and spec.hashMore: they return; new memory only. -/
import Derived.Test.YtpmoaghhccioaaaGreatBlockKit
import Derived.Test.YtpmoaghhccioaaaGreatBytes
import Derived.Deep.LoopGhost
import Derived.Outline
namespace Go.Proofs.YtpmoaghhccioaaaGreat
open Go.RowKit
set_option linter.unusedVariables false

theorem set32p {w : World} {g : Nat} {t : TypeId} {Y : List Int} (h : Row w g t (cs32 Y)) (k : Nat) (z : Int) : Row (w.setCell ⟨g, k, none⟩ (.int .u32 z)) g t (cs32 (Y.set k z)) := by
  have := h.set k (.int .u32 z)
  simpa [cs32, List.map_set] using this

set_option maxRecDepth 100000 in
set_option maxHeartbeats 4000000 in
theorem hashTimes (g1 g2 : Nat) (T1 T2 : TypeId) (A B : List Int) (n1 n2 : Nat) (w : World) (hA : A.length = n1) (hB : B.length = n2) (h1 : Row w g1 T1 (cs32 A)) (h2 : Row w g2 T2 (cs32 B)) (hn1 : n1 ≤ 64) (hn2 : n2 ≤ 64) :
    Calls Tryz.prog 33 #[.slice (some ⟨g1, 0, none⟩) n1 n1, .slice (some ⟨g2, 0, none⟩) n2 n2] w fun e w' => ∃ Y, e = .returned (.slice (some ⟨w.heap.size, 0, none⟩) (n1 + n2 : Nat) (n1 + n2)) ∧ Y.length = n1 + n2 ∧ Row w' w.heap.size 68 (cs32 Y) ∧ Below w.heap.size w w' := by
  have H1 := Lib.hid h1
  have H2 := Lib.hid h2
  have HA := Lib.hid hA
  have HB := Lib.hid hB
  clear h1 h2 hA hB
  go_enter Tryz.func33, Tryz.ntmps33
  go_wp2_with (refine wpl_make rfl (.tmp 16) (.tmp 16) 66 rfl 68 (.int .u32 0) 4 Tryz.underlying66 (by kernel_rfl) rfl .i64 .i64 _ (n1 + n2) rfl rfl (by omega) (by omega) (by unfold maxLen; omega) ?_; intro g w1 hg r1 s1 b1)
  subst hg
  have R1 : Hid (Row w1 w.heap.size 68 (cs32 (List.replicate (n1 + n2) 0))) := Lib.hid (by have := r1; simpa [cs32] using this)
  have B1 := Lib.hid b1
  clear r1 b1 s1
  go_loopw [20] (fun i wr => ∃ (k : Nat) (Y : List Int), k ≤ n1 ∧ i = .int .i64 k ∧ Hid (Y.length = n1 + n2) ∧ Hid (Row wr w.heap.size 68 (cs32 Y)) ∧ Hid (Below w.heap.size w wr)) (fun i _ => n1 - (intOf i).toNat)
  case atStart => exact ⟨0, _, by omega, rfl, Lib.hid (by simp), R1, B1⟩
  case round =>
    obtain ⟨k, Y, hk, rfl, hY, hR, hB⟩ := hrel
    by_cases hlt : k < n1
    · have ca : wr.cell? ⟨g1, k, none⟩ = some (.int .u32 (A.getD k 0)) := by rw [hB.out.cell H1.out.lt, H1.out.cell, get_cs32 _ _ (by rw [HA.out]; exact hlt)]
      go_wp2_with fail
      clear ca
      obtain ⟨wo, rfl⟩ : ∃ wo : World, wo = wr := ⟨_, rfl⟩
      go_loopw [8, 27] (fun c i wr => ∃ (m : Nat) (C : Int) (Y : List Int), m ≤ n2 ∧ c = .int .u64 C ∧ i = .int .i64 m ∧ Hid (Y.length = n1 + n2) ∧ Hid (Row wr w.heap.size 68 (cs32 Y)) ∧ Hid (Below w.heap.size w wr)) (fun _ i _ => n2 - (intOf i).toNat)
      case atStart => exact ⟨0, 0, Y, by omega, rfl, rfl, hY, hR, hB⟩
      case round =>
        clear hY hR hB
        obtain ⟨m, C, Y, hm, rfl, rfl, hY, hR, hB⟩ := hrel
        by_cases hlm : m < n2
        · have cb : wr.cell? ⟨g2, m, none⟩ = some (.int .u32 (B.getD m 0)) := by rw [hB.out.cell H2.out.lt, H2.out.cell, get_cs32 _ _ (by rw [HB.out]; exact hlm)]
          have cy : wr.cell? ⟨w.heap.size, k + m, none⟩ = some (.int .u32 (Y.getD (k + m) 0)) := by rw [hR.out.cell, get_cs32 _ _ (by rw [hY.out]; omega)]
          have fy := hR.out.unfrozen (k + m)
          have hkm : (k : Int) + m < n1 + n2 := by omega
          go_wp2_with fail
          refine ⟨⟨m + 1, _, _, by omega, rfl, by go_num, Lib.hid (by rw [List.length_set]; exact hY.out), Lib.hid (set32p hR.out (k + m) _), Lib.hid (hB.out.setCell (Nat.le_refl _) _)⟩, by simp [intOf]; omega⟩
        · obtain rfl : m = n2 := by omega
          have cy : wr.cell? ⟨w.heap.size, k + m, none⟩ = some (.int .u32 (Y.getD (k + m) 0)) := by rw [hR.out.cell, get_cs32 _ _ (by rw [hY.out]; omega)]
          have fy := hR.out.unfrozen (k + m)
          have hkm : (k : Int) + m < n1 + m := by omega
          go_wp2_with fail
          refine ⟨⟨k + 1, _, by omega, by go_num, Lib.hid (by rw [List.length_set]; exact hY.out), Lib.hid (set32p hR.out (k + m) _), Lib.hid (hB.out.setCell (Nat.le_refl _) _)⟩, by simp [intOf]; omega⟩
    · obtain rfl : k = n1 := by omega
      go_wp2_with fail
      go_ret
      exact ⟨Y, rfl, hY.out, hR.out, hB.out⟩

def AnyBool (e : Ending) : Prop := ∃ b, e = .returned (.bool b)
set_option maxRecDepth 100000 in
set_option maxHeartbeats 4000000 in
theorem hashMore (g1 g2 : Nat) (T1 T2 : TypeId) (A B : List Int) (n1 n2 : Nat) (w : World) (hA : A.length = n1) (hB : B.length = n2) (h1 : Row w g1 T1 (cs32 A)) (h2 : Row w g2 T2 (cs32 B)) (hn1 : n1 ≤ 64) (hn2 : n2 ≤ 64) :
    Calls Tryz.prog 34 #[.slice (some ⟨g1, 0, none⟩) n1 n1, .slice (some ⟨g2, 0, none⟩) n2 n2] w fun e w' => AnyBool e ∧ w' = w := by
  have H1 := Lib.hid h1
  have H2 := Lib.hid h2
  have HA := Lib.hid hA
  have HB := Lib.hid hB
  clear h1 h2 hA hB
  go_enter Tryz.func34, Tryz.ntmps34
  go_wp2_with fail
  all_goals
    go_loopw [5] (fun i wr => ∃ m : Int, -1 ≤ m ∧ m ≤ 127 ∧ i = .int .i64 m ∧ wr = w) (fun i _ => (intOf i + 1).toNat)
    case atStart => exact ⟨_, by omega, by omega, rfl, rfl⟩
    case round =>
      obtain ⟨m, hm0, hm1, rfl, rfl⟩ := hrel
      by_cases hm : 0 ≤ m
      · obtain ⟨k, rfl⟩ : ∃ k : Nat, m = k := ⟨m.toNat, by omega⟩
        have ca : k < n1 → ∃ x, wr.cell? ⟨g1, k, none⟩ = some (.int .u32 x) := fun h => ⟨_, by rw [H1.out.cell, get_cs32 _ _ (by rw [HA.out]; exact h)]⟩
        have cb : k < n2 → ∃ x, wr.cell? ⟨g2, k, none⟩ = some (.int .u32 x) := fun h => ⟨_, by rw [H2.out.cell, get_cs32 _ _ (by rw [HB.out]; exact h)]⟩
        obtain ⟨x, hx⟩ : ∃ x, (k < n1 → wr.cell? ⟨g1, k, none⟩ = some (.int .u32 x)) ∧ (¬ k < n1 → x = 0) := by
          by_cases h : k < n1
          · obtain ⟨x, hx⟩ := ca h; exact ⟨x, fun _ => hx, fun h2 => absurd h h2⟩
          · exact ⟨0, fun h2 => absurd h2 h, fun _ => rfl⟩
        obtain ⟨y, hy⟩ : ∃ y, (k < n2 → wr.cell? ⟨g2, k, none⟩ = some (.int .u32 y)) ∧ (¬ k < n2 → y = 0) := by
          by_cases h : k < n2
          · obtain ⟨x, hx⟩ := cb h; exact ⟨x, fun _ => hx, fun h2 => absurd h h2⟩
          · exact ⟨0, fun h2 => absurd h2 h, fun _ => rfl⟩
        clear ca cb
        obtain ⟨hx1, hx2⟩ := hx
        obtain ⟨hy1, hy2⟩ := hy
        by_cases ha : k < n1 <;> by_cases hb : k < n2
        all_goals
          first | (have hx1 := hx1 ha) | (obtain rfl := hx2 ha)
          first | (have hy1 := hy1 hb) | (obtain rfl := hy2 hb)
          go_wp2_with fail
          all_goals first
            | (go_ret; first | exact ⟨_, rfl⟩ | exact ⟨⟨_, rfl⟩, rfl⟩)
            | (refine ⟨⟨(k : Int) - 1, by omega, by omega, rfl, trivial⟩, by simp only [intOf]; omega⟩)
      · go_wp2_with fail
        go_ret
        first | exact ⟨_, rfl⟩ | exact ⟨⟨_, rfl⟩, rfl⟩
end Go.Proofs.YtpmoaghhccioaaaGreat
