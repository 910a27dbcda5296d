/- spec.hashPrimes returns the 80 first primes, as words; new memory only. -/
import Derived.Test.YtpmoaghhccioaaaGreatTimes
import Derived.Test.YtpmoaghhccioaaaGreatSpecKit
namespace Go.Proofs.YtpmoaghhccioaaaGreat
open Go.RowKit
set_option linter.unusedVariables false

def P80 : List Nat := [2, 3, 5, 7, 11, 13, 17, 19, 23, 29, 31, 37, 41, 43, 47, 53, 59, 61, 67, 71, 73, 79, 83, 89, 97, 101, 103, 107, 109, 113, 127, 131, 137, 139, 149, 151, 157, 163, 167, 173, 179, 181, 191, 193, 197, 199, 211, 223, 227, 229, 233, 239, 241, 251, 257, 263, 269, 271, 277, 281, 283, 293, 307, 311, 313, 317, 331, 337, 347, 349, 353, 359, 367, 373, 379, 383, 389, 397, 401, 409]
/-- The primes that are found ahead of k + 2. -/
def found (k : Nat) : List Nat := P80.filter (fun x => Nat.blt x (k + 2))
def free (k : Nat) (L : List Nat) : Bool := L.all (fun q => !(Nat.beq ((k + 2) % q) 0))
theorem found_few : ((List.range 408).all fun k => Nat.blt (found k).length 80) = true := by decide +kernel
theorem found_all : (found 408).length = 80 := by decide +kernel
theorem found_step : ((List.range 408).all fun k => if free k (found k) then found (k + 1) == found k ++ [k + 2] else found (k + 1) == found k) = true := by decide +kernel
theorem found_pos : (P80.all fun q => Nat.blt 0 q) = true := by decide +kernel
theorem few {k : Nat} (h : k < 408) : (found k).length < 80 := by
  have := List.all_eq_true.1 found_few k (List.mem_range.2 h)
  simpa [Nat.blt_eq] using this
theorem step_free {k : Nat} (h : k < 408) (hf : free k (found k) = true) : found (k + 1) = found k ++ [k + 2] := by
  have := List.all_eq_true.1 found_step k (List.mem_range.2 h)
  simpa [hf] using this
theorem step_not {k : Nat} (h : k < 408) (hf : free k (found k) = false) : found (k + 1) = found k := by
  have := List.all_eq_true.1 found_step k (List.mem_range.2 h)
  simpa [hf] using this
theorem pos {k q : Nat} (h : q ∈ found k) : 0 < q := by
  have := List.all_eq_true.1 found_pos q (List.mem_filter.1 h).1
  simpa [Nat.blt_eq] using this

/-- The cells of the primes that are found ahead of k + 2. -/
def csP (k : Nat) : List Value := (found k).map (fun q : Nat => Value.int .u32 (q : Int))

set_option maxRecDepth 100000 in
set_option maxHeartbeats 4000000 in
theorem hashPrimes (w : World) :
    Calls Tryz.prog 19 #[.int .i64 80] w fun e w' => ∃ g c, e = .returned (.slice (some ⟨g, 0, none⟩) 80 c) ∧ w'.ownsRow w.heap.size 68 1 (.slice (some ⟨g, 0, none⟩) 80 c) 80 (csP 408) ∧ Below w.heap.size w w' := by
  go_enter Tryz.func19, Tryz.ntmps19
  go_wp2_with fail
  go_loopw [3, 4] (fun v p wr => ∃ (k : Nat) (a : Option Addr) (c : Nat), k ≤ 408 ∧ v = .slice a (found k).length c ∧ p = .int .u32 ((k : Int) + 2) ∧ Hid (wr.ownsRow w.heap.size 68 1 v (found k).length (csP k)) ∧ Hid (Below w.heap.size w wr)) (fun _ p _ => 500 - (intOf p).toNat)
  case atStart => exact ⟨0, none, 0, by omega, rfl, rfl, Lib.hid (World.ownsRow_nil w w.heap.size 68 1), Lib.hid (Below.refl _ _)⟩
  case round =>
    obtain ⟨k, a, c, hk, rfl, rfl, hO, hB⟩ := hrel
    by_cases hlt : k < 408
    · have hf := few hlt
      go_wp2_with fail
      obtain ⟨wo, rfl⟩ : ∃ wo : World, wo = wr := ⟨_, rfl⟩
      go_loopw [5, 16] (fun b i wr => ∃ (m : Nat), m ≤ (found k).length ∧ b = .bool (free k ((found k).take m)) ∧ i = .int .i64 m ∧ wr = wo) (fun _ i _ => (found k).length - (intOf i).toNat)
      case atStart => exact ⟨0, by omega, rfl, rfl, rfl⟩
      case round =>
        obtain ⟨m, hm, rfl, rfl, rfl⟩ := hrel
        by_cases hlm : m < (found k).length
        · obtain ⟨g, c', he, hg0, hgl⟩ := hO.out.form (by omega)
          simp only [Value.slice.injEq, true_and] at he
          obtain ⟨rfl, rfl⟩ := he
          obtain ⟨q, hq⟩ : ∃ q, (found k)[m] = q := ⟨_, rfl⟩
          have cq : wr.cell? ⟨g, m, none⟩ = some (.int .u32 (q : Int)) := by rw [hO.out.cellAt m (by omega), ← hq]; simp [csP, hlm]
          have hqp : 0 < q := by rw [← hq]; exact pos (List.getElem_mem hlm)
          have htk : free k ((found k).take (m + 1)) = (free k ((found k).take m) && !(Nat.beq ((k + 2) % q) 0)) := by
            rw [List.take_succ_eq_append_getElem hlm, hq]; simp [free]
          have HT := Lib.hid htk
          clear htk
          cases hb : free k ((found k).take m)
          · rw [hb] at HT
            go_wp2_with fail
            refine ⟨⟨m + 1, by omega, by rw [HT.out]; rfl, by go_num, trivial⟩, by simp [intOf]; omega⟩
          · rw [hb] at HT
            have hq0 : ((q : Int) == 0) = false := by simp; omega
            go_wp2_with fail
            refine ⟨⟨m + 1, by omega, ?_, by go_num, trivial⟩, by simp [intOf]; omega⟩
            rw [HT.out]
            have e1 : (((k : Int) + 2) % q != 0) = !(Nat.beq ((k + 2) % q) 0) := by
              have : ((k : Int) + 2) % q = (((k + 2) % q : Nat) : Int) := by rw [Int.natCast_emod]; rfl
              rw [this]
              cases hz : (k + 2) % q with
              | zero => rfl
              | succ n =>
                have : Nat.beq (n + 1) 0 = false := rfl
                rw [this]; simp; omega
            rw [e1]; rfl
        · obtain rfl : m = (found k).length := by omega
          have htk : free k ((found k).take (found k).length) = free k (found k) := by rw [List.take_length]
          have HF := Lib.hid htk
          cases hb : free k (found k)
          · rw [htk, hb]
            have hstep := step_not hlt hb
            have HS := Lib.hid hstep
            clear hstep
            go_wp2_with fail
            refine ⟨⟨k + 1, a, c, by omega, by rw [HS.out], by go_num, Lib.hid ?_, hB⟩, by simp [intOf]; omega⟩
            unfold csP; rw [HS.out]; exact hO.out
          · rw [htk, hb]
            have hcx : ∀ o, (wr.alloc o).ownsRow w.heap.size 68 1 (.slice a (found k).length c) (found k).length (csP k) := fun o => hO.out.alloc o
            have HX := Lib.hid hcx
            have hs := hB.out.size
            have hstep := step_free hlt hb
            go_wp2_with (at_builtin; refine wpl_append1 rfl _ _ 66 rfl w.heap.size 68 (.int .u32 0) 4 Tryz.underlying66 (by kernel_rfl) rfl (by decide) _ (found k).length (csP k) rfl (HX.out _) wr.heap.size _ (.int .u32 ((k : Int) + 2)) rfl (by rw [cell_of_row _ _ _ _ _ _ (heap_alloc_new _ _)]; rfl) rfl (by omega) (by simp; omega) ?_; intro g1 c1 w1 o1 gr1 hg1 hl1)
            have el : (found (k + 1)).length = (found k).length + 1 := by rw [hstep]; simp
            have ec : csP (k + 1) = csP k ++ [Value.int .u32 ((k : Int) + 2)] := by unfold csP; rw [hstep]; simp
            refine ⟨⟨k + 1, _, c1, by omega, by rw [el], by go_num, Lib.hid ?_, Lib.hid ?_⟩, by simp [intOf]; omega⟩
            · rw [el, ec]; exact o1
            · exact ((hB.out.alloc hB.out.size _)).grown gr1 (by simp; omega) (fun x hx => own_ge hO.out x hx)
    · obtain rfl : k = 408 := by omega
      have ha := found_all
      obtain ⟨g, c', he, hg0, hgl⟩ := hO.out.form (by omega)
      simp only [Value.slice.injEq, true_and] at he
      obtain ⟨rfl, rfl⟩ := he
      rw [ha] at hO ⊢
      go_wp2_with fail
      go_ret
      exact ⟨g, c, rfl, hO.out, hB.out⟩
end Go.Proofs.YtpmoaghhccioaaaGreat
