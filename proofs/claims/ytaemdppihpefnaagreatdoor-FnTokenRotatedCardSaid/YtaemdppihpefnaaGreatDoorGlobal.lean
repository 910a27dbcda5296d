/- The tables of SHA-256 and of SHA-512, out of the shape of the world: some words. -/
import Derived.Test.YtaemdppihpefnaaGreatDoorHashKit
import Derived.Shelf.Vars
namespace Go.Proofs.YtaemdppihpefnaaGreatDoor
open Go.RowKit
set_option linter.unusedVariables false

theorem row_of_open {P : Program} {w : World} {g n : Nat} {t e : TypeId} {k : IntKind} (h : w.ShapedOpen P) (hg : g < P.globals.size) (hn : 0 < n)
    (h0 : (((begin P (fun _ _ => 0) default).world.heap[g]?).bind Obj.row?).map (fun x => (x.1.size, x.2)) = some (n, t))
    (hb : P.buildable t = true) (hc : P.cellTypes P.depth t = some (List.replicate n e)) (hu : P.underlying e = some (.int k)) :
    ∃ K : List Int, K.length = n ∧ Row w g t (K.map (Value.int k)) := by
  obtain ⟨⟨zero, t'⟩, h1, h2⟩ := Option.map_eq_some_iff.1 h0
  simp only [Prod.mk.injEq] at h2
  obtain ⟨hz, rfl⟩ := h2
  obtain ⟨cs, hh, hs, hr⟩ := h.1 g zero t' hg h1
  obtain ⟨ts, hts, _, hall⟩ := hr hb
  rw [hc] at hts
  cases hts
  have key : ∀ v ∈ cs.toList, ∃ x : Int, v = .int k x := by
    intro v hv
    obtain ⟨i, hi, hiv⟩ := List.mem_iff_getElem.1 hv
    have hsz : i < cs.size := by simpa using hi
    obtain ⟨u, hu', hok⟩ := hall i v (by rw [← hiv]; simp [hsz])
    have hu2 : u = e := by
      rw [List.length_replicate, List.getElem?_replicate] at hu'
      split at hu'
      · exact (Option.some.inj hu').symm
      · cases hu'
    subst hu2
    unfold Cell.ok at hok
    rw [hu] at hok
    cases v <;> simp at hok
    case int k' m => exact ⟨m, by rw [hok.1]⟩
  refine ⟨cs.toList.map (fun v => intOf v), by simp [hs, hz], ?_⟩
  show w.heap[g]? = some (.cells _ _ (0, 0))
  rw [hh]
  have : (cs.toList.map (fun v => intOf v)).map (Value.int k) = cs.toList := by
    rw [List.map_map]
    conv => rhs; rw [← List.map_id cs.toList]
    refine List.map_congr_left fun v hv => ?_
    obtain ⟨x, rfl⟩ := key v hv
    rfl
  rw [this]

theorem table256 (w : World) (h : w.ShapedOpen Tryz.prog) : ∃ K : List Int, K.length = 64 ∧ Row w 8 380 (cs32 K) :=
  row_of_open (n := 64) (e := 245) h (of_decide_eq_true (by kernel_rfl)) (by decide) (by kernel_rfl) (by kernel_rfl) (by kernel_rfl) Tryz.underlying245
theorem table512 (w : World) (h : w.ShapedOpen Tryz.prog) : ∃ K : List Int, K.length = 80 ∧ Row w 9 385 (cs64 K) :=
  row_of_open (n := 80) (e := 30) h (of_decide_eq_true (by kernel_rfl)) (by decide) (by kernel_rfl) (by kernel_rfl) (by kernel_rfl) Tryz.underlying30
end Go.Proofs.YtaemdppihpefnaaGreatDoor
