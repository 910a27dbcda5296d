/- SHA-512 and SHA-384 as hashes behind an interface. -/
import Derived.Test.YtaemdppihpefnaaGreatDoorHk256
import Derived.Test.YtaemdppihpefnaaGreatDoorSumOf512
namespace Go.Proofs.YtaemdppihpefnaaGreatDoor
open Go.RowKit
set_option linter.unusedVariables false

theorem put64_byt (v : Int) (k : Nat) : Byt (put64 v k) := by
  intro x hx
  obtain ⟨i, _, rfl⟩ := List.mem_map.1 hx
  have h : (256 : Int) ≠ 0 := by decide
  exact ⟨Int.emod_nonneg _ h, Int.emod_lt_of_pos _ (by decide)⟩
theorem setI_byt : ∀ (ys cur : List Int) (o : Nat), Byt cur → Byt ys → Byt (setI cur o ys)
  | [], _, _, h, _ => h
  | y :: ys, cur, o, h, k => by
    refine setI_byt ys _ _ (fun x hx => ?_) (fun x hx => k x (List.mem_cons_of_mem _ hx))
    rcases List.mem_or_eq_of_mem_set hx with h1 | h1
    · exact h x h1
    · rw [h1]; exact k y List.mem_cons_self
theorem dig6_byt (s : S8) : Byt (dig6 s) := by
  unfold dig6
  refine setI_byt _ _ _ (setI_byt _ _ _ (setI_byt _ _ _ (setI_byt _ _ _ (setI_byt _ _ _ (setI_byt _ _ _ ?_ (put64_byt _ _)) (put64_byt _ _)) (put64_byt _ _)) (put64_byt _ _)) (put64_byt _ _)) (put64_byt _ _)
  intro x hx
  rw [(List.mem_replicate.1 hx).2]; decide
theorem dig8_byt (s : S8) : Byt (dig8 s) := setI_byt _ _ _ (setI_byt _ _ _ (dig6_byt s) (put64_byt _ _)) (put64_byt _ _)
theorem byt_take {xs : List Int} (h : Byt xs) (n : Nat) : Byt (xs.take n) := fun x hx => h x (List.mem_of_mem_take hx)
theorem cs8_take (xs : List Int) (n : Nat) : cs8 (xs.take n) = (cs8 xs).take n := by simp [cs8, List.map_take]

theorem cmp512 (g1 g2 : Nat) (c1 c2 : List Value) (w : World) (hne : g1 ≠ g2) (h1 : Row w g1 263 c1) (h2 : Row w g2 263 c2) : (binOp .eql 207 (.iface 211 (.pointer (some ⟨g1, 0, none⟩))) (.iface 211 (.pointer (some ⟨g2, 0, none⟩)))).run Tryz.prog w = .ok (.bool false) w := by
  obtain ⟨i, hi, hc⟩ := Option.map_eq_some_iff.1 (show (Tryz.prog.info? 211).map (·.comparable) = some true by kernel_rfl)
  obtain ⟨j, hj, hz⟩ := Option.map_eq_some_iff.1 (show (Tryz.prog.info? 263).map (·.size) = some 139 by kernel_rfl)
  exact run_eql_two (ms := #[]) ⟨_, Tryz.underlying207⟩ hi hc Tryz.underlying211 hj (by rw [hz]; decide) g1 g2 c1 c2 _ _ w hne h1 h2
theorem mBlock512 (a : Addr) (w : World) : (method 508 211 (.pointer (some a)) "BlockSize").run Tryz.prog w = .ok (273, .pointer (some a)) w := by kernel_rfl
theorem eBlock512 (args : Array Value) (w : World) : (callFunc 273 args).run Tryz.prog w = .ok (.enter 273 args) w :=
  enter_of Tryz.func273 (by kernel_rfl) rfl args w
theorem mWrite512 (a : Addr) (w : World) : (method 508 211 (.pointer (some a)) "Write").run Tryz.prog w = .ok (277, .pointer (some a)) w := by kernel_rfl
theorem eWrite512 (args : Array Value) (w : World) : (callFunc 277 args).run Tryz.prog w = .ok (.enter 277 args) w :=
  enter_of Tryz.func277 (by kernel_rfl) rfl args w
theorem mSum512 (a : Addr) (w : World) : (method 508 211 (.pointer (some a)) "Sum").run Tryz.prog w = .ok (275, .pointer (some a)) w := by kernel_rfl
theorem eSum512 (args : Array Value) (w : World) : (callFunc 275 args).run Tryz.prog w = .ok (.enter 275 args) w :=
  enter_of Tryz.func275 (by kernel_rfl) rfl args w
theorem mReset512 (a : Addr) (w : World) : (method 508 211 (.pointer (some a)) "Reset").run Tryz.prog w = .ok (122, .pointer (some a)) w := by kernel_rfl
theorem eReset512 (args : Array Value) (w : World) : (callFunc 122 args).run Tryz.prog w = .ok (.enter 122 args) w :=
  enter_of Tryz.func122 (by kernel_rfl) rfl args w
theorem naW512 (a : Addr) (w : World) : (nilAhead 508 211 (.pointer (some a)) "Write").run Tryz.prog w = .ok (some false) w := by kernel_rfl
theorem naS512 (a : Addr) (w : World) : (nilAhead 508 211 (.pointer (some a)) "Sum").run Tryz.prog w = .ok (some false) w := by kernel_rfl


theorem new512i (w : World) :
    Calls Tryz.prog 93 #[] w fun e w' => e = .returned (.iface 211 (.pointer (some ⟨w.heap.size, 0, none⟩))) ∧ Row w' w.heap.size 263 (dig64 init64_512 (List.replicate 128 0) 0 0 64) ∧ Below w.heap.size w w' ∧ w'.heap.size = w.heap.size + 1 := by
  have G := Lib.hid (new512 w)
  go_enter Tryz.func93, Tryz.ntmps93
  go_wp2_with (go_at_call 94; refine G.out.mono ?_; rintro e w1 ⟨rfl, r, b, s⟩; have r := Lib.hid r; have b := Lib.hid b; have s := Lib.hid s)
  go_ret
  exact ⟨rfl, r.out, b.out, s.out⟩
theorem eNew512 (args : Array Value) (w : World) : (callFunc 93 args).run Tryz.prog w = .ok (.enter 93 args) w :=
  enter_of Tryz.func93 (by kernel_rfl) rfl args w
def ok512 (s : D64 × Nat) : Prop := s.1.x.length = 128 ∧ s.1.nx = s.2 % 128 ∧ s.1.len = s.2 ∧ s.1.sz = 64

/-- SHA-512, whatever its table holds. -/
def hk512 (K : List Int) (hK : K.length = 80) : HK where
  T := 211
  cT := 263
  St := D64 × Nat
  cells s := s.1.cells
  n s := s.2
  ok := ok512
  init := (⟨init64_512, List.replicate 128 0, 0, 0, 64⟩, 0)
  write s p := (write64 K s.1 p, s.2 + p.length)
  reset s := (⟨init64_512, s.1.x, 0, 0, 64⟩, 0)
  sum s := (done64 K s.1 s.2).take 64
  block := 128
  size := 64
  kg := 9
  kT := 385
  kC := cs64 K
  fNew := 93
  fWrite := 277
  fSum := 275
  fBlock := 273
  fReset := 122
  block_pos := by decide
  block_le := by decide
  size_pos := by decide
  size_le := by decide
  size_block := by decide
  init_ok := ⟨rfl, rfl, rfl, rfl⟩
  init_n := rfl
  write_ok := fun s p ⟨h1, h2, h3, h4⟩ hp hn => by
    refine ⟨⟨write64_x K s.1 p h1 (by omega), ?_, ?_, ?_⟩, rfl⟩
    · show (write64 K s.1 p).nx = (s.2 + p.length) % 128
      rw [write64_nx K s.1 p (by omega), h2]; omega
    · show (write64 K s.1 p).len = ((s.2 + p.length : Nat) : Int)
      rw [write64_len, h3, IntKind.wrap_u64]
      have hn : s.2 + p.length ≤ 1099511627776 := hn
      omega
    · show (write64 K s.1 p).sz = 64
      rw [write64_sz, h4]
  reset_ok := fun s ⟨h1, _, _, _⟩ => ⟨⟨h1, rfl, rfl, rfl⟩, rfl⟩
  sum_len := fun s => by rw [List.length_take, done64_len]; rfl
  sum_byt := fun s => byt_take (dig8_byt _) _
  mBlock := mBlock512
  mWrite := mWrite512
  mSum := mSum512
  mReset := mReset512
  nilAheadW := naW512
  nilAheadS := naS512
  cmp := cmp512
  eNew := eNew512
  eWrite := eWrite512
  eSum := eSum512
  eBlock := eBlock512
  eReset := eReset512
  cnew := new512i
  cwrite := fun g s v p w ⟨h1, h2, h3, _⟩ hr hk hg hb ho hp hn => write512 K hK g s.1 v p w h1 (by omega) hr hk hg hb ho hp
  csum := fun g s w base v ⟨h1, h2, h3, h4⟩ hn hr hk ho hb => by rw [cs8_take]; exact sum512 K hK g s.1 s.2 w h1 h4 h2 h3 hn hr hk base v ho hb
  cblock := blockSize512
  creset := fun g s w ⟨h1, h2, h3, h4⟩ hr => by
    have hr : Row w g 263 (dig64 s.1.s s.1.x s.1.nx s.1.len s.1.sz) := hr
    rw [h4] at hr
    exact reset512 g s.1.s s.1.x s.1.nx s.1.len w h1 hr

theorem new384i (w : World) :
    Calls Tryz.prog 90 #[] w fun e w' => e = .returned (.iface 211 (.pointer (some ⟨w.heap.size, 0, none⟩))) ∧ Row w' w.heap.size 263 (dig64 init64_384 (List.replicate 128 0) 0 0 48) ∧ Below w.heap.size w w' ∧ w'.heap.size = w.heap.size + 1 := by
  have G := Lib.hid (new384 w)
  go_enter Tryz.func90, Tryz.ntmps90
  go_wp2_with (go_at_call 91; refine G.out.mono ?_; rintro e w1 ⟨rfl, r, b, s⟩; have r := Lib.hid r; have b := Lib.hid b; have s := Lib.hid s)
  go_ret
  exact ⟨rfl, r.out, b.out, s.out⟩
theorem eNew384 (args : Array Value) (w : World) : (callFunc 90 args).run Tryz.prog w = .ok (.enter 90 args) w :=
  enter_of Tryz.func90 (by kernel_rfl) rfl args w
def ok384 (s : D64 × Nat) : Prop := s.1.x.length = 128 ∧ s.1.nx = s.2 % 128 ∧ s.1.len = s.2 ∧ s.1.sz = 48

/-- SHA-384, whatever its table holds. -/
def hk384 (K : List Int) (hK : K.length = 80) : HK where
  T := 211
  cT := 263
  St := D64 × Nat
  cells s := s.1.cells
  n s := s.2
  ok := ok384
  init := (⟨init64_384, List.replicate 128 0, 0, 0, 48⟩, 0)
  write s p := (write64 K s.1 p, s.2 + p.length)
  reset s := (⟨init64_384, s.1.x, 0, 0, 48⟩, 0)
  sum s := (done48 K s.1 s.2).take 48
  block := 128
  size := 48
  kg := 9
  kT := 385
  kC := cs64 K
  fNew := 90
  fWrite := 277
  fSum := 275
  fBlock := 273
  fReset := 122
  block_pos := by decide
  block_le := by decide
  size_pos := by decide
  size_le := by decide
  size_block := by decide
  init_ok := ⟨rfl, rfl, rfl, rfl⟩
  init_n := rfl
  write_ok := fun s p ⟨h1, h2, h3, h4⟩ hp hn => by
    refine ⟨⟨write64_x K s.1 p h1 (by omega), ?_, ?_, ?_⟩, rfl⟩
    · show (write64 K s.1 p).nx = (s.2 + p.length) % 128
      rw [write64_nx K s.1 p (by omega), h2]; omega
    · show (write64 K s.1 p).len = ((s.2 + p.length : Nat) : Int)
      rw [write64_len, h3, IntKind.wrap_u64]
      have hn : s.2 + p.length ≤ 1099511627776 := hn
      omega
    · show (write64 K s.1 p).sz = 48
      rw [write64_sz, h4]
  reset_ok := fun s ⟨h1, _, _, _⟩ => ⟨⟨h1, rfl, rfl, rfl⟩, rfl⟩
  sum_len := fun s => by rw [List.length_take, done48_len]; rfl
  sum_byt := fun s => byt_take (dig6_byt _) _
  mBlock := mBlock512
  mWrite := mWrite512
  mSum := mSum512
  mReset := mReset512
  nilAheadW := naW512
  nilAheadS := naS512
  cmp := cmp512
  eNew := eNew384
  eWrite := eWrite512
  eSum := eSum512
  eBlock := eBlock512
  eReset := eReset512
  cnew := new384i
  cwrite := fun g s v p w ⟨h1, h2, h3, _⟩ hr hk hg hb ho hp hn => write512 K hK g s.1 v p w h1 (by omega) hr hk hg hb ho hp
  csum := fun g s w base v ⟨h1, h2, h3, h4⟩ hn hr hk ho hb => by rw [cs8_take]; exact sum384 K hK g s.1 s.2 w h1 h4 h2 h3 hn hr hk base v ho hb
  cblock := blockSize512
  creset := fun g s w ⟨h1, h2, h3, h4⟩ hr => by
    have hr : Row w g 263 (dig64 s.1.s s.1.x s.1.nx s.1.len s.1.sz) := hr
    rw [h4] at hr
    exact reset384 g s.1.s s.1.x s.1.nx s.1.len w h1 hr
end Go.Proofs.YtaemdppihpefnaaGreatDoor
