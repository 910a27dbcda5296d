/- SHA-256 as a hash behind an interface. -/
import Derived.Test.YtaemdppihpefnaaGreatDoorHk
import Derived.Test.YtaemdppihpefnaaGreatDoorSumOf256
import Derived.LaidEql
namespace Go.Proofs.YtaemdppihpefnaaGreatDoor
open Go.RowKit
set_option linter.unusedVariables false

theorem new256i (w : World) :
    Calls Tryz.prog 87 #[] w fun e w' => e = .returned (.iface 208 (.pointer (some ⟨w.heap.size, 0, none⟩))) ∧ Row w' w.heap.size 259 (dig32 init32 (List.replicate 64 0) 0 0) ∧ Below w.heap.size w w' ∧ w'.heap.size = w.heap.size + 1 := by
  have G := Lib.hid (new256 w)
  go_enter Tryz.func87, Tryz.ntmps87
  go_wp2_with (go_at_call 88; refine G.out.mono ?_; rintro e w1 ⟨rfl, r, b, s⟩; have r := Lib.hid r; have b := Lib.hid b; have s := Lib.hid s)
  go_ret
  exact ⟨rfl, r.out, b.out, s.out⟩

theorem put32_byt (v : Int) : Byt (put32 v) := by
  intro x hx
  simp only [put32, List.mem_cons, List.not_mem_nil, or_false] at hx
  rcases hx with rfl | rfl | rfl | rfl <;> omega
theorem byt_append {a b : List Int} (h : Byt a) (k : Byt b) : Byt (a ++ b) := by
  intro x hx
  rcases List.mem_append.1 hx with h1 | h1
  · exact h x h1
  · exact k x h1
theorem done32_byt (K : List Int) (d : D32) (n : Nat) : Byt (done32 K d n) := by
  unfold done32 out32
  exact byt_append (byt_append (byt_append (byt_append (byt_append (byt_append (byt_append (put32_byt _) (put32_byt _)) (put32_byt _)) (put32_byt _)) (put32_byt _)) (put32_byt _)) (put32_byt _)) (put32_byt _)

def ok256 (s : D32 × Nat) : Prop := s.1.x.length = 64 ∧ s.1.nx = s.2 % 64 ∧ s.1.len = s.2
theorem enter_of {P : Program} {f : FuncId} {fn : Func} {c : Code} (hf : P.funcs[f]? = some fn) (hname : (fn.name == "runtime.NumGoroutine") = false) (hb : fn.body = some c) (args : Array Value) (w : World) : (callFunc f args).run P w = .ok (.enter f args) w := by
  have h1 : fn.name ≠ "runtime.NumGoroutine" := by simpa using hname
  simp [callFunc, hf, h1, hb]
/-- Two pointers of one type behind an interface, into two rows: they are not one. -/
theorem run_eql_two {P : Program} {t T elem : TypeId} {ms : Array (String × TypeId)} {i j : TypeInfo} (ht : ∃ ms, P.underlying t = some (.interface ms)) (hi : P.info? T = some i) (hc : i.comparable = true) (hT : P.underlying T = some (.pointer elem)) (hj : P.info? elem = some j) (hsz : j.size ≠ 0)
    (g1 g2 : Nat) (c1 c2 : List Value) (t1 t2 : TypeId) (w : World) (hne : g1 ≠ g2) (h1 : Row w g1 t1 c1) (h2 : Row w g2 t2 c2) :
    (binOp .eql t (.iface T (.pointer (some ⟨g1, 0, none⟩))) (.iface T (.pointer (some ⟨g2, 0, none⟩)))).run P w = .ok (.bool false) w := by
  obtain ⟨ms, ht⟩ := ht
  have e1 : ∀ d : Nat, (Op.equalIn (d + 1) T (.pointer (some ⟨g1, 0, none⟩)) (.pointer (some ⟨g2, 0, none⟩))).run P w = .ok false w := fun d => by
    simp [Op.equalIn, run_underlying hT, sizeOf, typeInfo, hj, hsz, run_sameAddr_other (P := P) w (a := ⟨g1, 0, none⟩) (b := ⟨g2, 0, none⟩) (by intro h; injection h with h; exact hne h) h1 h2]
  have e2 : ∀ d : Nat, (Op.equalIn (d + 1 + 1) t (.iface T (.pointer (some ⟨g1, 0, none⟩))) (.iface T (.pointer (some ⟨g2, 0, none⟩)))).run P w = .ok false w := fun d => by
    rw [Op.equalIn]
    simp [run_underlying ht, typeInfo, hi, hc, e1]
  simp only [binOp]
  simp [Op.equal, Op.maxDepth, e2 9998]

theorem cmp256 (g1 g2 : Nat) (c1 c2 : List Value) (w : World) (hne : g1 ≠ g2) (h1 : Row w g1 259 c1) (h2 : Row w g2 259 c2) : (binOp .eql 207 (.iface 208 (.pointer (some ⟨g1, 0, none⟩))) (.iface 208 (.pointer (some ⟨g2, 0, none⟩)))).run Tryz.prog w = .ok (.bool false) w := by
  obtain ⟨i, hi, hc⟩ := Option.map_eq_some_iff.1 (show (Tryz.prog.info? 208).map (·.comparable) = some true by kernel_rfl)
  obtain ⟨j, hj, hz⟩ := Option.map_eq_some_iff.1 (show (Tryz.prog.info? 259).map (·.size) = some 75 by kernel_rfl)
  exact run_eql_two (ms := #[]) ⟨_, Tryz.underlying207⟩ hi hc Tryz.underlying208 hj (by rw [hz]; decide) g1 g2 c1 c2 _ _ w hne h1 h2
theorem mBlock256 (a : Addr) (w : World) : (method 508 208 (.pointer (some a)) "BlockSize").run Tryz.prog w = .ok (258, .pointer (some a)) w := by kernel_rfl
theorem eBlock256 (args : Array Value) (w : World) : (callFunc 258 args).run Tryz.prog w = .ok (.enter 258 args) w :=
  enter_of Tryz.func258 (by kernel_rfl) rfl args w
theorem mWrite256 (a : Addr) (w : World) : (method 508 208 (.pointer (some a)) "Write").run Tryz.prog w = .ok (262, .pointer (some a)) w := by kernel_rfl
theorem eWrite256 (args : Array Value) (w : World) : (callFunc 262 args).run Tryz.prog w = .ok (.enter 262 args) w :=
  enter_of Tryz.func262 (by kernel_rfl) rfl args w
theorem mSum256 (a : Addr) (w : World) : (method 508 208 (.pointer (some a)) "Sum").run Tryz.prog w = .ok (260, .pointer (some a)) w := by kernel_rfl
theorem eSum256 (args : Array Value) (w : World) : (callFunc 260 args).run Tryz.prog w = .ok (.enter 260 args) w :=
  enter_of Tryz.func260 (by kernel_rfl) rfl args w
theorem mReset256 (a : Addr) (w : World) : (method 508 208 (.pointer (some a)) "Reset").run Tryz.prog w = .ok (121, .pointer (some a)) w := by kernel_rfl
theorem eReset256 (args : Array Value) (w : World) : (callFunc 121 args).run Tryz.prog w = .ok (.enter 121 args) w :=
  enter_of Tryz.func121 (by kernel_rfl) rfl args w
theorem eNew256 (args : Array Value) (w : World) : (callFunc 87 args).run Tryz.prog w = .ok (.enter 87 args) w :=
  enter_of Tryz.func87 (by kernel_rfl) rfl args w
theorem naW256 (a : Addr) (w : World) : (nilAhead 508 208 (.pointer (some a)) "Write").run Tryz.prog w = .ok (some false) w := by kernel_rfl
theorem naS256 (a : Addr) (w : World) : (nilAhead 508 208 (.pointer (some a)) "Sum").run Tryz.prog w = .ok (some false) w := by kernel_rfl

/-- SHA-256, whatever its table holds. -/
def hk256 (K : List Int) (hK : K.length = 64) : HK where
  T := 208
  cT := 259
  St := D32 × Nat
  cells s := s.1.cells
  n s := s.2
  ok := ok256
  init := (⟨init32, List.replicate 64 0, 0, 0⟩, 0)
  write s p := (write32 K s.1 p, s.2 + p.length)
  reset s := (⟨init32, s.1.x, 0, 0⟩, 0)
  sum s := done32 K s.1 s.2
  block := 64
  size := 32
  kg := 8
  kT := 380
  kC := cs32 K
  fNew := 87
  fWrite := 262
  fSum := 260
  fBlock := 258
  fReset := 121
  block_pos := by decide
  block_le := by decide
  size_pos := by decide
  size_le := by decide
  size_block := by decide
  init_ok := ⟨rfl, rfl, rfl⟩
  init_n := rfl
  write_ok := fun s p ⟨h1, h2, h3⟩ hp hn => by
    refine ⟨⟨write32_x K s.1 p h1 (by omega), ?_, ?_⟩, rfl⟩
    · show (write32 K s.1 p).nx = (s.2 + p.length) % 64
      rw [write32_nx K s.1 p (by omega), h2]; omega
    · show (write32 K s.1 p).len = ((s.2 + p.length : Nat) : Int)
      rw [write32_len, h3, IntKind.wrap_u64]
      have hn : s.2 + p.length ≤ 1099511627776 := hn
      omega
  reset_ok := fun s ⟨h1, _, _⟩ => ⟨⟨h1, rfl, rfl⟩, rfl⟩
  sum_len := fun s => done32_len K s.1 s.2
  sum_byt := fun s => done32_byt K s.1 s.2
  mBlock := mBlock256
  mWrite := mWrite256
  mSum := mSum256
  mReset := mReset256
  nilAheadW := naW256
  nilAheadS := naS256
  cmp := cmp256
  eNew := eNew256
  eWrite := eWrite256
  eSum := eSum256
  eBlock := eBlock256
  eReset := eReset256
  cnew := new256i
  cwrite := fun g s v p w ⟨h1, h2, h3⟩ hr hk hg hb ho hp hn => write256 K hK g s.1 v p w h1 (by omega) hr hk hg hb ho hp
  csum := fun g s w base v ⟨h1, h2, h3⟩ hn hr hk ho hb => sum256 K hK g s.1 s.2 w h1 h2 h3 hn hr hk base v ho hb
  cblock := blockSize256
  creset := fun g s w ⟨h1, h2, h3⟩ hr => reset256 g s.1.s s.1.x s.1.nx s.1.len w h1 hr
end Go.Proofs.YtaemdppihpefnaaGreatDoor
