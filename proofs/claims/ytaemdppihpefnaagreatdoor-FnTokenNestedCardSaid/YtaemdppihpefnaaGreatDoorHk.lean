/- A hash behind an interface: what its methods do (a bundle of contracts). -/
import Derived.Test.YtaemdppihpefnaaGreatDoorBytes
import Derived.Test.YtaemdppihpefnaaGreatDoorOff
namespace Go.Proofs.YtaemdppihpefnaaGreatDoor
open Go.RowKit
set_option linter.unusedVariables false

/-- A hash: the type of its pointers, its states, and the contracts of its methods. -/
structure HK where
  T : TypeId
  cT : TypeId
  St : Type
  cells : St → List Value
  n : St → Nat
  ok : St → Prop
  init : St
  write : St → List Int → St
  reset : St → St
  sum : St → List Int
  block : Nat
  size : Nat
  kg : Nat
  kT : TypeId
  kC : List Value
  fNew : FuncId
  fWrite : FuncId
  fSum : FuncId
  fBlock : FuncId
  fReset : FuncId
  block_pos : 0 < block
  block_le : block ≤ 128
  size_pos : 0 < size
  size_le : size ≤ 64
  size_block : size ≤ block
  init_ok : ok init
  init_n : n init = 0
  write_ok : ∀ s p, ok s → p.length ≤ 65536 → n s + p.length ≤ 1099511627776 → ok (write s p) ∧ n (write s p) = n s + p.length
  reset_ok : ∀ s, ok s → ok (reset s) ∧ n (reset s) = 0
  sum_len : ∀ s, (sum s).length = size
  sum_byt : ∀ s, Byt (sum s)
  eNew : ∀ args w, (callFunc fNew args).run Tryz.prog w = .ok (.enter fNew args) w
  eWrite : ∀ args w, (callFunc fWrite args).run Tryz.prog w = .ok (.enter fWrite args) w
  eSum : ∀ args w, (callFunc fSum args).run Tryz.prog w = .ok (.enter fSum args) w
  eBlock : ∀ args w, (callFunc fBlock args).run Tryz.prog w = .ok (.enter fBlock args) w
  eReset : ∀ args w, (callFunc fReset args).run Tryz.prog w = .ok (.enter fReset args) w
  mBlock : ∀ (a : Addr) (w : World), (method 508 T (.pointer (some a)) "BlockSize").run Tryz.prog w = .ok (fBlock, .pointer (some a)) w
  mWrite : ∀ (a : Addr) (w : World), (method 508 T (.pointer (some a)) "Write").run Tryz.prog w = .ok (fWrite, .pointer (some a)) w
  mSum : ∀ (a : Addr) (w : World), (method 508 T (.pointer (some a)) "Sum").run Tryz.prog w = .ok (fSum, .pointer (some a)) w
  mReset : ∀ (a : Addr) (w : World), (method 508 T (.pointer (some a)) "Reset").run Tryz.prog w = .ok (fReset, .pointer (some a)) w
  nilAheadW : ∀ (a : Addr) (w : World), (nilAhead 508 T (.pointer (some a)) "Write").run Tryz.prog w = .ok (some false) w
  nilAheadS : ∀ (a : Addr) (w : World), (nilAhead 508 T (.pointer (some a)) "Sum").run Tryz.prog w = .ok (some false) w
  cmp : ∀ (g1 g2 : Nat) (c1 c2 : List Value) (w : World), g1 ≠ g2 → Row w g1 cT c1 → Row w g2 cT c2 → (binOp .eql 207 (.iface T (.pointer (some ⟨g1, 0, none⟩))) (.iface T (.pointer (some ⟨g2, 0, none⟩)))).run Tryz.prog w = .ok (.bool false) w
  cnew : ∀ w, Calls Tryz.prog fNew #[] w fun e w' => e = .returned (.iface T (.pointer (some ⟨w.heap.size, 0, none⟩))) ∧ Row w' w.heap.size cT (cells init) ∧ Below w.heap.size w w' ∧ w'.heap.size = w.heap.size + 1
  cwrite : ∀ g s v p w, ok s → Row w g cT (cells s) → Row w kg kT kC → kg ≠ g → Bs w v p → Off g v → p.length ≤ 65536 → n s + p.length ≤ 1099511627776 →
    Calls Tryz.prog fWrite #[.pointer (some ⟨g, 0, none⟩), v] w fun e w' => e = .returned (.tuple #[.int .i64 p.length, .nilIface]) ∧ Row w' g cT (cells (write s p)) ∧ But g w w'
  csum : ∀ g s w base v, ok s → n s ≤ 1099511627776 → Row w g cT (cells s) → Row w kg kT kC → w.ownsRow base 5 1 v 0 [] → base ≤ w.heap.size →
    Calls Tryz.prog fSum #[.pointer (some ⟨g, 0, none⟩), v] w fun e w' => ∃ v', e = .returned v' ∧ w'.ownsRow base 5 1 v' size (cs8 (sum s)) ∧ w.grownBy w' v.ownBlock
  cblock : ∀ v w, Calls Tryz.prog fBlock #[v] w fun e w' => e = .returned (.int .i64 block) ∧ w = w'
  creset : ∀ g s w, ok s → Row w g cT (cells s) → Calls Tryz.prog fReset #[.pointer (some ⟨g, 0, none⟩)] w fun e w' => e = .returned (.tuple #[]) ∧ Row w' g cT (cells (reset s)) ∧ Only g w w'
end Go.Proofs.YtaemdppihpefnaaGreatDoor
