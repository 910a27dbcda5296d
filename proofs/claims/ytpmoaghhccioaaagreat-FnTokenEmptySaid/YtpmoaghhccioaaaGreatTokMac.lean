/- laws.tokenMAC with a nil key, at the three algorithms: so many bytes; new memory only. -/
import Derived.Test.YtpmoaghhccioaaaGreatMac64
import Derived.Test.YtpmoaghhccioaaaGreatMac128
import Derived.Test.YtpmoaghhccioaaaGreatHof0
import Derived.Test.YtpmoaghhccioaaaGreatHof1
import Derived.Test.YtpmoaghhccioaaaGreatHof2
namespace Go.Proofs.YtpmoaghhccioaaaGreat
open Go.RowKit
set_option linter.unusedVariables false

set_option maxRecDepth 100000 in
set_option maxHeartbeats 1000000 in
theorem tokenMac0 (vb : Value) (xs : List Int) (w : World) (hb : Bs w vb xs) (hn : xs.length ≤ 1000) :
    Calls Tryz.prog 9 #[.string ⟨#[72, 83, 50, 53, 54]⟩, .slice none 0 0, vb] w fun e w' => (∃ v zs, e = .returned v ∧ w'.ownsRow w.heap.size 5 1 v 32 (cs8 zs)) ∧ Below w.heap.size w w' := by
  have HB := Lib.hid hb
  clear hb
  go_enter Tryz.func9, Tryz.ntmps9
  go_wp2_with fail
  go_at_call 14
  refine (kind0 _).mono ?_
  rintro e w1 ⟨rfl, rfl⟩
  go_wp2_with fail
  go_at_call 13
  refine (hashOf0 _).mono ?_
  rintro e w1 ⟨⟨g, c, s, zk, rfl, hg, hk⟩, b1⟩
  have HK := Lib.hid hk
  have B1 := Lib.hid b1
  clear hk b1
  go_wp2_with fail
  go_at_call 15
  refine (mac64 32 s g c 64 zk vb xs _ (by decide) (by decide) (by decide) HK.out hg (HB.out.below B1.out) hn).mono ?_
  rintro e w2 ⟨⟨v, zs, rfl, ov⟩, b2⟩
  have ov := Lib.hid (own_lower ov B1.out.size)
  have B2 := Lib.hid (B1.out.trans (b2.mono B1.out.size))
  clear b2
  go_wp2_with fail
  go_ret
  exact ⟨⟨_, _, rfl, ov.out⟩, B2.out⟩

set_option maxRecDepth 100000 in
set_option maxHeartbeats 1000000 in
theorem tokenMac1 (vb : Value) (xs : List Int) (w : World) (hb : Bs w vb xs) (hn : xs.length ≤ 1000) :
    Calls Tryz.prog 9 #[.string ⟨#[72, 83, 51, 56, 52]⟩, .slice none 0 0, vb] w fun e w' => (∃ v zs, e = .returned v ∧ w'.ownsRow w.heap.size 5 1 v 48 (cs8 zs)) ∧ Below w.heap.size w w' := by
  have HB := Lib.hid hb
  clear hb
  go_enter Tryz.func9, Tryz.ntmps9
  go_wp2_with fail
  go_at_call 14
  refine (kind1 _).mono ?_
  rintro e w1 ⟨rfl, rfl⟩
  go_wp2_with fail
  go_at_call 13
  refine (hashOf1 _).mono ?_
  rintro e w1 ⟨⟨g, c, s, zk, rfl, hg, hk⟩, b1⟩
  have HK := Lib.hid hk
  have B1 := Lib.hid b1
  clear hk b1
  go_wp2_with fail
  go_at_call 15
  refine (mac128 48 s g c 80 zk vb xs _ (by decide) (by decide) (by decide) HK.out hg (HB.out.below B1.out) hn).mono ?_
  rintro e w2 ⟨⟨v, zs, rfl, ov⟩, b2⟩
  have ov := Lib.hid (own_lower ov B1.out.size)
  have B2 := Lib.hid (B1.out.trans (b2.mono B1.out.size))
  clear b2
  go_wp2_with fail
  go_ret
  exact ⟨⟨_, _, rfl, ov.out⟩, B2.out⟩

set_option maxRecDepth 100000 in
set_option maxHeartbeats 1000000 in
theorem tokenMac2 (vb : Value) (xs : List Int) (w : World) (hb : Bs w vb xs) (hn : xs.length ≤ 1000) :
    Calls Tryz.prog 9 #[.string ⟨#[72, 83, 53, 49, 50]⟩, .slice none 0 0, vb] w fun e w' => (∃ v zs, e = .returned v ∧ w'.ownsRow w.heap.size 5 1 v 64 (cs8 zs)) ∧ Below w.heap.size w w' := by
  have HB := Lib.hid hb
  clear hb
  go_enter Tryz.func9, Tryz.ntmps9
  go_wp2_with fail
  go_at_call 14
  refine (kind2 _).mono ?_
  rintro e w1 ⟨rfl, rfl⟩
  go_wp2_with fail
  go_at_call 13
  refine (hashOf2 _).mono ?_
  rintro e w1 ⟨⟨g, c, s, zk, rfl, hg, hk⟩, b1⟩
  have HK := Lib.hid hk
  have B1 := Lib.hid b1
  clear hk b1
  go_wp2_with fail
  go_at_call 15
  refine (mac128 64 s g c 80 zk vb xs _ (by decide) (by decide) (by decide) HK.out hg (HB.out.below B1.out) hn).mono ?_
  rintro e w2 ⟨⟨v, zs, rfl, ov⟩, b2⟩
  have ov := Lib.hid (own_lower ov B1.out.size)
  have B2 := Lib.hid (B1.out.trans (b2.mono B1.out.size))
  clear b2
  go_wp2_with fail
  go_ret
  exact ⟨⟨_, _, rfl, ov.out⟩, B2.out⟩

end Go.Proofs.YtpmoaghhccioaaaGreat
