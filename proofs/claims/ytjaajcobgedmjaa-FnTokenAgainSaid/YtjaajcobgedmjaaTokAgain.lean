/- laws.FnTokenAgain returns true, whatever the tables hold. -/
import Derived.Test.YtjaajcobgedmjaaAgain
import Derived.Test.YtjaajcobgedmjaaLive
import Derived.Test.YtjaajcobgedmjaaHk512
import Derived.Test.YtjaajcobgedmjaaSigner
import Derived.Test.YtjaajcobgedmjaaLook2
import Derived.Test.YtjaajcobgedmjaaGlobal
import Derived.Test.YtjaajcobgedmjaaOpened
namespace Go.Proofs.Ytjaajcobgedmjaa
open Go.RowKit
set_option linter.unusedVariables false

theorem algOk0 (K : List Int) (hK : K.length = 64) : AlgOk 0 (hk256 K hK) := ⟨hmacOf0, newSigner0, newVerifier0⟩
theorem algOk1 (K : List Int) (hK : K.length = 80) : AlgOk 1 (hk384 K hK) := ⟨hmacOf1, newSigner1, newVerifier1⟩
theorem algOk2 (K : List Int) (hK : K.length = 80) : AlgOk 2 (hk512 K hK) := ⟨hmacOf2, newSigner2, newVerifier2⟩
theorem live_of (w : World) (h : w.ShapedOpen Try.prog) : Live w := by
  obtain ⟨K, hK, r⟩ := table256 w h
  exact fun w' b => tokenLive K hK w' (r.below b r.lt)
theorem tokAgain (a : Int) (vb vk : Value) (b key : List Int) (w : World) (h : w.ShapedOpen Try.prog) (h0 : (Lit.int .u8 a).wf = true)
    (hb : Bs w vb b) (hk : Bs w vk key) (hyb : Byt b) (hyk : Byt key) :
    Calls Try.prog 3 #[.int .u8 a, vb, vk] w fun e w' => e = .returned (.bool true) ∧ Below w.heap.size w w' := by
  have ha : 0 ≤ a ∧ a < 256 := by
    simp [Lit.wf, IntKind.min, IntKind.max, IntKind.bits, IntKind.signed] at h0
    omega
  obtain ⟨K, hK, r⟩ := table256 w h
  obtain ⟨L, hL, s⟩ := table512 w h
  have hl := live_of w h
  have h3 : (a % 3).toNat = 0 ∨ (a % 3).toNat = 1 ∨ (a % 3).toNat = 2 := by omega
  rcases h3 with h3 | h3 | h3
  · exact lawAgain (hk256 K hK) a vb vk b key w ha.1 ha.2 (by rw [h3]; exact algOk0 K hK) hl hb hk hyb hyk r
  · exact lawAgain (hk384 L hL) a vb vk b key w ha.1 ha.2 (by rw [h3]; exact algOk1 L hL) hl hb hk hyb hyk s
  · exact lawAgain (hk512 L hL) a vb vk b key w ha.1 ha.2 (by rw [h3]; exact algOk2 L hL) hl hb hk hyb hyk s
end Go.Proofs.Ytjaajcobgedmjaa
