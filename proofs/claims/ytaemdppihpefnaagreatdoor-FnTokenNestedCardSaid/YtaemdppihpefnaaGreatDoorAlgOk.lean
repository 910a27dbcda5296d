/- The algorithms and their hashes; tokenLive in any well-shaped world. -/
import Derived.Test.YtaemdppihpefnaaGreatDoorVerified
import Derived.Test.YtaemdppihpefnaaGreatDoorEqual
import Derived.Test.YtaemdppihpefnaaGreatDoorSigned
import Derived.Test.YtaemdppihpefnaaGreatDoorLive
import Derived.Test.YtaemdppihpefnaaGreatDoorHk512
import Derived.Test.YtaemdppihpefnaaGreatDoorSigner
import Derived.Test.YtaemdppihpefnaaGreatDoorLook2
import Derived.Test.YtaemdppihpefnaaGreatDoorGlobal
namespace Go.Proofs.YtaemdppihpefnaaGreatDoor
open Go.RowKit
set_option linter.unusedVariables false

/-- An algorithm's name, and the hash that it goes with. -/
structure AlgOk (n : Nat) (H : HK) : Prop where
  of : OfName (hsName n)
  sg : MadeSigner H.fNew (hsName n)
  mv : MadeVerifier H.fNew (hsName n)
/-- tokenLive returns true, from w on. -/
def Live (w : World) : Prop := ∀ w', Below w.heap.size w w' → Calls Tryz.prog 6 #[] w' fun e w'' => e = .returned (.bool true) ∧ Below w'.heap.size w' w''
theorem equalT (v1 v2 : Value) (xs : List Int) (w : World) (h1 : Bs w v1 xs) (h2 : Bs w v2 xs) (hx : Byt xs) :
    Calls Tryz.prog 12 #[v1, v2] w fun e w' => e = .returned (.bool true) ∧ w = w' := by
  have h := equal v1 v2 xs xs w h1 h2 hx hx
  simpa using h

theorem algOk0 (K : List Int) (hK : K.length = 64) : AlgOk 0 (hk256 K hK) := ⟨hmacOf0, newSigner0, newVerifier0⟩
theorem algOk1 (K : List Int) (hK : K.length = 80) : AlgOk 1 (hk384 K hK) := ⟨hmacOf1, newSigner1, newVerifier1⟩
theorem algOk2 (K : List Int) (hK : K.length = 80) : AlgOk 2 (hk512 K hK) := ⟨hmacOf2, newSigner2, newVerifier2⟩
theorem live_of (w : World) (h : w.ShapedOpen Tryz.prog) : Live w := by
  obtain ⟨K, hK, r⟩ := table256 w h
  exact fun w' b => tokenLive K hK w' (r.below b r.lt)
end Go.Proofs.YtaemdppihpefnaaGreatDoor
