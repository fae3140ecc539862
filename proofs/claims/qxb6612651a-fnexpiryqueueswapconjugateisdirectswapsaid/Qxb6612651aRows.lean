/-
  No cell of these rows narrows 'for every input' (looked for: loops, veiled, ifaces, maps, wideKeys, modest, calm, conditions, laid).
  DERIVED. THE GIVEN ROWS OF THIS SEAT. 2 by the template 'for every input the law returns true; each argument reads behind the call as it read before'; 0 by the template 'total and deterministic' (their statements: Qxb6612651aTotals.lean).
  GIVEN WITH THE SEED: the statements are not yours to turn. If you find one false, say at which input.
  Laid BY PROGRAM, IN A SANDBOX (cutbox-rows.mjs): the forced cells as the released guide's own fill.sh prints them over the translation 77a6d1e196978a86… (all of the seat's roots in one cut). By AI agents, Wed Nov 11 2026. No macro, syntax, notation, axiom, sorry.
-/
import Derived.Test.Qxb6612651aChecked
import GoSem.Claim
import GoSem.ClaimJoined
import GoSem.ClaimMapViews
import Derived.JoinedTies
import Derived.KernelRfl
namespace Go.Proofs.Qxb6612651a
/- THE CELL 'sum', in the pinned program and in every row, IS THE sha256 OF THE DUMP (.gsa) THAT Qxb6612651aProg.lean LOADS. Nothing in Lean hashes anything: it is a label: what it is worth is what the hold of that sum in a sandbox is worth. -/
noncomputable def Try.pinned : Pinned := { name := "qxb6612651a", sum := "77a6d1e196978a86aa014e12a14f234220fcdb10cfb19b7b8a5791a6b951cdd0", checked := Try.checked }
namespace Rows
def none {H : Type} : Left H := { results := [], args := [] }

/-- 'zzlaws_store_b1.FnExpiryQueueSwapScriptKeepsPlaces': WHATEVER THE INPUT: true; the input reads as it did. -/
def fnExpiryQueueSwapScriptKeepsPlacesSpec : ChangeSpec := { name := "fnExpiryQueueSwapScriptKeepsPlaces", fn := fun _ => fun
  | [d1, d2, d3] => { results := [.lit (.bool true)], args := [d1, d2, d3] }
  | _ => none }
def fnExpiryQueueSwapScriptKeepsPlacesRow : OpenClaim := { program := "qxb6612651a", sum := "77a6d1e196978a86aa014e12a14f234220fcdb10cfb19b7b8a5791a6b951cdd0", func := "example.com/fenceline/fenceline/zzlaws_store_b1.FnExpiryQueueSwapScriptKeepsPlaces", spec := "fnExpiryQueueSwapScriptKeepsPlaces", apart := false }
def FnExpiryQueueSwapScriptKeepsPlacesSaid : Prop := fnExpiryQueueSwapScriptKeepsPlacesRow.holds Try.pinned (OpenSpec.ofChange fnExpiryQueueSwapScriptKeepsPlacesSpec)

/-- ITS FALSE NEIGHBOUR: 'it returns false'. Refute it at one input. -/
def fnExpiryQueueSwapScriptKeepsPlacesWrong : ChangeSpec := { name := "fnExpiryQueueSwapScriptKeepsPlaces", fn := fun _ => fun
  | [d1, d2, d3] => { results := [.lit (.bool false)], args := [d1, d2, d3] }
  | _ => none }
def FnExpiryQueueSwapScriptKeepsPlacesWrongFalsely : Prop := fnExpiryQueueSwapScriptKeepsPlacesRow.holds Try.pinned (OpenSpec.ofChange fnExpiryQueueSwapScriptKeepsPlacesWrong)

/-- 'zzlaws_store_b1.FnExpiryQueueSwapConjugateIsDirectSwap': WHATEVER THE INPUT: true; the input reads as it did. -/
def fnExpiryQueueSwapConjugateIsDirectSwapSpec : ChangeSpec := { name := "fnExpiryQueueSwapConjugateIsDirectSwap", fn := fun _ => fun
  | [d1, d2, d3, d4] => { results := [.lit (.bool true)], args := [d1, d2, d3, d4] }
  | _ => none }
def fnExpiryQueueSwapConjugateIsDirectSwapRow : OpenClaim := { program := "qxb6612651a", sum := "77a6d1e196978a86aa014e12a14f234220fcdb10cfb19b7b8a5791a6b951cdd0", func := "example.com/fenceline/fenceline/zzlaws_store_b1.FnExpiryQueueSwapConjugateIsDirectSwap", spec := "fnExpiryQueueSwapConjugateIsDirectSwap", apart := false }
def FnExpiryQueueSwapConjugateIsDirectSwapSaid : Prop := fnExpiryQueueSwapConjugateIsDirectSwapRow.holds Try.pinned (OpenSpec.ofChange fnExpiryQueueSwapConjugateIsDirectSwapSpec)

/-- ITS FALSE NEIGHBOUR: 'it returns false'. Refute it at one input. -/
def fnExpiryQueueSwapConjugateIsDirectSwapWrong : ChangeSpec := { name := "fnExpiryQueueSwapConjugateIsDirectSwap", fn := fun _ => fun
  | [d1, d2, d3, d4] => { results := [.lit (.bool false)], args := [d1, d2, d3, d4] }
  | _ => none }
def FnExpiryQueueSwapConjugateIsDirectSwapWrongFalsely : Prop := fnExpiryQueueSwapConjugateIsDirectSwapRow.holds Try.pinned (OpenSpec.ofChange fnExpiryQueueSwapConjugateIsDirectSwapWrong)

end Rows
end Go.Proofs.Qxb6612651a
