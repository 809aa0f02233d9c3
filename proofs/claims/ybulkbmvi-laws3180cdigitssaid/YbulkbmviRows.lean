/-
  No cell of these rows narrows 'for every input' (looked for: loops, veiled, ifaces, maps, wideKeys, modest, calm, conditions, laid).
  DERIVED. THE GIVEN ROWS OF THIS SEAT. 2 by the template 'for every input the law returns true; each argument reads behind the call as it read before'; 0 by the template 'total and deterministic' (their statements: YbulkbmviTotals.lean).
  GIVEN WITH THE SEED: the statements are not yours to turn. If you find one false, say at which input.
  Laid BY PROGRAM, IN A SANDBOX (cutbox-rows.mjs): the forced cells as the released guide's own fill.sh prints them over the translation 028a0d3490349a37… (all of the seat's roots in one cut). By AI agents, Wed Nov 11 2026. No macro, syntax, notation, axiom, sorry.
-/
import Derived.Test.YbulkbmviChecked
import GoSem.Claim
import GoSem.ClaimJoined
import GoSem.ClaimMapViews
import Derived.JoinedTies
import Derived.KernelRfl
namespace Go.Proofs.Ybulkbmvi
/- THE CELL 'sum', in the pinned program and in every row, IS THE sha256 OF THE DUMP (.gsa) THAT YbulkbmviProg.lean LOADS. Nothing in Lean hashes anything: it is a label: what it is worth is what the hold of that sum in a sandbox is worth. -/
noncomputable def Yba.pinned : Pinned := { name := "ybulkbmvi", sum := "028a0d3490349a37ab5577001113531f1d415e891f359e86305e62e8dcebf65a", checked := Yba.checked }
namespace Rows
def none {H : Type} : Left H := { results := [], args := [] }

/-- 'config.LawS3180CDigits': WHATEVER THE INPUT: true; the input reads as it did. -/
def lawS3180CDigitsSpec : ChangeSpec := { name := "lawS3180CDigits", fn := fun _ => fun
  | [d1, d2] => { results := [.lit (.bool true)], args := [d1, d2] }
  | _ => none }
def lawS3180CDigitsRow : OpenClaim := { program := "ybulkbmvi", sum := "028a0d3490349a37ab5577001113531f1d415e891f359e86305e62e8dcebf65a", func := "example.com/quorumwatch/quorumwatch/internal/config.LawS3180CDigits", spec := "lawS3180CDigits", apart := false }
def LawS3180CDigitsSaid : Prop := lawS3180CDigitsRow.holds Yba.pinned (OpenSpec.ofChange lawS3180CDigitsSpec)

/-- ITS FALSE NEIGHBOUR: 'it returns false'. Refute it at one input. -/
def lawS3180CDigitsWrong : ChangeSpec := { name := "lawS3180CDigits", fn := fun _ => fun
  | [d1, d2] => { results := [.lit (.bool false)], args := [d1, d2] }
  | _ => none }
def LawS3180CDigitsWrongFalsely : Prop := lawS3180CDigitsRow.holds Yba.pinned (OpenSpec.ofChange lawS3180CDigitsWrong)

/-- 'config.LawS3180CAll': WHATEVER THE INPUT: true; the input reads as it did. -/
def lawS3180CAllSpec : ChangeSpec := { name := "lawS3180CAll", fn := fun _ => fun
  | [d] => { results := [.lit (.bool true)], args := [d] }
  | _ => none }
def lawS3180CAllRow : OpenClaim := { program := "ybulkbmvi", sum := "028a0d3490349a37ab5577001113531f1d415e891f359e86305e62e8dcebf65a", func := "example.com/quorumwatch/quorumwatch/internal/config.LawS3180CAll", spec := "lawS3180CAll", apart := false }
def LawS3180CAllSaid : Prop := lawS3180CAllRow.holds Yba.pinned (OpenSpec.ofChange lawS3180CAllSpec)

/-- ITS FALSE NEIGHBOUR: 'it returns false'. Refute it at one input. -/
def lawS3180CAllWrong : ChangeSpec := { name := "lawS3180CAll", fn := fun _ => fun
  | [d] => { results := [.lit (.bool false)], args := [d] }
  | _ => none }
def LawS3180CAllWrongFalsely : Prop := lawS3180CAllRow.holds Yba.pinned (OpenSpec.ofChange lawS3180CAllWrong)

end Rows
end Go.Proofs.Ybulkbmvi
