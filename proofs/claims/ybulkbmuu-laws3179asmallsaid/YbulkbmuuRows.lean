/-
  No cell of these rows narrows 'for every input' (looked for: loops, veiled, ifaces, maps, wideKeys, modest, calm, conditions, laid).
  DERIVED. THE GIVEN ROWS OF THIS SEAT. 2 by the template 'for every input the law returns true; each argument reads behind the call as it read before'; 0 by the template 'total and deterministic' (their statements: YbulkbmuuTotals.lean).
  GIVEN WITH THE SEED: the statements are not yours to turn. If you find one false, say at which input.
  Laid BY PROGRAM, IN A SANDBOX (cutbox-rows.mjs): the forced cells as the released guide's own fill.sh prints them over the translation 28bc46d6165e6859… (all of the seat's roots in one cut). By AI agents, Wed Nov 11 2026. No macro, syntax, notation, axiom, sorry.
-/
import Derived.Test.YbulkbmuuChecked
import GoSem.Claim
import GoSem.ClaimJoined
import GoSem.ClaimMapViews
import Derived.JoinedTies
import Derived.KernelRfl
namespace Go.Proofs.Ybulkbmuu
/- THE CELL 'sum', in the pinned program and in every row, IS THE sha256 OF THE DUMP (.gsa) THAT YbulkbmuuProg.lean LOADS. Nothing in Lean hashes anything: it is a label: what it is worth is what the hold of that sum in a sandbox is worth. -/
noncomputable def Yba.pinned : Pinned := { name := "ybulkbmuu", sum := "28bc46d6165e6859353a2088d2017af5e65505244ba95c58fe084f868ae8a64f", checked := Yba.checked }
namespace Rows
def none {H : Type} : Left H := { results := [], args := [] }

/-- 'meticulous-verifier.LawS3179ATable': WHATEVER THE INPUT: true; the input reads as it did. -/
def lawS3179ATableSpec : ChangeSpec := { name := "lawS3179ATable", fn := fun _ => fun
  | [d] => { results := [.lit (.bool true)], args := [d] }
  | _ => none }
def lawS3179ATableRow : OpenClaim := { program := "ybulkbmuu", sum := "28bc46d6165e6859353a2088d2017af5e65505244ba95c58fe084f868ae8a64f", func := "example.com/meticulous-verifier/meticulous-verifier.LawS3179ATable", spec := "lawS3179ATable", apart := false }
def LawS3179ATableSaid : Prop := lawS3179ATableRow.holds Yba.pinned (OpenSpec.ofChange lawS3179ATableSpec)

/-- ITS FALSE NEIGHBOUR: 'it returns false'. Refute it at one input. -/
def lawS3179ATableWrong : ChangeSpec := { name := "lawS3179ATable", fn := fun _ => fun
  | [d] => { results := [.lit (.bool false)], args := [d] }
  | _ => none }
def LawS3179ATableWrongFalsely : Prop := lawS3179ATableRow.holds Yba.pinned (OpenSpec.ofChange lawS3179ATableWrong)

/-- 'meticulous-verifier.LawS3179ASmall': WHATEVER THE INPUT: true; the input reads as it did. -/
def lawS3179ASmallSpec : ChangeSpec := { name := "lawS3179ASmall", fn := fun _ => fun
  | [d] => { results := [.lit (.bool true)], args := [d] }
  | _ => none }
def lawS3179ASmallRow : OpenClaim := { program := "ybulkbmuu", sum := "28bc46d6165e6859353a2088d2017af5e65505244ba95c58fe084f868ae8a64f", func := "example.com/meticulous-verifier/meticulous-verifier.LawS3179ASmall", spec := "lawS3179ASmall", apart := false }
def LawS3179ASmallSaid : Prop := lawS3179ASmallRow.holds Yba.pinned (OpenSpec.ofChange lawS3179ASmallSpec)

/-- ITS FALSE NEIGHBOUR: 'it returns false'. Refute it at one input. -/
def lawS3179ASmallWrong : ChangeSpec := { name := "lawS3179ASmall", fn := fun _ => fun
  | [d] => { results := [.lit (.bool false)], args := [d] }
  | _ => none }
def LawS3179ASmallWrongFalsely : Prop := lawS3179ASmallRow.holds Yba.pinned (OpenSpec.ofChange lawS3179ASmallWrong)

end Rows
end Go.Proofs.Ybulkbmuu
