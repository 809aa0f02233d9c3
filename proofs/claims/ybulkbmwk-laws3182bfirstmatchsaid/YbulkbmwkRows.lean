/-
  No cell of these rows narrows 'for every input' (looked for: loops, veiled, ifaces, maps, wideKeys, modest, calm, conditions, laid).
  DERIVED. THE GIVEN ROWS OF THIS SEAT. 3 by the template 'for every input the law returns true; each argument reads behind the call as it read before'; 0 by the template 'total and deterministic' (their statements: YbulkbmwkTotals.lean).
  GIVEN WITH THE SEED: the statements are not yours to turn. If you find one false, say at which input.
  Laid BY PROGRAM, IN A SANDBOX (cutbox-rows.mjs): the forced cells as the released guide's own fill.sh prints them over the translation 80a7cc62936e24a1… (all of the seat's roots in one cut). By AI agents, Wed Nov 11 2026. No macro, syntax, notation, axiom, sorry.
-/
import Derived.Test.YbulkbmwkChecked
import GoSem.Claim
import GoSem.ClaimJoined
import GoSem.ClaimMapViews
import Derived.JoinedTies
import Derived.KernelRfl
namespace Go.Proofs.Ybulkbmwk
/- THE CELL 'sum', in the pinned program and in every row, IS THE sha256 OF THE DUMP (.gsa) THAT YbulkbmwkProg.lean LOADS. Nothing in Lean hashes anything: it is a label: what it is worth is what the hold of that sum in a sandbox is worth. -/
noncomputable def Yba.pinned : Pinned := { name := "ybulkbmwk", sum := "80a7cc62936e24a1b23b5985ff5b23a09e3000a07900a41e7bacb09a2363bc80", checked := Yba.checked }
namespace Rows
def none {H : Type} : Left H := { results := [], args := [] }

/-- 'engine.LawS3182AAgrees': WHATEVER THE INPUT: true; the input reads as it did. -/
def lawS3182AAgreesSpec : ChangeSpec := { name := "lawS3182AAgrees", fn := fun _ => fun
  | [d1, d2, d3, d4, d5] => { results := [.lit (.bool true)], args := [d1, d2, d3, d4, d5] }
  | _ => none }
def lawS3182AAgreesRow : OpenClaim := { program := "ybulkbmwk", sum := "80a7cc62936e24a1b23b5985ff5b23a09e3000a07900a41e7bacb09a2363bc80", func := "example.com/fenceline/fenceline/internal/engine.LawS3182AAgrees", spec := "lawS3182AAgrees", apart := false }
def LawS3182AAgreesSaid : Prop := lawS3182AAgreesRow.holds Yba.pinned (OpenSpec.ofChange lawS3182AAgreesSpec)

/-- ITS FALSE NEIGHBOUR: 'it returns false'. Refute it at one input. -/
def lawS3182AAgreesWrong : ChangeSpec := { name := "lawS3182AAgrees", fn := fun _ => fun
  | [d1, d2, d3, d4, d5] => { results := [.lit (.bool false)], args := [d1, d2, d3, d4, d5] }
  | _ => none }
def LawS3182AAgreesWrongFalsely : Prop := lawS3182AAgreesRow.holds Yba.pinned (OpenSpec.ofChange lawS3182AAgreesWrong)

/-- 'engine.LawS3182BFirstMatch': WHATEVER THE INPUT: true; the input reads as it did. -/
def lawS3182BFirstMatchSpec : ChangeSpec := { name := "lawS3182BFirstMatch", fn := fun _ => fun
  | [d1, d2, d3, d4] => { results := [.lit (.bool true)], args := [d1, d2, d3, d4] }
  | _ => none }
def lawS3182BFirstMatchRow : OpenClaim := { program := "ybulkbmwk", sum := "80a7cc62936e24a1b23b5985ff5b23a09e3000a07900a41e7bacb09a2363bc80", func := "example.com/fenceline/fenceline/internal/engine.LawS3182BFirstMatch", spec := "lawS3182BFirstMatch", unfollowed := true, recurses := true, apart := false }
def LawS3182BFirstMatchSaid : Prop := lawS3182BFirstMatchRow.holds Yba.pinned (OpenSpec.ofChange lawS3182BFirstMatchSpec)

/-- ITS FALSE NEIGHBOUR: 'it returns false'. Refute it at one input. -/
def lawS3182BFirstMatchWrong : ChangeSpec := { name := "lawS3182BFirstMatch", fn := fun _ => fun
  | [d1, d2, d3, d4] => { results := [.lit (.bool false)], args := [d1, d2, d3, d4] }
  | _ => none }
def LawS3182BFirstMatchWrongFalsely : Prop := lawS3182BFirstMatchRow.holds Yba.pinned (OpenSpec.ofChange lawS3182BFirstMatchWrong)

/-- 'engine.LawS3182CBans': WHATEVER THE INPUT: true; the input reads as it did. -/
def lawS3182CBansSpec : ChangeSpec := { name := "lawS3182CBans", fn := fun _ => fun
  | [d1, d2, d3, d4, d5] => { results := [.lit (.bool true)], args := [d1, d2, d3, d4, d5] }
  | _ => none }
def lawS3182CBansRow : OpenClaim := { program := "ybulkbmwk", sum := "80a7cc62936e24a1b23b5985ff5b23a09e3000a07900a41e7bacb09a2363bc80", func := "example.com/fenceline/fenceline/internal/engine.LawS3182CBans", spec := "lawS3182CBans", apart := false }
def LawS3182CBansSaid : Prop := lawS3182CBansRow.holds Yba.pinned (OpenSpec.ofChange lawS3182CBansSpec)

/-- ITS FALSE NEIGHBOUR: 'it returns false'. Refute it at one input. -/
def lawS3182CBansWrong : ChangeSpec := { name := "lawS3182CBans", fn := fun _ => fun
  | [d1, d2, d3, d4, d5] => { results := [.lit (.bool false)], args := [d1, d2, d3, d4, d5] }
  | _ => none }
def LawS3182CBansWrongFalsely : Prop := lawS3182CBansRow.holds Yba.pinned (OpenSpec.ofChange lawS3182CBansWrong)

end Rows
end Go.Proofs.Ybulkbmwk
