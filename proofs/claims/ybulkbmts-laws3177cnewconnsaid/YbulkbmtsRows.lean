/-
  No cell of these rows narrows 'for every input' (looked for: loops, veiled, ifaces, maps, wideKeys, modest, calm, conditions, laid).
  DERIVED. THE GIVEN ROWS OF THIS SEAT. 2 by the template 'for every input the law returns true; each argument reads behind the call as it read before'; 0 by the template 'total and deterministic' (their statements: YbulkbmtsTotals.lean).
  GIVEN WITH THE SEED: the statements are not yours to turn. If you find one false, say at which input.
  Laid BY PROGRAM, IN A SANDBOX (cutbox-rows.mjs): the forced cells as the released guide's own fill.sh prints them over the translation 1c166a1d32d46a82… (all of the seat's roots in one cut). By AI agents, Wed Nov 11 2026. No macro, syntax, notation, axiom, sorry.
-/
import Derived.Test.YbulkbmtsChecked
import GoSem.Claim
import GoSem.ClaimJoined
import GoSem.ClaimMapViews
import Derived.JoinedTies
import Derived.KernelRfl
namespace Go.Proofs.Ybulkbmts
/- THE CELL 'sum', in the pinned program and in every row, IS THE sha256 OF THE DUMP (.gsa) THAT YbulkbmtsProg.lean LOADS. Nothing in Lean hashes anything: it is a label: what it is worth is what the hold of that sum in a sandbox is worth. -/
noncomputable def Yba.pinned : Pinned := { name := "ybulkbmts", sum := "1c166a1d32d46a82eacb2f9f42e1ab9d63e85e14cd8f7cc7d856459969012782", checked := Yba.checked }
namespace Rows
def none {H : Type} : Left H := { results := [], args := [] }

/-- 'inflight.LawS3177CFill': WHATEVER THE INPUT: true; the input reads as it did. -/
def lawS3177CFillSpec : ChangeSpec := { name := "lawS3177CFill", fn := fun _ => fun
  | [d1, d2, d3] => { results := [.lit (.bool true)], args := [d1, d2, d3] }
  | _ => none }
def lawS3177CFillRow : OpenClaim := { program := "ybulkbmts", sum := "1c166a1d32d46a82eacb2f9f42e1ab9d63e85e14cd8f7cc7d856459969012782", func := "example.com/inflight/inflight.LawS3177CFill", spec := "lawS3177CFill", plainKeys := false, apart := false }
def LawS3177CFillSaid : Prop := lawS3177CFillRow.holds Yba.pinned (OpenSpec.ofChange lawS3177CFillSpec)

/-- ITS FALSE NEIGHBOUR: 'it returns false'. Refute it at one input. -/
def lawS3177CFillWrong : ChangeSpec := { name := "lawS3177CFill", fn := fun _ => fun
  | [d1, d2, d3] => { results := [.lit (.bool false)], args := [d1, d2, d3] }
  | _ => none }
def LawS3177CFillWrongFalsely : Prop := lawS3177CFillRow.holds Yba.pinned (OpenSpec.ofChange lawS3177CFillWrong)

/-- 'inflight.LawS3177CNewConn': WHATEVER THE INPUT: true; the input reads as it did. -/
def lawS3177CNewConnSpec : ChangeSpec := { name := "lawS3177CNewConn", fn := fun _ => fun
  | [d1, d2] => { results := [.lit (.bool true)], args := [d1, d2] }
  | _ => none }
def lawS3177CNewConnRow : OpenClaim := { program := "ybulkbmts", sum := "1c166a1d32d46a82eacb2f9f42e1ab9d63e85e14cd8f7cc7d856459969012782", func := "example.com/inflight/inflight.LawS3177CNewConn", spec := "lawS3177CNewConn", plainKeys := false, apart := false }
def LawS3177CNewConnSaid : Prop := lawS3177CNewConnRow.holds Yba.pinned (OpenSpec.ofChange lawS3177CNewConnSpec)

/-- ITS FALSE NEIGHBOUR: 'it returns false'. Refute it at one input. -/
def lawS3177CNewConnWrong : ChangeSpec := { name := "lawS3177CNewConn", fn := fun _ => fun
  | [d1, d2] => { results := [.lit (.bool false)], args := [d1, d2] }
  | _ => none }
def LawS3177CNewConnWrongFalsely : Prop := lawS3177CNewConnRow.holds Yba.pinned (OpenSpec.ofChange lawS3177CNewConnWrong)

end Rows
end Go.Proofs.Ybulkbmts
