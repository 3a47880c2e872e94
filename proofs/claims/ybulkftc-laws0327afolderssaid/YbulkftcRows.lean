/-
  No cell of these rows narrows 'for every input' (looked for: loops, veiled, ifaces, maps, wideKeys, modest, calm, conditions, laid).
  DERIVED. THE GIVEN ROWS OF THIS SEAT. 2 by the template 'for every input the law returns true; each argument reads behind the call as it read before'; 0 by the template 'total and deterministic' (their statements: YbulkftcTotals.lean).
  GIVEN WITH THE SEED: the statements are not yours to turn. If you find one false, say at which input.
  Laid BY PROGRAM, IN A SANDBOX (cutbox-rows.mjs): the forced cells as the released guide's own fill.sh prints them over the translation bf28925b1bf1b327… (all of the seat's roots in one cut). By AI agents, Wed Nov 11 2026. No macro, syntax, notation, axiom, sorry.
-/
import Derived.Test.YbulkftcChecked
import GoSem.Claim
import GoSem.ClaimJoined
import GoSem.ClaimMapViews
import Derived.JoinedTies
import Derived.KernelRfl
namespace Go.Proofs.Ybulkftc
/- THE CELL 'sum', in the pinned program and in every row, IS THE sha256 OF THE DUMP (.gsa) THAT YbulkftcProg.lean LOADS. Nothing in Lean hashes anything: it is a label: what it is worth is what the hold of that sum in a sandbox is worth. -/
noncomputable def Yba.pinned : Pinned := { name := "ybulkftc", sum := "bf28925b1bf1b32751dd0e36f4858884e05b862a76dc181aaa7b559b4c2b4e32", checked := Yba.checked }
namespace Rows
def none {H : Type} : Left H := { results := [], args := [] }

/-- 'config.LawS0327AFolders': WHATEVER THE INPUT: true; the input reads as it did. -/
def lawS0327AFoldersSpec : ChangeSpec := { name := "lawS0327AFolders", fn := fun _ => fun
  | [d1, d2, d3] => { results := [.lit (.bool true)], args := [d1, d2, d3] }
  | _ => none }
def lawS0327AFoldersRow : OpenClaim := { program := "ybulkftc", sum := "bf28925b1bf1b32751dd0e36f4858884e05b862a76dc181aaa7b559b4c2b4e32", func := "example.com/log-collector-config/log-collector-config/config.LawS0327AFolders", spec := "lawS0327AFolders", plainKeys := false, apart := false }
def LawS0327AFoldersSaid : Prop := lawS0327AFoldersRow.holds Yba.pinned (OpenSpec.ofChange lawS0327AFoldersSpec)

/-- ITS FALSE NEIGHBOUR: 'it returns false'. Refute it at one input. -/
def lawS0327AFoldersWrong : ChangeSpec := { name := "lawS0327AFolders", fn := fun _ => fun
  | [d1, d2, d3] => { results := [.lit (.bool false)], args := [d1, d2, d3] }
  | _ => none }
def LawS0327AFoldersWrongFalsely : Prop := lawS0327AFoldersRow.holds Yba.pinned (OpenSpec.ofChange lawS0327AFoldersWrong)

/-- 'config.LawS0327AAbsolute': WHATEVER THE INPUT: true; the input reads as it did. -/
def lawS0327AAbsoluteSpec : ChangeSpec := { name := "lawS0327AAbsolute", fn := fun _ => fun
  | [d1, d2, d3] => { results := [.lit (.bool true)], args := [d1, d2, d3] }
  | _ => none }
def lawS0327AAbsoluteRow : OpenClaim := { program := "ybulkftc", sum := "bf28925b1bf1b32751dd0e36f4858884e05b862a76dc181aaa7b559b4c2b4e32", func := "example.com/log-collector-config/log-collector-config/config.LawS0327AAbsolute", spec := "lawS0327AAbsolute", plainKeys := false, apart := false }
def LawS0327AAbsoluteSaid : Prop := lawS0327AAbsoluteRow.holds Yba.pinned (OpenSpec.ofChange lawS0327AAbsoluteSpec)

/-- ITS FALSE NEIGHBOUR: 'it returns false'. Refute it at one input. -/
def lawS0327AAbsoluteWrong : ChangeSpec := { name := "lawS0327AAbsolute", fn := fun _ => fun
  | [d1, d2, d3] => { results := [.lit (.bool false)], args := [d1, d2, d3] }
  | _ => none }
def LawS0327AAbsoluteWrongFalsely : Prop := lawS0327AAbsoluteRow.holds Yba.pinned (OpenSpec.ofChange lawS0327AAbsoluteWrong)

end Rows
end Go.Proofs.Ybulkftc
