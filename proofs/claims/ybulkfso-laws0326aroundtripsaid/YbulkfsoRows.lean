/-
  No cell of these rows narrows 'for every input' (looked for: loops, veiled, ifaces, maps, wideKeys, modest, calm, conditions, laid).
  DERIVED. THE GIVEN ROWS OF THIS SEAT. 5 by the template 'for every input the law returns true; each argument reads behind the call as it read before'; 0 by the template 'total and deterministic' (their statements: YbulkfsoTotals.lean).
  GIVEN WITH THE SEED: the statements are not yours to turn. If you find one false, say at which input.
  Laid BY PROGRAM, IN A SANDBOX (cutbox-rows.mjs): the forced cells as the released guide's own fill.sh prints them over the translation 4380946ffb122e35… (all of the seat's roots in one cut). By AI agents, Wed Nov 11 2026. No macro, syntax, notation, axiom, sorry.
-/
import Derived.Test.YbulkfsoChecked
import GoSem.Claim
import GoSem.ClaimJoined
import GoSem.ClaimMapViews
import Derived.JoinedTies
import Derived.KernelRfl
namespace Go.Proofs.Ybulkfso
/- THE CELL 'sum', in the pinned program and in every row, IS THE sha256 OF THE DUMP (.gsa) THAT YbulkfsoProg.lean LOADS. Nothing in Lean hashes anything: it is a label: what it is worth is what the hold of that sum in a sandbox is worth. -/
noncomputable def Yba.pinned : Pinned := { name := "ybulkfso", sum := "4380946ffb122e35e04a25923d37fb354882c746e23c72adc8b0a06f9f13d7a6", checked := Yba.checked }
namespace Rows
def none {H : Type} : Left H := { results := [], args := [] }

/-- 'wire.LawS0326AExact': WHATEVER THE INPUT: true; the input reads as it did. -/
def lawS0326AExactSpec : ChangeSpec := { name := "lawS0326AExact", fn := fun _ => fun
  | [d1, d2, d3, d4] => { results := [.lit (.bool true)], args := [d1, d2, d3, d4] }
  | _ => none }
def lawS0326AExactRow : OpenClaim := { program := "ybulkfso", sum := "4380946ffb122e35e04a25923d37fb354882c746e23c72adc8b0a06f9f13d7a6", func := "example.com/swarmwire/swarmwire/wire.LawS0326AExact", spec := "lawS0326AExact", named := ["encoding/binary.BigEndian"], apart := false }
def LawS0326AExactSaid : Prop := lawS0326AExactRow.holds Yba.pinned (OpenSpec.ofChange lawS0326AExactSpec)

/-- ITS FALSE NEIGHBOUR: 'it returns false'. Refute it at one input. -/
def lawS0326AExactWrong : ChangeSpec := { name := "lawS0326AExact", fn := fun _ => fun
  | [d1, d2, d3, d4] => { results := [.lit (.bool false)], args := [d1, d2, d3, d4] }
  | _ => none }
def LawS0326AExactWrongFalsely : Prop := lawS0326AExactRow.holds Yba.pinned (OpenSpec.ofChange lawS0326AExactWrong)

/-- 'wire.LawS0326ARoundTrip': WHATEVER THE INPUT: true; the input reads as it did. -/
def lawS0326ARoundTripSpec : ChangeSpec := { name := "lawS0326ARoundTrip", fn := fun _ => fun
  | [d1, d2, d3] => { results := [.lit (.bool true)], args := [d1, d2, d3] }
  | _ => none }
def lawS0326ARoundTripRow : OpenClaim := { program := "ybulkfso", sum := "4380946ffb122e35e04a25923d37fb354882c746e23c72adc8b0a06f9f13d7a6", func := "example.com/swarmwire/swarmwire/wire.LawS0326ARoundTrip", spec := "lawS0326ARoundTrip", named := ["encoding/binary.BigEndian"], apart := false }
def LawS0326ARoundTripSaid : Prop := lawS0326ARoundTripRow.holds Yba.pinned (OpenSpec.ofChange lawS0326ARoundTripSpec)

/-- ITS FALSE NEIGHBOUR: 'it returns false'. Refute it at one input. -/
def lawS0326ARoundTripWrong : ChangeSpec := { name := "lawS0326ARoundTrip", fn := fun _ => fun
  | [d1, d2, d3] => { results := [.lit (.bool false)], args := [d1, d2, d3] }
  | _ => none }
def LawS0326ARoundTripWrongFalsely : Prop := lawS0326ARoundTripRow.holds Yba.pinned (OpenSpec.ofChange lawS0326ARoundTripWrong)

/-- 'torrent.LawS0326BExact': WHATEVER THE INPUT: true; the input reads as it did. -/
def lawS0326BExactSpec : ChangeSpec := { name := "lawS0326BExact", fn := fun _ => fun
  | [d1, d2, d3, d4] => { results := [.lit (.bool true)], args := [d1, d2, d3, d4] }
  | _ => none }
def lawS0326BExactRow : OpenClaim := { program := "ybulkfso", sum := "4380946ffb122e35e04a25923d37fb354882c746e23c72adc8b0a06f9f13d7a6", func := "example.com/swarmwire/swarmwire/torrent.LawS0326BExact", spec := "lawS0326BExact", apart := false }
def LawS0326BExactSaid : Prop := lawS0326BExactRow.holds Yba.pinned (OpenSpec.ofChange lawS0326BExactSpec)

/-- ITS FALSE NEIGHBOUR: 'it returns false'. Refute it at one input. -/
def lawS0326BExactWrong : ChangeSpec := { name := "lawS0326BExact", fn := fun _ => fun
  | [d1, d2, d3, d4] => { results := [.lit (.bool false)], args := [d1, d2, d3, d4] }
  | _ => none }
def LawS0326BExactWrongFalsely : Prop := lawS0326BExactRow.holds Yba.pinned (OpenSpec.ofChange lawS0326BExactWrong)

/-- 'torrent.LawS0326BOrder': WHATEVER THE INPUT: true; the input reads as it did. -/
def lawS0326BOrderSpec : ChangeSpec := { name := "lawS0326BOrder", fn := fun _ => fun
  | [d1, d2, d3, d4, d5, d6] => { results := [.lit (.bool true)], args := [d1, d2, d3, d4, d5, d6] }
  | _ => none }
def lawS0326BOrderRow : OpenClaim := { program := "ybulkfso", sum := "4380946ffb122e35e04a25923d37fb354882c746e23c72adc8b0a06f9f13d7a6", func := "example.com/swarmwire/swarmwire/torrent.LawS0326BOrder", spec := "lawS0326BOrder", apart := false }
def LawS0326BOrderSaid : Prop := lawS0326BOrderRow.holds Yba.pinned (OpenSpec.ofChange lawS0326BOrderSpec)

/-- ITS FALSE NEIGHBOUR: 'it returns false'. Refute it at one input. -/
def lawS0326BOrderWrong : ChangeSpec := { name := "lawS0326BOrder", fn := fun _ => fun
  | [d1, d2, d3, d4, d5, d6] => { results := [.lit (.bool false)], args := [d1, d2, d3, d4, d5, d6] }
  | _ => none }
def LawS0326BOrderWrongFalsely : Prop := lawS0326BOrderRow.holds Yba.pinned (OpenSpec.ofChange lawS0326BOrderWrong)

/-- 'wire.LawS0326CFields': WHATEVER THE INPUT: true; the input reads as it did. -/
def lawS0326CFieldsSpec : ChangeSpec := { name := "lawS0326CFields", fn := fun _ => fun
  | [d1, d2] => { results := [.lit (.bool true)], args := [d1, d2] }
  | _ => none }
def lawS0326CFieldsRow : OpenClaim := { program := "ybulkfso", sum := "4380946ffb122e35e04a25923d37fb354882c746e23c72adc8b0a06f9f13d7a6", func := "example.com/swarmwire/swarmwire/wire.LawS0326CFields", spec := "lawS0326CFields", apart := false }
def LawS0326CFieldsSaid : Prop := lawS0326CFieldsRow.holds Yba.pinned (OpenSpec.ofChange lawS0326CFieldsSpec)

/-- ITS FALSE NEIGHBOUR: 'it returns false'. Refute it at one input. -/
def lawS0326CFieldsWrong : ChangeSpec := { name := "lawS0326CFields", fn := fun _ => fun
  | [d1, d2] => { results := [.lit (.bool false)], args := [d1, d2] }
  | _ => none }
def LawS0326CFieldsWrongFalsely : Prop := lawS0326CFieldsRow.holds Yba.pinned (OpenSpec.ofChange lawS0326CFieldsWrong)

end Rows
end Go.Proofs.Ybulkfso
