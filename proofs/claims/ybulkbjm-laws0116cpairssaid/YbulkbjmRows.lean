/-
  No cell of these rows narrows 'for every input' (looked for: loops, veiled, ifaces, maps, wideKeys, modest, calm, conditions, laid).
  DERIVED. THE GIVEN ROWS OF THIS SEAT. 3 by the template 'for every input the law returns true; each argument reads behind the call as it read before'; 0 by the template 'total and deterministic' (their statements: YbulkbjmTotals.lean).
  GIVEN WITH THE SEED: the statements are not yours to turn. If you find one false, say at which input.
  Laid BY PROGRAM, IN A SANDBOX (cutbox-rows.mjs): the forced cells as the released guide's own fill.sh prints them over the translation 0a2c55e12facc63c… (all of the seat's roots in one cut). By AI agents, Wed Nov 11 2026. No macro, syntax, notation, axiom, sorry.
-/
import Derived.Test.YbulkbjmChecked
import GoSem.Claim
import GoSem.ClaimJoined
import GoSem.ClaimMapViews
import Derived.JoinedTies
import Derived.KernelRfl
namespace Go.Proofs.Ybulkbjm
/- THE CELL 'sum', in the pinned program and in every row, IS THE sha256 OF THE DUMP (.gsa) THAT YbulkbjmProg.lean LOADS. Nothing in Lean hashes anything: it is a label: what it is worth is what the hold of that sum in a sandbox is worth. -/
noncomputable def Yba.pinned : Pinned := { name := "ybulkbjm", sum := "0a2c55e12facc63c1adc961d5a651ac58367ff9e0c77ae260efe9f00331dddd9", checked := Yba.checked }
namespace Rows
def none {H : Type} : Left H := { results := [], args := [] }

/-- 'tariffwire.LawS0116BSkipMapped': WHATEVER THE INPUT: true; the input reads as it did. -/
def lawS0116BSkipMappedSpec : ChangeSpec := { name := "lawS0116BSkipMapped", fn := fun _ => fun
  | [d1, d2] => { results := [.lit (.bool true)], args := [d1, d2] }
  | _ => none }
def lawS0116BSkipMappedRow : OpenClaim := { program := "ybulkbjm", sum := "0a2c55e12facc63c1adc961d5a651ac58367ff9e0c77ae260efe9f00331dddd9", func := "example.com/tariffwire/tariffwire.LawS0116BSkipMapped", spec := "lawS0116BSkipMapped", apart := false }
def LawS0116BSkipMappedSaid : Prop := lawS0116BSkipMappedRow.holds Yba.pinned (OpenSpec.ofChange lawS0116BSkipMappedSpec)

/-- ITS FALSE NEIGHBOUR: 'it returns false'. Refute it at one input. -/
def lawS0116BSkipMappedWrong : ChangeSpec := { name := "lawS0116BSkipMapped", fn := fun _ => fun
  | [d1, d2] => { results := [.lit (.bool false)], args := [d1, d2] }
  | _ => none }
def LawS0116BSkipMappedWrongFalsely : Prop := lawS0116BSkipMappedRow.holds Yba.pinned (OpenSpec.ofChange lawS0116BSkipMappedWrong)

/-- 'tariffwire.LawS0116BSkipRaw': WHATEVER THE INPUT: true; the input reads as it did. -/
def lawS0116BSkipRawSpec : ChangeSpec := { name := "lawS0116BSkipRaw", fn := fun _ => fun
  | [d1, d2] => { results := [.lit (.bool true)], args := [d1, d2] }
  | _ => none }
def lawS0116BSkipRawRow : OpenClaim := { program := "ybulkbjm", sum := "0a2c55e12facc63c1adc961d5a651ac58367ff9e0c77ae260efe9f00331dddd9", func := "example.com/tariffwire/tariffwire.LawS0116BSkipRaw", spec := "lawS0116BSkipRaw", apart := false }
def LawS0116BSkipRawSaid : Prop := lawS0116BSkipRawRow.holds Yba.pinned (OpenSpec.ofChange lawS0116BSkipRawSpec)

/-- ITS FALSE NEIGHBOUR: 'it returns false'. Refute it at one input. -/
def lawS0116BSkipRawWrong : ChangeSpec := { name := "lawS0116BSkipRaw", fn := fun _ => fun
  | [d1, d2] => { results := [.lit (.bool false)], args := [d1, d2] }
  | _ => none }
def LawS0116BSkipRawWrongFalsely : Prop := lawS0116BSkipRawRow.holds Yba.pinned (OpenSpec.ofChange lawS0116BSkipRawWrong)

/-- 'tariffwire.LawS0116CPairs': WHATEVER THE INPUT: true; the input reads as it did. -/
def lawS0116CPairsSpec : ChangeSpec := { name := "lawS0116CPairs", fn := fun _ => fun
  | [d1, d2, d3, d4, d5, d6, d7, d8, d9, d10] => { results := [.lit (.bool true)], args := [d1, d2, d3, d4, d5, d6, d7, d8, d9, d10] }
  | _ => none }
def lawS0116CPairsRow : OpenClaim := { program := "ybulkbjm", sum := "0a2c55e12facc63c1adc961d5a651ac58367ff9e0c77ae260efe9f00331dddd9", func := "example.com/tariffwire/tariffwire.LawS0116CPairs", spec := "lawS0116CPairs", apart := false }
def LawS0116CPairsSaid : Prop := lawS0116CPairsRow.holds Yba.pinned (OpenSpec.ofChange lawS0116CPairsSpec)

/-- ITS FALSE NEIGHBOUR: 'it returns false'. Refute it at one input. -/
def lawS0116CPairsWrong : ChangeSpec := { name := "lawS0116CPairs", fn := fun _ => fun
  | [d1, d2, d3, d4, d5, d6, d7, d8, d9, d10] => { results := [.lit (.bool false)], args := [d1, d2, d3, d4, d5, d6, d7, d8, d9, d10] }
  | _ => none }
def LawS0116CPairsWrongFalsely : Prop := lawS0116CPairsRow.holds Yba.pinned (OpenSpec.ofChange lawS0116CPairsWrong)

end Rows
end Go.Proofs.Ybulkbjm
