/-
  No cell of these rows narrows 'for every input' (looked for: loops, veiled, ifaces, maps, wideKeys, modest, calm, conditions, laid).
  DERIVED. THE GIVEN ROWS OF THIS SEAT. 3 by the template 'for every input the law returns true; each argument reads behind the call as it read before'; 0 by the template 'total and deterministic' (their statements: YbulkbkoTotals.lean).
  GIVEN WITH THE SEED: the statements are not yours to turn. If you find one false, say at which input.
  Laid BY PROGRAM, IN A SANDBOX (cutbox-rows.mjs): the forced cells as the released guide's own fill.sh prints them over the translation 9e414382ea62a8fb… (all of the seat's roots in one cut). By AI agents, Wed Nov 11 2026. No macro, syntax, notation, axiom, sorry.
-/
import Derived.Test.YbulkbkoChecked
import GoSem.Claim
import GoSem.ClaimJoined
import GoSem.ClaimMapViews
import Derived.JoinedTies
import Derived.KernelRfl
namespace Go.Proofs.Ybulkbko
/- THE CELL 'sum', in the pinned program and in every row, IS THE sha256 OF THE DUMP (.gsa) THAT YbulkbkoProg.lean LOADS. Nothing in Lean hashes anything: it is a label: what it is worth is what the hold of that sum in a sandbox is worth. -/
noncomputable def Yba.pinned : Pinned := { name := "ybulkbko", sum := "9e414382ea62a8fba9c95cde9889c3cac34935a229d1aafafc577c5cf6e45095", checked := Yba.checked }
namespace Rows
def none {H : Type} : Left H := { results := [], args := [] }

/-- 'balance.LawS0118BTwoLowest': WHATEVER THE INPUT: true; the input reads as it did. -/
def lawS0118BTwoLowestSpec : ChangeSpec := { name := "lawS0118BTwoLowest", fn := fun _ => fun
  | [d1, d2, d3, d4, d5, d6] => { results := [.lit (.bool true)], args := [d1, d2, d3, d4, d5, d6] }
  | _ => none }
def lawS0118BTwoLowestRow : OpenClaim := { program := "ybulkbko", sum := "9e414382ea62a8fba9c95cde9889c3cac34935a229d1aafafc577c5cf6e45095", func := "example.com/hostloom/hostloom/internal/balance.LawS0118BTwoLowest", spec := "lawS0118BTwoLowest", plainKeys := false, apart := false }
def LawS0118BTwoLowestSaid : Prop := lawS0118BTwoLowestRow.holds Yba.pinned (OpenSpec.ofChange lawS0118BTwoLowestSpec)

/-- ITS FALSE NEIGHBOUR: 'it returns false'. Refute it at one input. -/
def lawS0118BTwoLowestWrong : ChangeSpec := { name := "lawS0118BTwoLowest", fn := fun _ => fun
  | [d1, d2, d3, d4, d5, d6] => { results := [.lit (.bool false)], args := [d1, d2, d3, d4, d5, d6] }
  | _ => none }
def LawS0118BTwoLowestWrongFalsely : Prop := lawS0118BTwoLowestRow.holds Yba.pinned (OpenSpec.ofChange lawS0118BTwoLowestWrong)

/-- 'balance.LawS0118BNaNIgnored': WHATEVER THE INPUT: true; the input reads as it did. -/
def lawS0118BNaNIgnoredSpec : ChangeSpec := { name := "lawS0118BNaNIgnored", fn := fun _ => fun
  | [d1, d2, d3, d4, d5, d6] => { results := [.lit (.bool true)], args := [d1, d2, d3, d4, d5, d6] }
  | _ => none }
def lawS0118BNaNIgnoredRow : OpenClaim := { program := "ybulkbko", sum := "9e414382ea62a8fba9c95cde9889c3cac34935a229d1aafafc577c5cf6e45095", func := "example.com/hostloom/hostloom/internal/balance.LawS0118BNaNIgnored", spec := "lawS0118BNaNIgnored", inPlace := ["math.Float64frombits", "math.Float64bits"], plainKeys := false, apart := false }
def LawS0118BNaNIgnoredSaid : Prop := lawS0118BNaNIgnoredRow.holds Yba.pinned (OpenSpec.ofChange lawS0118BNaNIgnoredSpec)

/-- ITS FALSE NEIGHBOUR: 'it returns false'. Refute it at one input. -/
def lawS0118BNaNIgnoredWrong : ChangeSpec := { name := "lawS0118BNaNIgnored", fn := fun _ => fun
  | [d1, d2, d3, d4, d5, d6] => { results := [.lit (.bool false)], args := [d1, d2, d3, d4, d5, d6] }
  | _ => none }
def LawS0118BNaNIgnoredWrongFalsely : Prop := lawS0118BNaNIgnoredRow.holds Yba.pinned (OpenSpec.ofChange lawS0118BNaNIgnoredWrong)

/-- 'balance.LawS0118CHigh': WHATEVER THE INPUT: true; the input reads as it did. -/
def lawS0118CHighSpec : ChangeSpec := { name := "lawS0118CHigh", fn := fun _ => fun
  | [d1, d2, d3] => { results := [.lit (.bool true)], args := [d1, d2, d3] }
  | _ => none }
def lawS0118CHighRow : OpenClaim := { program := "ybulkbko", sum := "9e414382ea62a8fba9c95cde9889c3cac34935a229d1aafafc577c5cf6e45095", func := "example.com/hostloom/hostloom/internal/balance.LawS0118CHigh", spec := "lawS0118CHigh", inPlace := ["math.Float64bits"], plainKeys := false, apart := false }
def LawS0118CHighSaid : Prop := lawS0118CHighRow.holds Yba.pinned (OpenSpec.ofChange lawS0118CHighSpec)

/-- ITS FALSE NEIGHBOUR: 'it returns false'. Refute it at one input. -/
def lawS0118CHighWrong : ChangeSpec := { name := "lawS0118CHigh", fn := fun _ => fun
  | [d1, d2, d3] => { results := [.lit (.bool false)], args := [d1, d2, d3] }
  | _ => none }
def LawS0118CHighWrongFalsely : Prop := lawS0118CHighRow.holds Yba.pinned (OpenSpec.ofChange lawS0118CHighWrong)

end Rows
end Go.Proofs.Ybulkbko
