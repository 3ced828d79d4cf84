/-
  No cell of these rows narrows 'for every input' (looked for: loops, veiled, ifaces, maps, wideKeys, modest, calm, conditions, laid).
  DERIVED. THE GIVEN ROWS OF THIS SEAT. 3 by the template 'for every input the law returns true; each argument reads behind the call as it read before'; 0 by the template 'total and deterministic' (their statements: YbulkbkaTotals.lean).
  GIVEN WITH THE SEED: the statements are not yours to turn. If you find one false, say at which input.
  Laid BY PROGRAM, IN A SANDBOX (cutbox-rows.mjs): the forced cells as the released guide's own fill.sh prints them over the translation d138fb57a382d140… (all of the seat's roots in one cut). By AI agents, Wed Nov 11 2026. No macro, syntax, notation, axiom, sorry.
-/
import Derived.Test.YbulkbkaChecked
import GoSem.Claim
import GoSem.ClaimJoined
import GoSem.ClaimMapViews
import Derived.JoinedTies
import Derived.KernelRfl
namespace Go.Proofs.Ybulkbka
/- THE CELL 'sum', in the pinned program and in every row, IS THE sha256 OF THE DUMP (.gsa) THAT YbulkbkaProg.lean LOADS. Nothing in Lean hashes anything: it is a label: what it is worth is what the hold of that sum in a sandbox is worth. -/
noncomputable def Yba.pinned : Pinned := { name := "ybulkbka", sum := "d138fb57a382d14091eab68ca9e0e2c7e4dfb702cdf582087981637c3b2fc736", checked := Yba.checked }
namespace Rows
def none {H : Type} : Left H := { results := [], args := [] }

/-- 'engine.LawS0117AKeep': WHATEVER THE INPUT: true; the input reads as it did. -/
def lawS0117AKeepSpec : ChangeSpec := { name := "lawS0117AKeep", fn := fun _ => fun
  | [d1, d2, d3, d4, d5] => { results := [.lit (.bool true)], args := [d1, d2, d3, d4, d5] }
  | _ => none }
def lawS0117AKeepRow : OpenClaim := { program := "ybulkbka", sum := "d138fb57a382d14091eab68ca9e0e2c7e4dfb702cdf582087981637c3b2fc736", func := "example.com/readmark/readmark/internal/engine.LawS0117AKeep", spec := "lawS0117AKeep", apart := false }
def LawS0117AKeepSaid : Prop := lawS0117AKeepRow.holds Yba.pinned (OpenSpec.ofChange lawS0117AKeepSpec)

/-- ITS FALSE NEIGHBOUR: 'it returns false'. Refute it at one input. -/
def lawS0117AKeepWrong : ChangeSpec := { name := "lawS0117AKeep", fn := fun _ => fun
  | [d1, d2, d3, d4, d5] => { results := [.lit (.bool false)], args := [d1, d2, d3, d4, d5] }
  | _ => none }
def LawS0117AKeepWrongFalsely : Prop := lawS0117AKeepRow.holds Yba.pinned (OpenSpec.ofChange lawS0117AKeepWrong)

/-- 'engine.LawS0117AWrap': WHATEVER THE INPUT: true; the input reads as it did. -/
def lawS0117AWrapSpec : ChangeSpec := { name := "lawS0117AWrap", fn := fun _ => fun
  | [d1, d2, d3, d4, d5] => { results := [.lit (.bool true)], args := [d1, d2, d3, d4, d5] }
  | _ => none }
def lawS0117AWrapRow : OpenClaim := { program := "ybulkbka", sum := "d138fb57a382d14091eab68ca9e0e2c7e4dfb702cdf582087981637c3b2fc736", func := "example.com/readmark/readmark/internal/engine.LawS0117AWrap", spec := "lawS0117AWrap", apart := false }
def LawS0117AWrapSaid : Prop := lawS0117AWrapRow.holds Yba.pinned (OpenSpec.ofChange lawS0117AWrapSpec)

/-- ITS FALSE NEIGHBOUR: 'it returns false'. Refute it at one input. -/
def lawS0117AWrapWrong : ChangeSpec := { name := "lawS0117AWrap", fn := fun _ => fun
  | [d1, d2, d3, d4, d5] => { results := [.lit (.bool false)], args := [d1, d2, d3, d4, d5] }
  | _ => none }
def LawS0117AWrapWrongFalsely : Prop := lawS0117AWrapRow.holds Yba.pinned (OpenSpec.ofChange lawS0117AWrapWrong)

/-- 'store.LawS0117CSlots': WHATEVER THE INPUT: true; the input reads as it did. -/
def lawS0117CSlotsSpec : ChangeSpec := { name := "lawS0117CSlots", fn := fun _ => fun
  | [d1, d2, d3] => { results := [.lit (.bool true)], args := [d1, d2, d3] }
  | _ => none }
def lawS0117CSlotsRow : OpenClaim := { program := "ybulkbka", sum := "d138fb57a382d14091eab68ca9e0e2c7e4dfb702cdf582087981637c3b2fc736", func := "example.com/readmark/readmark/internal/store.LawS0117CSlots", spec := "lawS0117CSlots", apart := false }
def LawS0117CSlotsSaid : Prop := lawS0117CSlotsRow.holds Yba.pinned (OpenSpec.ofChange lawS0117CSlotsSpec)

/-- ITS FALSE NEIGHBOUR: 'it returns false'. Refute it at one input. -/
def lawS0117CSlotsWrong : ChangeSpec := { name := "lawS0117CSlots", fn := fun _ => fun
  | [d1, d2, d3] => { results := [.lit (.bool false)], args := [d1, d2, d3] }
  | _ => none }
def LawS0117CSlotsWrongFalsely : Prop := lawS0117CSlotsRow.holds Yba.pinned (OpenSpec.ofChange lawS0117CSlotsWrong)

end Rows
end Go.Proofs.Ybulkbka
