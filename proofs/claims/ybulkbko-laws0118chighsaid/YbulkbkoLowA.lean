/-
  THE PARTS OF 'LawS0118BTwoLowest': a row of the call's own, whole; 'math.IsNaN' (6), 'zzs0118bless' (7).
-/
import Derived.Test.YbulkbkoRows
import Derived.WalkKit
import Derived.WalkSpells
import Derived.WalkLawsBesides
import Derived.ProofKit
import Derived.OpenShut
import Derived.Below
import Derived.OwnWalk
import Derived.Laws.OwnMore
import Derived.Laws.Pointers
import Derived.Deep.QuietTactic
import Derived.BigQuiet
namespace Go.Proofs.Ybulkbko
open Go.ChangeShapes Go.WideShapes Go.ChangeAt Go.RowKit
set_option linter.unusedVariables false

/-- Block g holds just the cells xs, none of them frozen. -/
def Row (w : World) (g e : Nat) (xs : List Value) : Prop := w.heap[g]? = some (.cells xs.toArray e (0, 0))

theorem Row.lt {w : World} {g e : Nat} {xs : List Value} (h : Row w g e xs) : g < w.heap.size := (Array.getElem?_eq_some_iff.1 h).1
theorem Row.cell {w : World} {g e : Nat} {xs : List Value} (h : Row w g e xs) (j : Nat) : w.cell? ⟨g, j, none⟩ = xs[j]? := by
  rw [cell_of_row w g j _ e (0, 0) h]; simp
theorem Row.frozen {w : World} {g e : Nat} {xs : List Value} (h : Row w g e xs) (j : Nat) : w.frozen? ⟨g, j, none⟩ = false :=
  frozen_of_row w g j _ e h
theorem Row.set {w : World} {g e : Nat} {xs : List Value} (h : Row w g e xs) (j : Nat) (u : Value) : Row (w.setCell ⟨g, j, none⟩ u) g e (xs.set j u) := by
  have := heap_setCell_same w g j _ e u h
  unfold Row
  rw [this]; simp
theorem Row.other {w : World} {g e : Nat} {xs : List Value} (h : Row w g e xs) (g' j : Nat) (u : Value) (hne : g ≠ g') : Row (w.setCell ⟨g', j, none⟩ u) g e xs := by
  unfold Row
  rw [heap_setCell_other w ⟨g', j, none⟩ g u hne]; exact h
theorem Row.alloc {w : World} {g e : Nat} {xs : List Value} (h : Row w g e xs) (o : Obj) : Row (w.alloc o) g e xs := by
  unfold Row
  rw [Below.heap_alloc w o g h.lt]; exact h
theorem Row.drew {w : World} {g e : Nat} {xs : List Value} (h : Row w g e xs) : Row w.drew g e xs := h
theorem Row.newAt (w : World) (cs : List Value) (e g : Nat) (hg : g = w.heap.size) : Row (w.alloc (.cells cs.toArray e)) g e cs := by
  subst hg
  exact heap_alloc_new w _

/-- A float stored into a cell: the kit has this law for the other plain values. -/
theorem run_store_float {P : Program} (w : World) (a : Addr) (m : Mode) (k : FloatKind) (n : Nat) : (store a (.float k n) m).run P w = stored P w a (.float k n) m := run_store P w a _ m rfl

/-- How the model orders two float64 by their bits. -/
def ord (a b : Nat) : Option Ordering := FloatKind.f64.format.order a b

def lessB (f : Nat) (i : Int) (g : Nat) (j : Int) : Bool := ord f g == some .lt || (ord f g == some .eq && decide (i < j))

theorem nan_t (f : Nat) (w : World) (h : (ord f f == some .eq) = false) : Calls Yba.prog 6 #[.float .f64 f] w fun e w' => e = .returned (.bool true) ∧ w' = w := by
  unfold ord at h
  have h' : (FloatKind.f64.format.order f f != some .eq) = true := by simp only [bne, h]; rfl
  clear h
  go_enter Yba.func6, Yba.ntmps6
  go_wp2
  go_ret
  exact ⟨rfl, rfl⟩
theorem nan_f (f : Nat) (w : World) (h : (ord f f == some .eq) = true) : Calls Yba.prog 6 #[.float .f64 f] w fun e w' => e = .returned (.bool false) ∧ w' = w := by
  unfold ord at h
  have h' : (FloatKind.f64.format.order f f != some .eq) = false := by simp only [bne, h]; rfl
  clear h
  go_enter Yba.func6, Yba.ntmps6
  go_wp2
  go_ret
  exact ⟨rfl, rfl⟩

theorem less_any (f : Nat) (i : Int) (g : Nat) (j : Int) (w : World) : Calls Yba.prog 7 #[.float .f64 f, .int .i64 i, .float .f64 g, .int .i64 j] w fun e w' => e = .returned (.bool (lessB f i g j)) ∧ w' = w := by
  unfold lessB ord
  obtain ⟨o, ho⟩ : ∃ o, FloatKind.f64.format.order f g = o := ⟨_, rfl⟩
  rw [ho]
  by_cases hij : i < j
  all_goals
    rcases o with _ | _ | _ | _
    all_goals
      go_enter Yba.func7, Yba.ntmps7
      go_wp2
      go_ret
      refine ⟨?_, rfl⟩
      simp [hij]

end Go.Proofs.Ybulkbko
