/-
  THE PARTS OF 'LawS0117CSlots': a row of the call's own, whole; the bits of a place; '(place).at' (11), '(*chunk).chainAt' (9).
-/
import Derived.Test.YbulkbkaRows
import Derived.WalkKit
import Derived.WalkSpells
import Derived.ProofKit
import Derived.OpenShut
import Derived.Below
import Derived.OwnWalk
import Derived.Laws.OwnMore
import Derived.Laws.Pointers
import Derived.Laws.BitsAllLaws
import Derived.Deep.OwnRows
import Derived.Deep.QuietTactic
import Derived.BigQuiet
namespace Go.Proofs.Ybulkbka
open Go.ChangeShapes Go.WideShapes Go.ChangeAt Go.RowKit
set_option linter.unusedVariables false

/-- Block g holds just the cells xs, none of them frozen. -/
def Row (w : World) (g e : Nat) (xs : List Value) : Prop := w.heap[g]? = some (.cells xs.toArray e (0, 0))

theorem Row.lt {w : World} {g e : Nat} {xs : List Value} (h : Row w g e xs) : g < w.heap.size := (Array.getElem?_eq_some_iff.1 h).1
theorem Row.cell {w : World} {g e : Nat} {xs : List Value} (h : Row w g e xs) (j : Nat) : w.cell? ⟨g, j, none⟩ = xs[j]? := by
  rw [cell_of_row w g j _ e (0, 0) h]; simp
theorem Row.frozen {w : World} {g e : Nat} {xs : List Value} (h : Row w g e xs) (j : Nat) : w.frozen? ⟨g, j, none⟩ = false :=
  frozen_of_row w g j _ e h
theorem Row.set {w : World} {g e : Nat} {xs : List Value} (h : Row w g e xs) (j : Nat) (u : Value) : Row (w.setCell ⟨g, j, none⟩ u) g e (xs.set j u) := by
  have := heap_setCell_same w g j _ e u h
  unfold Row
  rw [this]; simp
theorem Row.other {w : World} {g e : Nat} {xs : List Value} (h : Row w g e xs) (g' j : Nat) (u : Value) (hne : g ≠ g') : Row (w.setCell ⟨g', j, none⟩ u) g e xs := by
  unfold Row
  rw [heap_setCell_other w ⟨g', j, none⟩ g u hne]; exact h
theorem Row.alloc {w : World} {g e : Nat} {xs : List Value} (h : Row w g e xs) (o : Obj) : Row (w.alloc o) g e xs := by
  unfold Row
  rw [Below.heap_alloc w o g h.lt]; exact h
theorem Row.drew {w : World} {g e : Nat} {xs : List Value} (h : Row w g e xs) : Row w.drew g e xs := h
theorem Row.made (w : World) (e n : Nat) (z : Value) : Row (w.alloc (.cells (madeCells #[z] n) e)) w.heap.size e (List.replicate n z) := by
  unfold Row
  rw [heap_alloc_new w _, ← toList_madeCells_one]

/-! ### the bits of a place -/
def inC (s : Nat) : Int := 2147483648 + s
def inH (s : Nat) : Int := 3221225472 + s

theorem or_C (s : Nat) (h : s < 8) : bits .or .u32 2147483648 (s : Int) = inC s := by
  have := u32_or_nat 2147483648 s (by omega) (by omega)
  rw [nat_join 31 2147483648 s (by omega) (by omega)] at this
  rw [show (2147483648 : Int) = ((2147483648 : Nat) : Int) from rfl, this]; simp [inC]
theorem or_H (s : Nat) (h : s < 8) : bits .or .u32 3221225472 (s : Int) = inH s := by
  have := u32_or_nat 3221225472 s (by omega) (by omega)
  rw [nat_join 30 3221225472 s (by omega) (by omega)] at this
  rw [show (3221225472 : Int) = ((3221225472 : Nat) : Int) from rfl, this]; simp [inH]
theorem and_0 (k : Nat) (h : k ≤ 1024) : bits .and .u32 (k : Int) 2147483648 = 0 := by
  have := u32_and_nat k 2147483648 (by omega) (by omega)
  rw [show (2147483648 : Nat) = 2 ^ 31 from rfl, nat_bit 31 k, Nat.div_eq_of_lt (by omega)] at this
  rw [show (2147483648 : Int) = ((2 ^ 31 : Nat) : Int) from rfl, this]; simp
theorem and_C (s : Nat) (h : s < 8) : bits .and .u32 (inC s) 2147483648 = 2147483648 := by
  have := u32_and_nat (2147483648 + s) 2147483648 (by omega) (by omega)
  rw [show (2147483648 : Nat) = 2 ^ 31 from rfl, nat_bit 31 (2 ^ 31 + s)] at this
  have e : (2 ^ 31 + s) / 2 ^ 31 % 2 * 2 ^ 31 = 2 ^ 31 := by omega
  rw [e] at this
  rw [show inC s = ((2 ^ 31 + s : Nat) : Int) by simp [inC], show (2147483648 : Int) = ((2 ^ 31 : Nat) : Int) from rfl, this]
theorem and_H (s : Nat) (h : s < 8) : bits .and .u32 (inH s) 2147483648 = 2147483648 := by
  have := u32_and_nat (3221225472 + s) 2147483648 (by omega) (by omega)
  rw [show (2147483648 : Nat) = 2 ^ 31 from rfl, nat_bit 31 (3221225472 + s)] at this
  have e : (3221225472 + s) / 2 ^ 31 % 2 * 2 ^ 31 = 2 ^ 31 := by omega
  rw [e] at this
  rw [show inH s = ((3221225472 + s : Nat) : Int) by simp [inH], show (2147483648 : Int) = ((2 ^ 31 : Nat) : Int) from rfl, this]
theorem low30 (x : Nat) : x &&& 1073741823 = x % 1073741824 := Nat.and_two_pow_sub_one_eq_mod x 30
theorem at_C (s : Nat) (h : s < 8) : bits .andNot .u32 (inC s) 3221225472 = s := by
  have := u32_andNot_nat (2147483648 + s) 3221225472 (by omega) (by omega)
  rw [show (4294967295 - 3221225472 : Nat) = 1073741823 from rfl, low30, show (2147483648 + s) % 1073741824 = s by omega] at this
  rw [show inC s = ((2147483648 + s : Nat) : Int) by simp [inC], show (3221225472 : Int) = ((3221225472 : Nat) : Int) from rfl, this]
theorem at_H (s : Nat) (h : s < 8) : bits .andNot .u32 (inH s) 3221225472 = s := by
  have := u32_andNot_nat (3221225472 + s) 3221225472 (by omega) (by omega)
  rw [show (4294967295 - 3221225472 : Nat) = 1073741823 from rfl, low30, show (3221225472 + s) % 1073741824 = s by omega] at this
  rw [show inH s = ((3221225472 + s : Nat) : Int) by simp [inH], show (3221225472 : Int) = ((3221225472 : Nat) : Int) from rfl, this]

theorem at_any (z : Int) (s : Nat) (w : World) (h : bits .andNot .u32 z 3221225472 = s) (hs : s < 8) :
    Calls Yba.prog 11 #[.int .u32 z] w fun e w' => e = .returned (.int .i64 s) ∧ w' = w := by
  go_enter Yba.func11, Yba.ntmps11
  go_wp2
  go_ret
  exact ⟨rfl, rfl⟩

end Go.Proofs.Ybulkbka
