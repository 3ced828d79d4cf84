/-
  'zzs0116bpick' (6) AND WHAT A ROUND OF 'LawS0116BSkipMapped' DOES TO ITS OWN MEMORY.
-/
import Derived.Test.YbulkbjmSkipWalks
import Derived.Laws.OwnMore
import Derived.OwnWalk
namespace Go.Proofs.Ybulkbjm
open Go.ChangeShapes Go.WideShapes Go.ChangeAt Go.RowKit
set_option linter.unusedVariables false

theorem pick_any (b : Int) (w : World) (h0 : 0 ≤ b) (h1 : b ≤ 255) :
    Calls Yba.prog 6 #[.int .u8 b] w fun e w' => (∃ z : Int, e = .returned (.int .u8 z)) ∧ w' = w := by
  rcases (show b % 10 = 0 ∨ b % 10 = 1 ∨ b % 10 = 2 ∨ b % 10 = 3 ∨ b % 10 = 4 ∨ b % 10 = 5 ∨ b % 10 = 6 ∨ b % 10 = 7 ∨ b % 10 = 8 ∨ b % 10 = 9 from by omega) with h | h | h | h | h | h | h | h | h | h
  all_goals
    go_enter Yba.func6, Yba.ntmps6
    go_wp2
    go_ret
    exact ⟨⟨_, rfl⟩, rfl⟩

theorem Yba.info5 : (Yba.prog.info? 5).map (fun i => (i.zero, i.size, i.bytes)) = some (some (.int .u8 0), 1, 1) := by kernel_rfl

/-- The row that the call makes holds bytes, whichever. -/
def HasBytes (w : World) (g n : Nat) : Prop :=
  ∃ xs : List Int, xs.length = n ∧ w.ownsRow g 5 1 (.slice (some ⟨g, 0, none⟩) n n) n (xs.map (Value.int .u8))

theorem HasBytes.made {w : World} {g n : Nat} (h : w.ownsRow g 5 1 (.slice (some ⟨g, 0, none⟩) n n) n (madeCells (Value.int .u8 0).cells (n * 1)).toList) : HasBytes w g n :=
  ⟨List.replicate n 0, by simp, by
    have e : (madeCells (Value.int .u8 0).cells (n * 1)).toList = (List.replicate n (0 : Int)).map (Value.int .u8) := by
      show (madeCells #[Value.int .u8 0] (n * 1)).toList = _
      rw [toList_madeCells_one]; simp
    rw [e] at h; exact h⟩

theorem HasBytes.cell {w : World} {g n : Nat} (h : HasBytes w g n) : ∃ xs : List Int, ∀ j, j < n → w.cell? ⟨g, j, none⟩ = some (.int .u8 (xs.getD j 0)) := by
  obtain ⟨xs, hl, ho⟩ := h
  refine ⟨xs, fun j hj => ?_⟩
  rw [ho.cellAt j (by omega)]
  simp [hl, hj]

theorem HasBytes.frozen {w : World} {g n : Nat} (h : HasBytes w g n) (j : Nat) : w.frozen? ⟨g, j, none⟩ = false := by
  obtain ⟨xs, hl, ho⟩ := h
  exact ho.frozenAt j

theorem HasBytes.stored {w : World} {g n : Nat} (h : HasBytes w g n) (j : Nat) (z : Int) : HasBytes (w.setCell ⟨g, j, none⟩ (.int .u8 z)) g n := by
  obtain ⟨xs, hl, ho⟩ := h
  refine ⟨xs.set j z, by simpa using hl, ?_⟩
  rw [List.map_set]
  exact (ho.stored j (.int .u8 z)).1

end Go.Proofs.Ybulkbjm
