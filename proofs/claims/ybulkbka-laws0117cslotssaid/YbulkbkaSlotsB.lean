/-
  '(*chunk).chainAt' (9), and what the loops of 'LawS0117CSlots' leave.
-/
import Derived.Test.YbulkbkaSlotsA
namespace Go.Proofs.Ybulkbka
open Go.ChangeShapes Go.WideShapes Go.ChangeAt Go.RowKit
set_option linter.unusedVariables false

theorem chain_none (cb P m j : Nat) (z : Int) (w : World) (hj : j < m) (c3 : w.cell? ⟨cb, 3, none⟩ = some (.slice (some ⟨P, 0, none⟩) m m)) (cz : w.cell? ⟨P, j, none⟩ = some (.int .u32 z))
    (hz : bits .and .u32 z 2147483648 = 0) :
    Calls Yba.prog 9 #[.pointer (some ⟨cb, 0, none⟩), .int .i64 j] w fun e w' => e = .returned (.pointer none) ∧ ∃ n, w' = w.drewN n := by
  go_enter Yba.func9, Yba.ntmps9
  go_wp2
  go_ret
  exact ⟨rfl, 0, rfl⟩

theorem chain_some (cb P C m nc j s : Nat) (z : Int) (q : Option Addr) (w : World) (hj : j < m) (hs : s < nc) (hn : nc ≤ 8) (c3 : w.cell? ⟨cb, 3, none⟩ = some (.slice (some ⟨P, 0, none⟩) m m))
    (c5 : w.cell? ⟨cb, 5, none⟩ = some (.slice (some ⟨C, 0, none⟩) nc nc)) (cz : w.cell? ⟨P, j, none⟩ = some (.int .u32 z)) (cq : w.cell? ⟨C, s, none⟩ = some (.pointer q))
    (hz : bits .and .u32 z 2147483648 = 2147483648) (ha : bits .andNot .u32 z 3221225472 = s) :
    Calls Yba.prog 9 #[.pointer (some ⟨cb, 0, none⟩), .int .i64 j] w fun e w' => e = .returned (.pointer q) ∧ ∃ n, w' = w.drewN n := by
  have hs' : (s : Int) < (nc : Int) := by omega
  have hs0 : (0 : Int) ≤ (s : Int) := by omega
  have hs8 : s < 8 := by omega
  have HA : Hid (bits .andNot .u32 z 3221225472 = s) := ha
  clear ha
  go_enter Yba.func9, Yba.ntmps9
  go_wp2
  go_quiet ((go_at_call 11; exact Calls.quiet_of_same (at_any _ _ _ HA.out hs8)))
  go_wp2
  go_ret
  exact ⟨rfl, _, rfl⟩

end Go.Proofs.Ybulkbka
