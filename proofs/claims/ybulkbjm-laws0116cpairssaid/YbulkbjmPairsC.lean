/-
  'zzs0116ceq' (9).
-/
import Derived.Test.YbulkbjmPairsB
import Derived.WalkSmall
namespace Go.Proofs.Ybulkbjm
open Go.ChangeShapes Go.WideShapes Go.ChangeAt Go.RowKit
set_option linter.unusedVariables false

theorem ceq_nil (w : World) : Calls Yba.prog 9 #[.slice none 0 0, .slice none 0 0] w fun e w' => e = .returned (.bool true) ∧ w' = w := by
  go_enter Yba.func9, Yba.ntmps9
  go_wp2
  refine wp_loop_rounds 1 ?_
  rw [rounds_succ]
  go_wp2
  go_ret
  exact ⟨rfl, rfl⟩

set_option maxHeartbeats 400000 in
theorem ceq_any (g1 g2 c1 c2 n : Nat) (ss : List ByteArray) (w : World) (hn : n ≤ 100)
    (h1 : ∀ j, j < n → w.cell? ⟨g1, j, none⟩ = some (.string (ss.getD j ByteArray.empty))) (h2 : ∀ j, j < n → w.cell? ⟨g2, j, none⟩ = some (.string (ss.getD j ByteArray.empty))) :
    Calls Yba.prog 9 #[.slice (some ⟨g1, 0, none⟩) n c1, .slice (some ⟨g2, 0, none⟩) n c2] w fun e w' => e = .returned (.bool true) ∧ ∃ k, w' = w.drewN k := by
  have H1 : Hid (∀ j, j < n → w.cell? ⟨g1, j, none⟩ = some (.string (ss.getD j ByteArray.empty))) := h1
  have H2 : Hid (∀ j, j < n → w.cell? ⟨g2, j, none⟩ = some (.string (ss.getD j ByteArray.empty))) := h2
  clear h1 h2
  go_enter Yba.func9, Yba.ntmps9
  go_wp2
  go_loopw [5] (fun t wr => ∃ k nq : Nat, k ≤ n ∧ t = .int .i64 k ∧ wr = w.drewN nq) (fun t _ => n - (intOf t).toNat)
  case atStart => exact ⟨0, 0, Nat.zero_le _, rfl, rfl⟩
  case round =>
    obtain ⟨k, nq, hk, rfl, rfl⟩ := hrel
    by_cases hlt : k < n
    · have e1 := H1.out k hlt
      have e2 := H2.out k hlt
      obtain ⟨s, hs⟩ : ∃ s, s = ss.getD k ByteArray.empty := ⟨_, rfl⟩
      rw [← hs] at e1 e2
      clear hs
      have hlt' : (k : Int) < (n : Int) := by omega
      go_wp2
      go_quiet (fail)
      go_wp2
      go_roundw
      case rel => exact ⟨k + 1, _, by omega, by go_num, rfl⟩
      case measure => simp [intOf]; omega
    · go_wp2
      go_ret
      exact ⟨rfl, _, rfl⟩

end Go.Proofs.Ybulkbjm
