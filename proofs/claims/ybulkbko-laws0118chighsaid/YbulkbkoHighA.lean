/-
  THE PARTS OF 'LawS0118CHigh': 'math.Float64bits' (10), 'zzs0118csame' (12), '(*placement).high' (11).
-/
import Derived.Test.YbulkbkoLowA
import Derived.Lib.SliceRun
import Derived.Laws.Externs
import Derived.WalkSmall
namespace Go.Proofs.Ybulkbko
open Go.ChangeShapes Go.WideShapes Go.ChangeAt Go.RowKit
set_option linter.unusedVariables false
attribute [local go_sem] run_store_float

theorem find10 : Extern.find Yba.f10 = some Extern.MathFloatBits.float64bits := by kernel_rfl
/-- 'math.Float64bits': the bits as they are. -/
theorem bits_run (b : Nat) (w : World) : (callFunc 10 #[.float .f64 b]).run Yba.prog w = .ok (.value (.int .u64 b)) w := by
  rw [run_callFunc_extern Yba.func10 (by kernel_rfl) (by kernel_rfl) (by kernel_rfl) find10]
  rfl

theorem below_drewN' {B : Nat} {a w : World} (h : Below B a w) (k : Nat) : Below B a (w.drewN k) := by
  induction k with
  | zero => exact h
  | succ k ih => exact ⟨h.os, h.tape, h.output, h.size, h.block⟩

theorem same_any (a b : Nat) (w : World) : Calls Yba.prog 12 #[.agg #[.float .f64 a, .float .f64 b], .agg #[.float .f64 a, .float .f64 b]] w fun e w' => e = .returned (.bool true) ∧ Below w.heap.size w w' := by
  have hb := bits_run
  go_enter Yba.func12, Yba.ntmps12
  go_wp2
  go_quiet (fail)
  go_wp2
  go_ret
  exact ⟨rfl, below_drewN' (((Below.refl _ _).alloc (Nat.le_refl _) _).alloc (by simp) _) _⟩

/-- 'high' where the pass holds no window: the guest's demand. -/
theorem high_nil (PL S Wo G n g c m : Nat) (w : World) (hg : g < n) (p0 : w.cell? ⟨PL, 0, none⟩ = some (.pointer (some ⟨S, 0, none⟩))) (p11 : w.cell? ⟨PL, 11, none⟩ = some (.pointer (some ⟨Wo, 0, none⟩)))
    (hw : w.cell? ⟨Wo, 4, none⟩ = some (.slice none 0 0)) (s1 : w.cell? ⟨S, 1, none⟩ = some (.slice (some ⟨G, 0, none⟩) n n))
    (g4 : w.cell? ⟨G, g * 6 + 4, none⟩ = some (.float .f64 c)) (g5 : w.cell? ⟨G, g * 6 + 5, none⟩ = some (.float .f64 m)) :
    Calls Yba.prog 11 #[.pointer (some ⟨PL, 0, none⟩), .int .i64 g] w fun e w' => e = .returned (.agg #[.float .f64 c, .float .f64 m]) ∧ Below w.heap.size w w' := by
  have q46 : ∀ (w : World) (a : Option Addr) (n c n' c' : Nat), (binOp .eql 46 (.slice a n c) (.slice none n' c')).run Yba.prog w = .ok (.bool a.isNone) w := fun w a n c n' c' => Lib.run_eql_slice_nil w _ _ a n c n' c' Yba.underlying46
  have b0 := World.block_lt_of_cell? w _ p0
  have b1 := World.block_lt_of_cell? w _ hw
  have b2 := World.block_lt_of_cell? w _ s1
  have b3 := World.block_lt_of_cell? w _ g4
  simp only at b0 b1 b2 b3
  go_enter Yba.func11, Yba.ntmps11
  go_wp2
  exact bodyPost_ret (v := .agg #[.float .f64 c, .float .f64 m]) (by simp [results, Yba.results11, go_sem]) rfl ⟨rfl, (Below.refl _ _).alloc (Nat.le_refl _) _⟩

/-- 'high' where the pass holds a window: the window's. -/
theorem high_some (PL Wo Hs n g c m : Nat) (w : World) (hg : g < n) (p11 : w.cell? ⟨PL, 11, none⟩ = some (.pointer (some ⟨Wo, 0, none⟩)))
    (hw : w.cell? ⟨Wo, 4, none⟩ = some (.slice (some ⟨Hs, 0, none⟩) n n))
    (g0 : w.cell? ⟨Hs, g * 2, none⟩ = some (.float .f64 c)) (g1 : w.cell? ⟨Hs, g * 2 + 1, none⟩ = some (.float .f64 m)) :
    Calls Yba.prog 11 #[.pointer (some ⟨PL, 0, none⟩), .int .i64 g] w fun e w' => e = .returned (.agg #[.float .f64 c, .float .f64 m]) ∧ Below w.heap.size w w' := by
  have q46 : ∀ (w : World) (a : Option Addr) (n c n' c' : Nat), (binOp .eql 46 (.slice a n c) (.slice none n' c')).run Yba.prog w = .ok (.bool a.isNone) w := fun w a n c n' c' => Lib.run_eql_slice_nil w _ _ a n c n' c' Yba.underlying46
  have b0 := World.block_lt_of_cell? w _ p11
  have b1 := World.block_lt_of_cell? w _ hw
  have b3 := World.block_lt_of_cell? w _ g0
  simp only at b0 b1 b3
  go_enter Yba.func11, Yba.ntmps11
  go_wp2
  exact bodyPost_ret (v := .agg #[.float .f64 c, .float .f64 m]) (by simp [results, Yba.results11, go_sem]) rfl ⟨rfl, (Below.refl _ _).alloc (Nat.le_refl _) _⟩

end Go.Proofs.Ybulkbko
