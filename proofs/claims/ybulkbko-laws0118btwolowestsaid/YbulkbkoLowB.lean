/-
  '(*lows).see' (8).
-/
import Derived.Test.YbulkbkoLowA
import Derived.RegionTactic
import Derived.BigRegion
namespace Go.Proofs.Ybulkbko
open Go.ChangeShapes Go.WideShapes Go.ChangeAt Go.RowKit
set_option linter.unusedVariables false

attribute [local go_sem] run_store_float

theorem less_cases {f : Nat} {i : Int} {g : Nat} {j : Int} (h : lessB f i g j = true) : FloatKind.f64.format.order f g = some .lt ∨ (FloatKind.f64.format.order f g = some .eq ∧ i < j) := by
  simpa [lessB, ord] using h
theorem not_less_cases {f : Nat} {i : Int} {g : Nat} {j : Int} (h : lessB f i g j = false) : FloatKind.f64.format.order f g = none ∨ FloatKind.f64.format.order f g = some .gt ∨ (FloatKind.f64.format.order f g = some .eq ∧ ¬ i < j) := by
  rcases ho : FloatKind.f64.format.order f g with _ | _ | _ | _
  · exact .inl rfl
  · simp [lessB, ord, ho] at h
  · refine .inr (.inr ⟨rfl, ?_⟩)
    simpa [lessB, ord, ho] using h
  · exact .inr (.inl rfl)

set_option maxHeartbeats 800000 in
theorem see_none (b : Nat) (a0 a1 i : Int) (f0 f1 f : Nat) (w : World)
    (c0 : w.cell? ⟨b, 0, none⟩ = some (.int .i64 a0)) (c1 : w.cell? ⟨b, 1, none⟩ = some (.int .i64 a1)) (c2 : w.cell? ⟨b, 2, none⟩ = some (.float .f64 f0)) (c3 : w.cell? ⟨b, 3, none⟩ = some (.float .f64 f1))
    (h0 : lessB f i f0 a0 = false) (h1 : lessB f i f1 a1 = false) :
    Calls Yba.prog 8 #[.pointer (some ⟨b, 0, none⟩), .int .i64 i, .float .f64 f] w fun e w' => e = .returned (.tuple #[]) ∧ w' = w := by
  rcases not_less_cases h0 with o0 | o0 | ⟨o0, n0⟩
  all_goals
    rcases not_less_cases h1 with o1 | o1 | ⟨o1, n1⟩
    all_goals
      clear h0 h1
      go_enter Yba.func8, Yba.ntmps8
      go_wp2
      go_end0
      exact ⟨rfl, rfl⟩

set_option maxHeartbeats 800000 in
theorem see_first (b : Nat) (a0 a1 i : Int) (f0 f1 f : Nat) (w : World) (hr : Row w b 28 [.int .i64 a0, .int .i64 a1, .float .f64 f0, .float .f64 f1])
    (h0 : lessB f i f0 a0 = true) :
    Calls Yba.prog 8 #[.pointer (some ⟨b, 0, none⟩), .int .i64 i, .float .f64 f] w fun e w' => e = .returned (.tuple #[]) ∧ Row w' b 28 [.int .i64 i, .int .i64 a0, .float .f64 f, .float .f64 f0] ∧ Below b w w' := by
  have c0 : w.cell? ⟨b, 0, none⟩ = some (.int .i64 a0) := hr.cell 0
  have c1 : w.cell? ⟨b, 1, none⟩ = some (.int .i64 a1) := hr.cell 1
  have c2 : w.cell? ⟨b, 2, none⟩ = some (.float .f64 f0) := hr.cell 2
  have c3 : w.cell? ⟨b, 3, none⟩ = some (.float .f64 f1) := hr.cell 3
  have z0 := hr.frozen 0
  have z1 := hr.frozen 1
  have z2 := hr.frozen 2
  have z3 := hr.frozen 3
  have HR : Hid (Row w b 28 [.int .i64 a0, .int .i64 a1, .float .f64 f0, .float .f64 f1]) := hr
  clear hr
  rcases less_cases h0 with o0 | ⟨o0, n0⟩
  all_goals
    clear h0
    go_enter Yba.func8, Yba.ntmps8
    go_wp2
    go_region
    go_wp2
    go_region
    go_wp2
    go_end0
    exact ⟨rfl, (((HR.out.set 1 (.int .i64 a0)).set 3 (.float .f64 f0)).set 0 (.int .i64 i)).set 2 (.float .f64 f),
      ((((((Below.refl _ _).setCell (by exact Nat.le_refl _) _).setCell (by exact Nat.le_refl _) _).setCell (by exact Nat.le_refl _) _).setCell (by exact Nat.le_refl _) _).drew).drew⟩

set_option maxHeartbeats 800000 in
theorem see_second (b : Nat) (a0 a1 i : Int) (f0 f1 f : Nat) (w : World) (hr : Row w b 28 [.int .i64 a0, .int .i64 a1, .float .f64 f0, .float .f64 f1])
    (h0 : lessB f i f0 a0 = false) (h1 : lessB f i f1 a1 = true) :
    Calls Yba.prog 8 #[.pointer (some ⟨b, 0, none⟩), .int .i64 i, .float .f64 f] w fun e w' => e = .returned (.tuple #[]) ∧ Row w' b 28 [.int .i64 a0, .int .i64 i, .float .f64 f0, .float .f64 f] ∧ Below b w w' := by
  have c0 : w.cell? ⟨b, 0, none⟩ = some (.int .i64 a0) := hr.cell 0
  have c1 : w.cell? ⟨b, 1, none⟩ = some (.int .i64 a1) := hr.cell 1
  have c2 : w.cell? ⟨b, 2, none⟩ = some (.float .f64 f0) := hr.cell 2
  have c3 : w.cell? ⟨b, 3, none⟩ = some (.float .f64 f1) := hr.cell 3
  have z0 := hr.frozen 0
  have z1 := hr.frozen 1
  have z2 := hr.frozen 2
  have z3 := hr.frozen 3
  have HR : Hid (Row w b 28 [.int .i64 a0, .int .i64 a1, .float .f64 f0, .float .f64 f1]) := hr
  clear hr
  rcases not_less_cases h0 with o0 | o0 | ⟨o0, n0⟩
  all_goals
    rcases less_cases h1 with o1 | ⟨o1, n1⟩
    all_goals
      clear h0 h1
      go_enter Yba.func8, Yba.ntmps8
      go_wp2
      go_region
      go_wp2
      go_end0
      exact ⟨rfl, (HR.out.set 1 (.int .i64 i)).set 3 (.float .f64 f), (((Below.refl _ _).setCell (by exact Nat.le_refl _) _).setCell (by exact Nat.le_refl _) _).drew⟩

end Go.Proofs.Ybulkbko
