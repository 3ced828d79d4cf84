/-
  THE PARTS OF 'LawS0117AKeep' AND 'LawS0117AWrap': 'zzs0117aop' (10), 'negate' (7), 'zzs0117asame' (8).
-/
import Derived.Test.YbulkbkaSlotsA
import Derived.WalkLawsBesides
import Derived.Laws.StructEq
import Derived.Lib.SliceRun
import Derived.LaidEql
import Derived.WalkSmall
namespace Go.Proofs.Ybulkbka
open Go.ChangeShapes Go.WideShapes Go.ChangeAt Go.RowKit
set_option linter.unusedVariables false

theorem op_any (k : Int) (w : World) (h0 : 0 ≤ k) (h1 : k ≤ 255) :
    Calls Yba.prog 10 #[.int .u8 k] w fun e w' => (∃ s : ByteArray, e = .returned (.string s)) ∧ w' = w := by
  rcases (show k % 11 = 0 ∨ k % 11 = 1 ∨ k % 11 = 2 ∨ k % 11 = 3 ∨ k % 11 = 4 ∨ k % 11 = 5 ∨ k % 11 = 6 ∨ k % 11 = 7 ∨ k % 11 = 8 ∨ k % 11 = 9 ∨ k % 11 = 10 from by omega) with h | h | h | h | h | h | h | h | h | h | h
  all_goals
    go_enter Yba.func10, Yba.ntmps10
    go_wp2
    go_ret
    exact ⟨⟨_, rfl⟩, rfl⟩

theorem Yba.tell25 : (Yba.prog.info? 25).isSome = true := by kernel_rfl
theorem Yba.tell29 : (Yba.prog.info? 29).isSome = true := by kernel_rfl

/-- 'p != p' at two pointers that are one. -/
theorem neq_same_of {t e : TypeId} (ht : Yba.prog.underlying t = some (.pointer e)) (he : (Yba.prog.info? e).isSome = true) (q : Addr) (w : World) :
    (binOp .neq t (.pointer (some q)) (.pointer (some q))).run Yba.prog w = .ok (.bool false) w := by
  obtain ⟨i, hi⟩ := Option.isSome_iff_exists.1 he
  have h : ∀ d : Nat, (Op.equalIn (d + 1) t (.pointer (some q)) (.pointer (some q))).run Yba.prog w = .ok true w := fun d => by
    simp [Op.equalIn, run_underlying ht, sizeOf, typeInfo, hi, run_sameAddr_same]
  simp only [binOp]
  simp [Op.equal, Op.maxDepth, h 9999]

theorem below_drewN' {B : Nat} {a w : World} (h : Below B a w) (k : Nat) : Below B a (w.drewN k) := by
  induction k with
  | zero => exact h
  | succ k ih => exact ⟨h.os, h.tape, h.output, h.size, h.block⟩

set_option maxHeartbeats 800000 in
theorem same_any (s col : ByteArray) (sl : Int) (va : Option Addr) (vn : Nat) (pa : Option Addr) (pn : Nat) (w : World)
    (hv : vn = 0 ∨ ∃ g, va = some ⟨g, 0, none⟩) (hp : pn = 0 ∨ ∃ g, pa = some ⟨g, 0, none⟩) (hv3 : vn ≤ 3) (hp3 : pn ≤ 3) :
    Calls Yba.prog 8 #[.agg #[.string s, .string col, .int .i64 sl, .int .u64 0, .int .i32 0, .slice va vn vn, .slice pa pn pn], .agg #[.string s, .string col, .int .i64 sl, .int .u64 0, .int .i32 0, .slice va vn vn, .slice pa pn pn]] w
      fun e w' => e = .returned (.bool true) ∧ Below w.heap.size w w' := by
  have q26 : ∀ (w : World) (a : Option Addr) (n c n' c' : Nat), (binOp .eql 26 (.slice a n c) (.slice none n' c')).run Yba.prog w = .ok (.bool a.isNone) w := fun w a n c n' c' => Lib.run_eql_slice_nil w _ _ a n c n' c' Yba.underlying26
  have q27 : ∀ (w : World) (a : Option Addr) (n c n' c' : Nat), (binOp .eql 27 (.slice a n c) (.slice none n' c')).run Yba.prog w = .ok (.bool a.isNone) w := fun w a n c n' c' => Lib.run_eql_slice_nil w _ _ a n c n' c' Yba.underlying27
  have n57 := neq_same_of Yba.underlying57 Yba.tell25
  have n58 := neq_same_of Yba.underlying58 Yba.tell29
  rcases (show vn = 0 ∨ (0 < vn ∧ ∃ g, va = some ⟨g, 0, none⟩) from by rcases hv with h | h; exact .inl h; by_cases e : vn = 0; exact .inl e; exact .inr ⟨by omega, h⟩) with rfl | ⟨hvp, gv, rfl⟩
  · rcases (show pn = 0 ∨ (0 < pn ∧ ∃ g, pa = some ⟨g, 0, none⟩) from by rcases hp with h | h; exact .inl h; by_cases e : pn = 0; exact .inl e; exact .inr ⟨by omega, h⟩) with rfl | ⟨hpp, gp, rfl⟩
    · go_enter Yba.func8, Yba.ntmps8
      go_wp2
      go_quiet (fail)
      go_wp2
      go_quiet (fail)
      go_wp2
      go_ret
      exact ⟨rfl, below_drewN' (below_drewN' (((Below.refl _ _).alloc (Nat.le_refl _) _).alloc (by simp) _) _) _⟩
    · have hpi : (0 : Int) < (pn : Int) := by omega
      go_enter Yba.func8, Yba.ntmps8
      go_wp2
      go_quiet (fail)
      go_wp2
      go_quiet (fail)
      go_wp2
      go_ret
      exact ⟨rfl, below_drewN' (below_drewN' (((Below.refl _ _).alloc (Nat.le_refl _) _).alloc (by simp) _) _) _⟩
  · have hvi : (0 : Int) < (vn : Int) := by omega
    rcases (show pn = 0 ∨ (0 < pn ∧ ∃ g, pa = some ⟨g, 0, none⟩) from by rcases hp with h | h; exact .inl h; by_cases e : pn = 0; exact .inl e; exact .inr ⟨by omega, h⟩) with rfl | ⟨hpp, gp, rfl⟩
    · go_enter Yba.func8, Yba.ntmps8
      go_wp2
      go_quiet (fail)
      go_wp2
      go_quiet (fail)
      go_wp2
      go_ret
      exact ⟨rfl, below_drewN' (below_drewN' (((Below.refl _ _).alloc (Nat.le_refl _) _).alloc (by simp) _) _) _⟩
    · have hpi : (0 : Int) < (pn : Int) := by omega
      go_enter Yba.func8, Yba.ntmps8
      go_wp2
      go_quiet (fail)
      go_wp2
      go_quiet (fail)
      go_wp2
      go_ret
      exact ⟨rfl, below_drewN' (below_drewN' (((Below.refl _ _).alloc (Nat.le_refl _) _).alloc (by simp) _) _) _⟩

end Go.Proofs.Ybulkbka
