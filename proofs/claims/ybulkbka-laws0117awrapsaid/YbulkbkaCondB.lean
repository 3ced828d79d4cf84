/-
  'negate' (7).
-/
import Derived.Test.YbulkbkaCondA
namespace Go.Proofs.Ybulkbka
open Go.ChangeShapes Go.WideShapes Go.ChangeAt Go.RowKit
set_option linter.unusedVariables false

theorem Row.newAt (w : World) (cs : List Value) (e g : Nat) (hg : g = w.heap.size) : Row (w.alloc (.cells cs.toArray e)) g e cs := by
  subst hg
  exact heap_alloc_new w _

theorem neg_false (s col : ByteArray) (sl : Int) (va : Option Addr) (vn : Nat) (pa : Option Addr) (pn : Nat) (w : World) :
    Calls Yba.prog 7 #[.agg #[.string s, .string col, .int .i64 sl, .int .u64 0, .int .i32 0, .slice va vn vn, .slice pa pn pn], .bool false] w
      fun e w' => e = .returned (.agg #[.string s, .string col, .int .i64 sl, .int .u64 0, .int .i32 0, .slice va vn vn, .slice pa pn pn]) ∧ Below w.heap.size w w' := by
  go_enter Yba.func7, Yba.ntmps7
  go_wp2
  exact bodyPost_ret (v := .agg #[.string s, .string col, .int .i64 sl, .int .u64 0, .int .i32 0, .slice va vn vn, .slice pa pn pn]) (by simp [results, Yba.results7, go_sem]) rfl
    ⟨rfl, ((Below.refl _ _).alloc (Nat.le_refl _) _).alloc (by simp) _⟩

theorem neg_true (s col : ByteArray) (sl : Int) (va : Option Addr) (vn : Nat) (pa : Option Addr) (pn : Nat) (w : World) :
    Calls Yba.prog 7 #[.agg #[.string s, .string col, .int .i64 sl, .int .u64 0, .int .i32 0, .slice va vn vn, .slice pa pn pn], .bool true] w
      fun e w' => ∃ g, e = .returned (.agg #[.string ⟨#[78, 79, 84]⟩, .string ⟨#[]⟩, .int .i64 0, .int .u64 0, .int .i32 0, .slice none 0 0, .slice (some ⟨g, 0, none⟩) 1 1]) ∧ Below w.heap.size w w' ∧
        Row w' g 29 [.string s, .string col, .int .i64 sl, .int .u64 0, .int .i32 0, .slice va vn vn, .slice pa pn pn] := by
  go_enter Yba.func7, Yba.ntmps7
  go_wp2
  exact bodyPost_ret (v := .agg #[.string ⟨#[78, 79, 84]⟩, .string ⟨#[]⟩, .int .i64 0, .int .u64 0, .int .i32 0, .slice none 0 0, .slice (some ⟨w.heap.size + 2, 0, none⟩) 1 1]) (by simp [results, Yba.results7, go_sem]) rfl
    ⟨_, rfl, (((Below.refl _ _).alloc (Nat.le_refl _) _).alloc (by simp) _).alloc (by simp; omega) _, Row.newAt _ _ _ _ (by simp)⟩

end Go.Proofs.Ybulkbka
