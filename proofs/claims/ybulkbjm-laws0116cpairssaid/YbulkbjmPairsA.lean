/-
  THE PARTS OF 'LawS0116CPairs': a row of strings that the call itself makes; 'append(xs, p, q)'; 'boolValue' (12), '(*duration).String' (13), 'feeAttrs' (8).
-/
import Derived.Test.YbulkbjmRows
import Derived.WalkKit
import Derived.WalkSpells
import Derived.ProofKit
import Derived.OpenShut
import Derived.Below
import Derived.OwnWalk
import Derived.Laws.OwnMore
import Derived.Laws.Pointers
import Derived.Deep.AppendLies
namespace Go.Proofs.Ybulkbjm
open Go.ChangeShapes Go.WideShapes Go.ChangeAt Go.RowKit
set_option linter.unusedVariables false

theorem Yba.info9 : (Yba.prog.info? 9).map (fun i => (i.zero, i.size, i.bytes)) = some (some (.string ByteArray.empty), 1, 16) := by kernel_rfl

/-- The slice value v, of the call's own make (blocks from B on), holds the strings xs; it is nil where there are none. -/
def Own (B : Nat) (w : World) (v : Value) (xs : List ByteArray) : Prop :=
  w.ownsRow B 9 1 v xs.length (xs.map Value.string) ∧ (xs = [] → v = .slice none 0 0)

theorem Own.nil (B : Nat) (w : World) : Own B w (.slice none 0 0) [] := ⟨World.ownsRow_nil _ _ _ _, fun _ => rfl⟩

theorem Own.drew {B : Nat} {w : World} {v : Value} {xs : List ByteArray} (h : Own B w v xs) : Own B w.drew v xs := ⟨h.1.drew, h.2⟩
theorem Own.alloc {B : Nat} {w : World} {v : Value} {xs : List ByteArray} (h : Own B w v xs) (o : Obj) : Own B (w.alloc o) v xs := ⟨h.1.alloc o, h.2⟩

theorem Own.block {B : Nat} {w : World} {v : Value} {xs : List ByteArray} (h : Own B w v xs) : ∀ k, v.ownBlock = some k → B ≤ k := by
  rcases h.1.2 with ⟨rfl, _⟩ | ⟨g, cap, cur, rfl, hb, _⟩
  · intro k hk; cases hk
  · intro k hk
    simp only [Value.ownBlock, Option.some.injEq] at hk
    omega

theorem Own.shape {B : Nat} {w : World} {v : Value} {xs : List ByteArray} (h : Own B w v xs) (hx : xs ≠ []) :
    ∃ g cap, v = .slice (some ⟨g, 0, none⟩) xs.length cap ∧ ∀ j, j < xs.length → w.cell? ⟨g, j, none⟩ = some (.string (xs.getD j ByteArray.empty)) := by
  have hp : 0 < xs.length := List.length_pos_iff.2 hx
  obtain ⟨g, cap, rfl, _, _⟩ := h.1.form hp
  refine ⟨g, cap, rfl, fun j hj => ?_⟩
  rw [h.1.cellAt j (by omega)]
  simp [hj]

/-- The facts behind 'append(xs, p, q)'. -/
theorem Own.grow {B : Nat} {w0 w1 wx : World} {v : Value} {xs : List ByteArray} {p q : ByteArray} {g cap : Nat} (hown : Own B w0 v xs) (hB : B ≤ w0.heap.size) (o : Obj)
    (hwx : wx = w0.alloc o ∨ wx = (w0.alloc o).drew)
    (h1 : w1.ownsRow B 9 1 (.slice (some ⟨g, 0, none⟩) (xs.length + 2) cap) (xs.length + 2) (xs.map Value.string ++ [.string p, .string q])) (hg : wx.grownBy w1 v.ownBlock) :
    Own B w1 (.slice (some ⟨g, 0, none⟩) (xs.length + 2) cap) (xs ++ [p, q]) ∧ Below B w0 w1 := by
  refine ⟨⟨?_, fun h => by simp at h⟩, ?_⟩
  · simpa using h1
  · have b0 : Below B w0 wx := by
      rcases hwx with rfl | rfl
      · exact (Below.refl _ _).alloc hB _
      · exact ((Below.refl _ _).alloc hB _).drew
    exact b0.grown hg (Nat.le_trans hB b0.size) hown.block

theorem wpList_app2 {ops : Array Oper} {rest : List Oper} {o : Oper} {a : Act} {Q : Exit → Act → World → Prop} (hgd : o.guard = none) (s x : Operand)
    (ho : o.op = .call { callee := .builtin .append, args := #[s, x], argTypes := #[27, 27] })
    (B : Nat) (w0 : World) (v : Value) (xs : List ByteArray) (p q : ByteArray) (hs : a.eval s = v) (hx : a.eval x = .slice (some ⟨w0.heap.size, 0, none⟩) 2 2)
    (hB : B ≤ w0.heap.size) (hown : Own B w0 v xs) (hlen : xs.length ≤ 6)
    (h : ∀ v' w', Own B w' v' (xs ++ [p, q]) → Below B w0 w' → wpList Yba.prog ops Q rest (a.put o.dst v') w') :
    wpList Yba.prog ops Q (o :: rest) a (w0.alloc (.cells #[.string p, .string q] 9)) := by
  obtain ⟨i0, hi0, hz0, hz1, hz2⟩ := info_parts Yba.info9
  refine wpList_append_lies _ hgd s x 27 ho B 9 i0 _ 1 16 Yba.underlying27 hi0 hz0 hz1 hz2 rfl (by omega) v xs.length (xs.map Value.string) hs (hown.1.alloc _)
    ⟨w0.heap.size, 0, none⟩ 2 2 [.string p, .string q] hx rfl (World.news_of_block (cs := #[.string p, .string q]) (t := 9) (fr := (0, 0)) (heap_alloc_new w0 _)) (by simp [Value.oneCell'])
    (by omega) (by unfold maxLen; omega) (by omega) (by simp; omega) (w0.heap.size + 1) (by simp) ?_
  intro g cap w1 h1 hg _ _
  have r := hown.grow hB _ (.inl rfl) h1 hg
  exact h _ _ r.1 r.2

def flagB (b : Bool) : ByteArray := if b then ⟨#[49]⟩ else ⟨#[48]⟩

theorem bool_any (b : Bool) (w : World) : Calls Yba.prog 12 #[.bool b] w fun e w' => e = .returned (.string (flagB b)) ∧ w' = w := by
  cases b
  all_goals
    go_enter Yba.func12, Yba.ntmps12
    go_wp2
    go_ret
    exact ⟨rfl, rfl⟩

theorem dur_any (b : Nat) (s : ByteArray) (w : World) (h : w.cell? ⟨b, 0, none⟩ = some (.string s)) :
    Calls Yba.prog 13 #[.pointer (some ⟨b, 0, none⟩)] w fun e w' => e = .returned (.string s) ∧ w' = w := by
  go_enter Yba.func13, Yba.ntmps13
  go_wp2
  go_ret
  exact ⟨rfl, rfl⟩

end Go.Proofs.Ybulkbjm
