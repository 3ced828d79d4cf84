/-
  'feeAttrs' (8) AND 'zzs0116ceq' (9).
-/
import Derived.Test.YbulkbjmPairsA
import Derived.Deep.QuietTactic
import Derived.BigQuiet
namespace Go.Proofs.Ybulkbjm
open Go.ChangeShapes Go.WideShapes Go.ChangeAt Go.RowKit
set_option linter.unusedVariables false

theorem bcell {B : Nat} {W w1 : World} (hb : Below B W w1) : ∀ b o, b < B → w1.cell? ⟨b, o, none⟩ = W.cell? ⟨b, o, none⟩ :=
  fun b o h => hb.cell (p := ⟨b, o, none⟩) h

theorem Own.cast {B : Nat} {w : World} {v : Value} {xs ys : List ByteArray} (h : Own B w v xs) (e : xs = ys) : Own B w v ys := e ▸ h

theorem wpList_app2' {ops : Array Oper} {rest : List Oper} {o : Oper} {a : Act} {Q : Exit → Act → World → Prop} (hgd : o.guard = none) (s x : Operand)
    (ho : o.op = .call { callee := .builtin .append, args := #[s, x], argTypes := #[27, 27] })
    (B : Nat) (W w0 : World) (v : Value) (xs : List ByteArray) (p q : ByteArray) (H : Nat) (hs : a.eval s = v) (hx : a.eval x = .slice (some ⟨H, 0, none⟩) 2 2) (hH : w0.heap.size = H)
    (hown : Own B w0 v xs) (hbel : Below B W w0) (hB : B ≤ W.heap.size) (hlen : xs.length ≤ 6)
    (h : ∀ v' w', Own B w' v' (xs ++ [p, q]) → Below B W w' → wpList Yba.prog ops Q rest (a.put o.dst v') w') :
    wpList Yba.prog ops Q (o :: rest) a (w0.alloc (.cells #[.string p, .string q] 9)) :=
  wpList_app2 hgd s x ho B w0 v xs p q hs (by rw [hH]; exact hx) (Nat.le_trans hB hbel.size) hown hlen fun v' w' h1 h2 => h v' w' h1 (hbel.trans h2)

def nm0 : ByteArray := ⟨#[100, 101, 115, 99, 114, 105, 112, 116, 105, 111, 110]⟩
def nm1 : ByteArray := ⟨#[114, 101, 102, 117, 110, 100, 97, 98, 108, 101]⟩
def nm2 : ByteArray := ⟨#[103, 114, 97, 99, 101, 45, 112, 101, 114, 105, 111, 100]⟩
def nm3 : ByteArray := ⟨#[97, 112, 112, 108, 105, 101, 100]⟩

def pair (b : Bool) (p q : ByteArray) : List ByteArray := if b then [p, q] else []

def attrsOf (d : ByteArray) (hr rb hg : Bool) (gt ap : ByteArray) : List ByteArray :=
  pair (!d.toList.isEmpty) nm0 d ++ pair hr nm1 (flagB rb) ++ pair hg nm2 gt ++ pair (!ap.toList.isEmpty) nm3 ap

set_option linter.unusedSimpArgs false in
set_option maxHeartbeats 1600000 in
theorem fee_any (d ap rd gt : ByteArray) (rb : Bool) (hr hg : Bool) (br bg : Nat) (sv : Value) (w : World)
    (hbr : br < w.heap.size) (hbg : bg < w.heap.size)
    (cr : hr = true → w.cell? ⟨br, 0, none⟩ = some (.bool rb)) (cg : hg = true → w.cell? ⟨bg, 0, none⟩ = some (.string gt)) :
    Calls Yba.prog 8 #[.agg #[.string d, .pointer (if hr then some ⟨br, 0, none⟩ else none), .pointer (if hg then some ⟨bg, 0, none⟩ else none), .string ap, .string rd, sv]] w
      fun e w' => ∃ v, e = .returned v ∧ Own (w.heap.size + 1) w' v (attrsOf d hr rb hg gt ap) ∧ Below w.heap.size w w' := by
  have own0 := Own.nil (w.heap.size + 1)
  obtain ⟨W, hW⟩ : ∃ W, W = w.alloc (.cells #[.string d, .pointer (if hr then some ⟨br, 0, none⟩ else none), .pointer (if hg then some ⟨bg, 0, none⟩ else none), .string ap, .string rd, sv] 31) := ⟨_, rfl⟩
  have hWs : W.heap.size = w.heap.size + 1 := by rw [hW]; simp
  have bel0 : Below (w.heap.size + 1) W W := Below.refl _ _
  have belw : Below w.heap.size w W := by rw [hW]; exact (Below.refl _ _).alloc (Nat.le_refl _) _
  have cgW : hg = true → W.cell? ⟨bg, 0, none⟩ = some (.string gt) := fun h => (belw.cell (p := ⟨bg, 0, none⟩) hbg).trans (cg h)
  subst hW
  have hbr1 : br < w.heap.size + 1 := by omega
  have hbg1 : bg < w.heap.size + 1 := by omega
  have hne1 : ¬ br = w.heap.size := by omega
  have hne2 : ¬ bg = w.heap.size := by omega
  cases hd : d.toList.isEmpty <;> cases ha : ap.toList.isEmpty <;> cases hr <;> cases hg
  all_goals
    simp only [if_true, if_false, Bool.false_eq_true] at bel0 belw hWs ⊢
    simp only [true_implies, false_implies, Bool.false_eq_true] at cr cg cgW
    go_enter Yba.func8, Yba.ntmps8
    go_wp2_with (first
      | (at_builtin; refine wpList_app2' rfl (.tmp 7) (.tmp 10) rfl _ _ _ _ _ _ _ _ rfl rfl (by simp) (by first | assumption | exact Own.nil _ _) (by assumption) (Nat.le_of_eq hWs.symm) (by simp) ?_; intro v1 w1 own1 bel1; have hc1 := bcell bel1; have hs1 := bel1.size)
      | (at_builtin; refine wpList_app2' rfl (.tmp 15) (.tmp 21) rfl _ _ _ _ _ _ _ _ rfl rfl (by simp) (by first | assumption | exact Own.nil _ _) (by assumption) (Nat.le_of_eq hWs.symm) (by simp) ?_; intro v2 w2 own2 bel2; have hc2 := bcell bel2; have hs2 := bel2.size)
      | (at_builtin; refine wpList_app2' rfl (.tmp 26) (.tmp 30) rfl _ _ _ _ _ _ _ _ rfl rfl (by simp) (by first | assumption | exact Own.nil _ _) (by assumption) (Nat.le_of_eq hWs.symm) (by simp) ?_; intro v3 w3 own3 bel3; have hc3 := bcell bel3; have hs3 := bel3.size)
      | (at_builtin; refine wpList_app2' rfl (.tmp 35) (.tmp 38) rfl _ _ _ _ _ _ _ _ rfl rfl (by simp) (by first | assumption | exact Own.nil _ _) (by assumption) (Nat.le_of_eq hWs.symm) (by simp) ?_; intro v4 w4 own4 bel4; have hc4 := bcell bel4; have hs4 := bel4.size)
      | (go_at_call 12; refine (bool_any _ _).mono ?_; rintro e w' ⟨rfl, rfl⟩)
      | (go_at_call 13; refine (dur_any _ gt _ ((Below.cell (B := w.heap.size + 1) (p := ⟨bg, 0, none⟩) (by assumption) hbg1).trans cgW)).mono ?_; rintro e w' ⟨rfl, rfl⟩))
    go_ret
    refine ⟨_, rfl, Own.cast (by first | assumption | exact Own.nil _ _) (by simp [attrsOf, pair, hd, ha, nm0, nm1, nm2, nm3]), ?_⟩
    exact belw.trans (Below.mono (by assumption) (by omega))

end Go.Proofs.Ybulkbjm
