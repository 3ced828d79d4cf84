/-
  WHAT 'LawS0116CPairs' HAS LAID IN MEMORY WHEN ITS LOOP BEGINS, AND WHAT THE LOOP GATHERS.
-/
import Derived.Test.YbulkbjmPairsC
namespace Go.Proofs.Ybulkbjm
open Go.ChangeShapes Go.WideShapes Go.ChangeAt Go.RowKit
set_option linter.unusedVariables false

def nmL : List ByteArray := [nm0, nm1, nm2, nm3]

def upTo (P : List Bool) (V : List ByteArray) : Nat → List ByteArray
  | 0 => []
  | k + 1 => upTo P V k ++ pair (P.getD k false) (nmL.getD k ByteArray.empty) (V.getD k ByteArray.empty)

theorem upTo_len (P : List Bool) (V : List ByteArray) (k : Nat) : (upTo P V k).length ≤ 2 * k := by
  induction k with
  | zero => simp [upTo]
  | succ k ih =>
    simp only [upTo, pair, List.length_append]
    split <;> simp <;> omega

theorem upTo_four (d : ByteArray) (hr rb hg : Bool) (gt ap : ByteArray) :
    upTo [!d.toList.isEmpty, hr, hg, !ap.toList.isEmpty] [d, flagB rb, gt, ap] 4 = attrsOf d hr rb hg gt ap := by
  simp [upTo, attrsOf, nmL]

theorem upTo_t {P : List Bool} {V : List ByteArray} {k : Nat} (h : P.getD k false = true) : upTo P V (k + 1) = upTo P V k ++ [nmL.getD k ByteArray.empty, V.getD k ByteArray.empty] := by
  simp only [upTo, h, pair, if_true]
theorem upTo_f {P : List Bool} {V : List ByteArray} {k : Nat} (h : P.getD k false = false) : upTo P V (k + 1) = upTo P V k := by
  simp only [upTo, h, pair, Bool.false_eq_true, if_false, List.append_nil]

/-- Names at Bn, values at Bv, the tests at Bp, the terms at T, the two pointers' cells. -/
structure Laid (wr : World) (T Bn Bv Bp : Nat) (P : List Bool) (V : List ByteArray) (c0 c1 c2 c3 c4 c5 : Value) (hr hg rb : Bool) (br bg : Nat) (gt : ByteArray) : Prop where
  names : ∀ k, k < 4 → wr.cell? ⟨Bn, k, none⟩ = some (.string (nmL.getD k ByteArray.empty))
  vals : ∀ k, k < 4 → wr.cell? ⟨Bv, k, none⟩ = some (.string (V.getD k ByteArray.empty))
  pres : ∀ k, k < 4 → wr.cell? ⟨Bp, k, none⟩ = some (.bool (P.getD k false))
  t0 : wr.cell? ⟨T, 0, none⟩ = some c0
  t1 : wr.cell? ⟨T, 1, none⟩ = some c1
  t2 : wr.cell? ⟨T, 2, none⟩ = some c2
  t3 : wr.cell? ⟨T, 3, none⟩ = some c3
  t4 : wr.cell? ⟨T, 4, none⟩ = some c4
  t5 : wr.cell? ⟨T, 5, none⟩ = some c5
  ref : hr = true → wr.cell? ⟨br, 0, none⟩ = some (.bool rb)
  gra : hg = true → wr.cell? ⟨bg, 0, none⟩ = some (.string gt)

theorem Laid.below {w0 w1 : World} {N T Bn Bv Bp : Nat} {P : List Bool} {V : List ByteArray} {c0 c1 c2 c3 c4 c5 : Value} {hr hg rb : Bool} {br bg : Nat} {gt : ByteArray}
    (h : Laid w0 T Bn Bv Bp P V c0 c1 c2 c3 c4 c5 hr hg rb br bg gt) (hb : Below N w0 w1) (hT : T < N) (hn : Bn < N) (hv : Bv < N) (hp : Bp < N) (hbr : br < N) (hbg : bg < N) :
    Laid w1 T Bn Bv Bp P V c0 c1 c2 c3 c4 c5 hr hg rb br bg gt where
  names k hk := (hb.cell (p := ⟨Bn, k, none⟩) hn).trans (h.names k hk)
  vals k hk := (hb.cell (p := ⟨Bv, k, none⟩) hv).trans (h.vals k hk)
  pres k hk := (hb.cell (p := ⟨Bp, k, none⟩) hp).trans (h.pres k hk)
  t0 := (hb.cell (p := ⟨T, 0, none⟩) hT).trans h.t0
  t1 := (hb.cell (p := ⟨T, 1, none⟩) hT).trans h.t1
  t2 := (hb.cell (p := ⟨T, 2, none⟩) hT).trans h.t2
  t3 := (hb.cell (p := ⟨T, 3, none⟩) hT).trans h.t3
  t4 := (hb.cell (p := ⟨T, 4, none⟩) hT).trans h.t4
  t5 := (hb.cell (p := ⟨T, 5, none⟩) hT).trans h.t5
  ref e := (hb.cell (p := ⟨br, 0, none⟩) hbr).trans (h.ref e)
  gra e := (hb.cell (p := ⟨bg, 0, none⟩) hbg).trans (h.gra e)

/-- What is owned stays owned behind a call that touches only new memory. -/
theorem Own.below {B : Nat} {w w' : World} {v : Value} {xs : List ByteArray} (h : Own B w v xs) (hb : Below w.heap.size w w') : Own B w' v xs := by
  refine ⟨⟨h.1.1, ?_⟩, h.2⟩
  rcases h.1.2 with hn | ⟨g, cap, cur, rfl, hbg, hgg, rest⟩
  · exact .inl hn
  · refine .inr ⟨g, cap, cur, rfl, hbg, ?_, rest⟩
    rw [hb.block g (Array.getElem?_eq_some_iff.1 hgg).1]
    exact hgg

theorem below_drewN {B : Nat} {a w : World} (h : Below B a w) (k : Nat) : Below B a (w.drewN k) := by
  induction k with
  | zero => exact h
  | succ k ih => exact ⟨h.os, h.tape, h.output, h.size, h.block⟩

theorem four {Q : Nat → Prop} (h0 : Q 0) (h1 : Q 1) (h2 : Q 2) (h3 : Q 3) : ∀ k, k < 4 → Q k := fun k hk =>
  match k, hk with
  | 0, _ => h0
  | 1, _ => h1
  | 2, _ => h2
  | 3, _ => h3

end Go.Proofs.Ybulkbjm
