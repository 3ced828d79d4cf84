/-
  WHAT THE LOOPS OF 'LawS0117CSlots' KEEP: no Go in sight but the memory.
-/
import Derived.Test.YbulkbkaSlotsB
import Derived.LaidEql
namespace Go.Proofs.Ybulkbka
open Go.ChangeShapes Go.WideShapes Go.ChangeAt Go.RowKit
set_option linter.unusedVariables false

theorem Yba.info37 : (Yba.prog.info? 37).map (fun i => (i.zero, i.size, i.bytes)) = some (some (.pointer none), 1, 8) := by kernel_rfl
theorem Yba.info48 : (Yba.prog.info? 48).map (fun i => (i.zero, i.size, i.bytes)) = some (some (.int .u32 0), 1, 4) := by kernel_rfl
theorem Yba.info2 : (Yba.prog.info? 2).map (fun i => (i.zero, i.size, i.bytes)) = some (some (.int .i64 0), 1, 8) := by kernel_rfl

/-- A place z and the chain q that is wanted there. -/
def GoodAt (ps : List (Option Addr)) (z : Int) (q : Option Addr) : Prop :=
  (∃ k : Nat, k ≤ 1024 ∧ z = k ∧ q = none) ∨ ∃ s : Nat, s < ps.length ∧ (z = inC s ∨ z = inH s) ∧ ps.getD s none = q

structure St (w wr : World) (C P T m k : Nat) (ps : List (Option Addr)) (zs : List Int) (qs : List (Option Addr)) : Prop where
  lz : zs.length = m
  lq : qs.length = m
  rc : Row wr C 37 (ps.map Value.pointer)
  rp : Row wr P 48 (zs.map (Value.int .u32))
  rt : Row wr T 37 (qs.map Value.pointer)
  good : ∀ j, j < k → GoodAt ps (zs.getD j 0) (qs.getD j none)
  rest : ∀ j, k ≤ j → qs.getD j none = none
  bel : Below w.heap.size w wr

theorem ptr_cell {w : World} {g : Nat} {ps : List (Option Addr)} (h : Row w g 37 (ps.map Value.pointer)) (j : Nat) (hj : j < ps.length) : w.cell? ⟨g, j, none⟩ = some (.pointer (ps.getD j none)) := by
  rw [h.cell]; simp [hj]
theorem u32_cell {w : World} {g : Nat} {zs : List Int} (h : Row w g 48 (zs.map (Value.int .u32))) (j : Nat) (hj : j < zs.length) : w.cell? ⟨g, j, none⟩ = some (.int .u32 (zs.getD j 0)) := by
  rw [h.cell]; simp [hj]

theorem getD_set_same {α : Type} (l : List α) (k : Nat) (x d : α) (h : k < l.length) : (l.set k x).getD k d = x := by
  simp [h]
theorem getD_set_other {α : Type} (l : List α) (k j : Nat) (x d : α) (h : k ≠ j) : (l.set k x).getD j d = l.getD j d := by
  simp [List.getElem?_set_ne h]

theorem St.start {w wr : World} {C m : Nat} {ps : List (Option Addr)} (hC : Row wr C 37 (ps.map Value.pointer)) (hb : Below w.heap.size w wr) :
    St w ((wr.alloc (.cells (madeCells #[.int .u32 0] m) 48)).alloc (.cells (madeCells #[.pointer none] m) 37)) C wr.heap.size (wr.heap.size + 1) m 0 ps (List.replicate m 0) (List.replicate m none) where
  lz := by simp
  lq := by simp
  rc := (hC.alloc _).alloc _
  rp := by
    have := (Row.made wr 48 m (.int .u32 0)).alloc (.cells (madeCells #[.pointer none] m) 37)
    simpa using this
  rt := by
    have := Row.made (wr.alloc (.cells (madeCells #[.int .u32 0] m) 48)) 37 m (.pointer none)
    simpa using this
  good j hj := by omega
  rest j hj := by simp [List.getElem?_replicate]; split <;> rfl
  bel := (hb.alloc hb.size _).alloc (by simp; have := hb.size; omega) _

theorem St.step0 {w wr : World} {C P T m k : Nat} {ps : List (Option Addr)} {zs : List Int} {qs : List (Option Addr)} (h : St w wr C P T m k ps zs qs) (hk : k < m) (hm : m ≤ 1024)
    (h1 : C ≠ P) (h2 : T ≠ P) (hw : w.heap.size ≤ P) : St w (wr.setCell ⟨P, k, none⟩ (.int .u32 k)) C P T m (k + 1) ps (zs.set k k) qs where
  lz := by simpa using h.lz
  lq := h.lq
  rc := h.rc.other _ _ _ h1
  rp := by rw [List.map_set]; exact h.rp.set k _
  rt := h.rt.other _ _ _ h2
  good j hj := by
    by_cases e : k = j
    · subst e
      rw [getD_set_same _ _ _ _ (by have := h.lz; omega), h.rest k (Nat.le_refl _)]
      exact .inl ⟨k, by omega, rfl, rfl⟩
    · rw [getD_set_other _ _ _ _ _ e]; exact h.good j (by omega)
  rest j hj := h.rest j (by omega)
  bel := h.bel.setCell (by exact hw) _

theorem St.step1 {w wr : World} {C P T m k : Nat} {ps : List (Option Addr)} {zs : List Int} {qs : List (Option Addr)} (h : St w wr C P T m k ps zs qs) (hk : k < m)
    (h1 : C ≠ P) (h2 : T ≠ P) (h3 : C ≠ T) (hw : w.heap.size ≤ P) (hw2 : w.heap.size ≤ T) (s : Nat) (hs : s < ps.length) (z : Int) (hz : z = inC s ∨ z = inH s) :
    St w ((wr.setCell ⟨P, k, none⟩ (.int .u32 z)).setCell ⟨T, k, none⟩ (.pointer (ps.getD s none))) C P T m (k + 1) ps (zs.set k z) (qs.set k (ps.getD s none)) where
  lz := by simpa using h.lz
  lq := by simpa using h.lq
  rc := (h.rc.other _ _ _ h1).other _ _ _ h3
  rp := by rw [List.map_set]; exact (h.rp.set k _).other _ _ _ (Ne.symm h2)
  rt := by rw [List.map_set]; exact (h.rt.other _ _ _ h2).set k _
  good j hj := by
    by_cases e : k = j
    · subst e
      rw [getD_set_same _ _ _ _ (by have := h.lz; omega), getD_set_same _ _ _ _ (by have := h.lq; omega)]
      exact .inr ⟨s, hs, hz, rfl⟩
    · rw [getD_set_other _ _ _ _ _ e, getD_set_other _ _ _ _ _ e]; exact h.good j (by omega)
  rest j hj := by rw [getD_set_other _ _ _ _ _ (by omega)]; exact h.rest j (by omega)
  bel := (h.bel.setCell (by exact hw) _).setCell (by exact hw2) _

/-- 'chainAt' at a good place. -/
theorem chain_good (cb P C m j nc : Nat) (ps : List (Option Addr)) (z : Int) (q : Option Addr) (w : World) (hj : j < m) (hl : ps.length = nc) (hn : nc ≤ 8) (c3 : w.cell? ⟨cb, 3, none⟩ = some (.slice (some ⟨P, 0, none⟩) m m))
    (c5 : w.cell? ⟨cb, 5, none⟩ = some (.slice (some ⟨C, 0, none⟩) nc nc)) (cz : w.cell? ⟨P, j, none⟩ = some (.int .u32 z))
    (hC : ∀ s, s < nc → w.cell? ⟨C, s, none⟩ = some (.pointer (ps.getD s none))) (hg : GoodAt ps z q) :
    Calls Yba.prog 9 #[.pointer (some ⟨cb, 0, none⟩), .int .i64 j] w fun e w' => e = .returned (.pointer q) ∧ ∃ n, w' = w.drewN n := by
  rcases hg with ⟨k, hk, rfl, rfl⟩ | ⟨s, hs, hz, rfl⟩
  · exact chain_none cb P m j _ w hj c3 cz (and_0 k hk)
  · rcases hz with rfl | rfl
    · exact chain_some cb P C m nc j s _ _ w hj (by omega) hn c3 c5 cz (hC s (by omega)) (and_C s (by omega)) (at_C s (by omega))
    · exact chain_some cb P C m nc j s _ _ w hj (by omega) hn c3 c5 cz (hC s (by omega)) (and_H s (by omega)) (at_H s (by omega))

theorem Yba.tell45 : (Yba.prog.info? 45).isSome = true := by kernel_rfl
/-- 'p != p' at two pointers that are one. -/
theorem neq_same (q : Option Addr) (w : World) : (binOp .neq 37 (.pointer q) (.pointer q)).run Yba.prog w = .ok (.bool false) w := by
  obtain ⟨i, hi⟩ := Option.isSome_iff_exists.1 Yba.tell45
  have h : ∀ d : Nat, (Op.equalIn (d + 1) 37 (.pointer q) (.pointer q)).run Yba.prog w = .ok true w := fun d => by
    cases q
    · simp [Op.equalIn, run_underlying Yba.underlying37]
    · simp [Op.equalIn, run_underlying Yba.underlying37, sizeOf, typeInfo, hi, run_sameAddr_same]
  simp only [binOp]
  simp [Op.equal, Op.maxDepth, h 9999]

/-- What stands when all is laid: the chunk at cb. -/
structure Fin (w wr : World) (cb C P T m nc : Nat) (ps : List (Option Addr)) (zs : List Int) (qs : List (Option Addr)) : Prop where
  c3 : wr.cell? ⟨cb, 3, none⟩ = some (.slice (some ⟨P, 0, none⟩) m m)
  c5 : wr.cell? ⟨cb, 5, none⟩ = some (.slice (some ⟨C, 0, none⟩) nc nc)
  pc : ∀ j, j < m → wr.cell? ⟨P, j, none⟩ = some (.int .u32 (zs.getD j 0))
  tc : ∀ j, j < m → wr.cell? ⟨T, j, none⟩ = some (.pointer (qs.getD j none))
  cc : ∀ j, j < nc → wr.cell? ⟨C, j, none⟩ = some (.pointer (ps.getD j none))
  good : ∀ j, j < m → GoodAt ps (zs.getD j 0) (qs.getD j none)
  bel : Below w.heap.size w wr

theorem below_drewN {B : Nat} {a w : World} (h : Below B a w) (k : Nat) : Below B a (w.drewN k) := by
  induction k with
  | zero => exact h
  | succ k ih => exact ⟨h.os, h.tape, h.output, h.size, h.block⟩

theorem Fin.drewN {w wr : World} {cb C P T m nc : Nat} {ps : List (Option Addr)} {zs : List Int} {qs : List (Option Addr)} (h : Fin w wr cb C P T m nc ps zs qs) (n : Nat) : Fin w (wr.drewN n) cb C P T m nc ps zs qs where
  c3 := by simpa using h.c3
  c5 := by simpa using h.c5
  pc j hj := by simpa using h.pc j hj
  tc j hj := by simpa using h.tc j hj
  cc j hj := by simpa using h.cc j hj
  good := h.good
  bel := below_drewN h.bel n

theorem Fin.start {w wr : World} {C P T m nc : Nat} {ps : List (Option Addr)} {zs : List Int} {qs : List (Option Addr)} (h : St w wr C P T m m ps zs qs) (hn : ps.length = nc) (o : Obj) (cs : Array Value)
    (h3 : cs[3]? = some (.slice (some ⟨P, 0, none⟩) m m)) (h5 : cs[5]? = some (.slice (some ⟨C, 0, none⟩) nc nc)) :
    Fin w ((wr.alloc o).alloc (.cells cs 53)) (wr.heap.size + 1) C P T m nc ps zs qs where
  c3 := by rw [World.cell?_alloc_at (w := wr.alloc o) cs 53 (wr.heap.size + 1) 3 (by simp)]; exact h3
  c5 := by rw [World.cell?_alloc_at (w := wr.alloc o) cs 53 (wr.heap.size + 1) 5 (by simp)]; exact h5
  pc j hj := u32_cell ((h.rp.alloc _).alloc _) j (by have := h.lz; omega)
  tc j hj := ptr_cell ((h.rt.alloc _).alloc _) j (by have := h.lq; omega)
  cc j hj := ptr_cell ((h.rc.alloc _).alloc _) j (by omega)
  good := h.good
  bel := (h.bel.alloc h.bel.size _).alloc (by simp; have := h.bel.size; omega) _

end Go.Proofs.Ybulkbka
