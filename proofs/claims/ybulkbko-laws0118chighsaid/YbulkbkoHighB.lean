/-
  WHAT THE LOOPS OF 'LawS0118CHigh' KEEP: no Go in sight but the memory.
-/
import Derived.Test.YbulkbkoHighA
namespace Go.Proofs.Ybulkbko
open Go.ChangeShapes Go.WideShapes Go.ChangeAt Go.RowKit
set_option linter.unusedVariables false

theorem Row.below {w w' : World} {g e B : Nat} {xs : List Value} (h : Row w g e xs) (hb : Below B w w') (hg : g < B) : Row w' g e xs := by
  unfold Row
  rw [hb.block g hg]; exact h

/-- A slice of pairs of floats that came in. -/
def Pairs (w : World) (a : Option Addr) (len : Nat) (c m : Nat → Nat) : Prop :=
  len = 0 ∨ ∃ b off, a = some ⟨b, off, none⟩ ∧ b < w.heap.size ∧ ∀ j, j < len → w.cell? ⟨b, off + j * 2, none⟩ = some (.float .f64 (c j)) ∧ w.cell? ⟨b, off + j * 2 + 1, none⟩ = some (.float .f64 (m j))

/-! ### the guests -/
def zG (n : Nat) : Array Value := madeCells #[.string ⟨#[]⟩, .int .i64 0, .float .f64 0, .float .f64 0, .float .f64 0, .float .f64 0] (n * 6)

theorem Yba.info44 : (Yba.prog.info? 44).map (fun i => (i.zero, i.size, i.bytes)) = some (some (.agg #[.string ⟨#[]⟩, .int .i64 0, .float .f64 0, .float .f64 0, .float .f64 0, .float .f64 0]), 6, 56) := by kernel_rfl
theorem Yba.info42 : (Yba.prog.info? 42).map (fun i => (i.zero, i.size, i.bytes)) = some (some (.agg #[.float .f64 0, .float .f64 0]), 2, 16) := by kernel_rfl

theorem mk38 (n : Nat) (h : n ≤ 1024) (w : World) : (Instr.makeSlice 38 (.int .i64 (n : Int)) (.int .i64 (n : Int))).run Yba.prog w = .ok (.slice (some ⟨w.heap.size, 0, none⟩) n n) (w.alloc (.cells (zG n) 44)) := by
  obtain ⟨i0, hi0, hz0, hz1, hz2⟩ := info_parts Yba.info44
  have := run_make (P := Yba.prog) w 38 44 i0 _ Yba.underlying38 hi0 hz0 .i64 .i64 n n (by omega) (Int.le_refl _) (by rw [hz2]; omega) (by omega)
  simp only [Int.toNat_natCast, hz1] at this
  exact this

def Gst (wr : World) (G n k : Nat) (c m : Nat → Nat) : Prop :=
  ∃ xs : List Value, xs.length = n * 6 ∧ Row wr G 44 xs ∧ ∀ j, j < k → xs[j * 6 + 4]? = some (.float .f64 (c j)) ∧ xs[j * 6 + 5]? = some (.float .f64 (m j))

theorem Gst.start (w : World) (n : Nat) (c m : Nat → Nat) : Gst (w.alloc (.cells (zG n) 44)) w.heap.size n 0 c m :=
  ⟨(zG n).toList, by simp [zG, size_madeCells], Row.newAt w (zG n).toList 44 _ rfl, fun j hj => by omega⟩
theorem Gst.any {wr : World} {G n k : Nat} {c m : Nat → Nat} (h : Gst wr G n k c m) (i : Nat) (hi : i < n * 6) : ∃ v, wr.cell? ⟨G, i, none⟩ = some v := by
  obtain ⟨xs, hl, hr, _⟩ := h
  rw [hr.cell]
  exact ⟨xs[i]'(by omega), by simp [hl, hi]⟩
theorem Gst.frozen {wr : World} {G n k : Nat} {c m : Nat → Nat} (h : Gst wr G n k c m) (i : Nat) : wr.frozen? ⟨G, i, none⟩ = false := by
  obtain ⟨xs, _, hr, _⟩ := h
  exact hr.frozen i
theorem Gst.step {wr : World} {G n k : Nat} {c m : Nat → Nat} (h : Gst wr G n k c m) (hk : k < n) :
    Gst ((wr.setCell ⟨G, k * 6 + 4, none⟩ (.float .f64 (c k))).setCell ⟨G, k * 6 + 5, none⟩ (.float .f64 (m k))) G n (k + 1) c m := by
  obtain ⟨xs, hl, hr, hx⟩ := h
  refine ⟨_, ?_, (hr.set _ _).set _ _, fun j hj => ?_⟩
  · simpa using hl
  · by_cases e : j = k
    · subst e
      constructor
      · rw [List.getElem?_set_ne (by omega), List.getElem?_set_self (by omega)]
      · rw [List.getElem?_set_self (by simp; omega)]
    · obtain ⟨h1, h2⟩ := hx j (by omega)
      constructor
      · rw [List.getElem?_set_ne (by omega), List.getElem?_set_ne (by omega)]; exact h1
      · rw [List.getElem?_set_ne (by omega), List.getElem?_set_ne (by omega)]; exact h2
theorem Gst.drew {wr : World} {G n k : Nat} {c m : Nat → Nat} (h : Gst wr G n k c m) : Gst wr.drew G n k c m := h
theorem Gst.below {wr w' : World} {B G n k : Nat} {c m : Nat → Nat} (h : Gst wr G n k c m) (hb : Below B wr w') (hg : G < B) : Gst w' G n k c m := by
  obtain ⟨xs, hl, hr, hx⟩ := h
  exact ⟨xs, hl, hr.below hb hg, hx⟩
theorem Gst.lt {wr : World} {G n k : Nat} {c m : Nat → Nat} (h : Gst wr G n k c m) : G < wr.heap.size := by
  obtain ⟨xs, _, hr, _⟩ := h
  exact hr.lt
theorem Gst.cell {wr : World} {G n k : Nat} {c m : Nat → Nat} (h : Gst wr G n k c m) (j : Nat) (hj : j < k) : wr.cell? ⟨G, j * 6 + 4, none⟩ = some (.float .f64 (c j)) ∧ wr.cell? ⟨G, j * 6 + 5, none⟩ = some (.float .f64 (m j)) := by
  obtain ⟨xs, _, hr, hx⟩ := h
  rw [hr.cell, hr.cell]
  exact hx j hj

/-! ### the window -/
def zH (n : Nat) : Array Value := madeCells #[.float .f64 0, .float .f64 0] (n * 2)

theorem mk46 (n : Nat) (h : n ≤ 1024) (w : World) : (Instr.makeSlice 46 (.int .i64 (n : Int)) (.int .i64 (n : Int))).run Yba.prog w = .ok (.slice (some ⟨w.heap.size, 0, none⟩) n n) (w.alloc (.cells (zH n) 42)) := by
  obtain ⟨i0, hi0, hz0, hz1, hz2⟩ := info_parts Yba.info42
  have := run_make (P := Yba.prog) w 46 42 i0 _ Yba.underlying46 hi0 hz0 .i64 .i64 n n (by omega) (Int.le_refl _) (by rw [hz2]; omega) (by omega)
  simp only [Int.toNat_natCast, hz1] at this
  exact this

theorem zH_at (n i : Nat) (h : i < n * 2) : (zH n).toList[i]? = some (.float .f64 0) := by
  have h2 : i % 2 = 0 ∨ i % 2 = 1 := by omega
  rcases h2 with e | e <;> simp [zH, madeCells, h, e]

def Hst (wr : World) (H n k : Nat) (c m : Nat → Nat) : Prop :=
  ∃ xs : List Value, xs.length = n * 2 ∧ Row wr H 42 xs ∧ ∀ j, j < n → xs[j * 2]? = some (.float .f64 (if j < k then c j else 0)) ∧ xs[j * 2 + 1]? = some (.float .f64 (if j < k then m j else 0))

theorem Hst.start (w : World) (n g : Nat) (c m : Nat → Nat) (hg : g = w.heap.size) : Hst (w.alloc (.cells (zH n) 42)) g n 0 c m :=
  ⟨(zH n).toList, by simp [zH, size_madeCells], Row.newAt w (zH n).toList 42 _ hg, fun j hj => ⟨by rw [zH_at n _ (by omega)]; simp, by rw [zH_at n _ (by omega)]; simp⟩⟩
theorem Hst.any {wr : World} {G n k : Nat} {c m : Nat → Nat} (h : Hst wr G n k c m) (i : Nat) (hi : i < n * 2) : ∃ v, wr.cell? ⟨G, i, none⟩ = some v := by
  obtain ⟨xs, hl, hr, _⟩ := h
  rw [hr.cell]
  exact ⟨xs[i]'(by omega), by simp [hl, hi]⟩
theorem Hst.frozen {wr : World} {G n k : Nat} {c m : Nat → Nat} (h : Hst wr G n k c m) (i : Nat) : wr.frozen? ⟨G, i, none⟩ = false := by
  obtain ⟨xs, _, hr, _⟩ := h
  exact hr.frozen i
theorem Hst.step {wr : World} {G n k : Nat} {c m : Nat → Nat} (h : Hst wr G n k c m) (hk : k < n) :
    Hst ((wr.setCell ⟨G, k * 2, none⟩ (.float .f64 (c k))).setCell ⟨G, k * 2 + 1, none⟩ (.float .f64 (m k))) G n (k + 1) c m := by
  obtain ⟨xs, hl, hr, hx⟩ := h
  refine ⟨_, ?_, (hr.set _ _).set _ _, fun j hj => ?_⟩
  · simpa using hl
  · by_cases e : j = k
    · subst e
      constructor
      · rw [List.getElem?_set_ne (by omega), List.getElem?_set_self (by omega), if_pos (by omega)]
      · rw [List.getElem?_set_self (by simp; omega), if_pos (by omega)]
    · obtain ⟨h1, h2⟩ := hx j hj
      have hif : (if j < k + 1 then c j else 0) = (if j < k then c j else 0) := by
        by_cases q : j < k
        · rw [if_pos q, if_pos (by omega)]
        · rw [if_neg q, if_neg (by omega)]
      have hif' : (if j < k + 1 then m j else 0) = (if j < k then m j else 0) := by
        by_cases q : j < k
        · rw [if_pos q, if_pos (by omega)]
        · rw [if_neg q, if_neg (by omega)]
      rw [hif, hif']
      constructor
      · rw [List.getElem?_set_ne (by omega), List.getElem?_set_ne (by omega)]; exact h1
      · rw [List.getElem?_set_ne (by omega), List.getElem?_set_ne (by omega)]; exact h2
theorem Hst.skip {wr : World} {G n k : Nat} {c m : Nat → Nat} (h : Hst wr G n k c m) (hc : c k = 0) (hm : m k = 0) : Hst wr G n (k + 1) c m := by
  obtain ⟨xs, hl, hr, hx⟩ := h
  refine ⟨xs, hl, hr, fun j hj => ?_⟩
  by_cases e : j = k
  · subst e
    have := hx j hj
    rw [if_neg (Nat.lt_irrefl _), if_neg (Nat.lt_irrefl _)] at this
    rw [if_pos (by omega), if_pos (by omega), hc, hm]
    exact this
  · have := hx j hj
    by_cases q : j < k
    · rw [if_pos q, if_pos q] at this
      rw [if_pos (by omega), if_pos (by omega)]; exact this
    · rw [if_neg q, if_neg q] at this
      rw [if_neg (by omega), if_neg (by omega)]; exact this
theorem Hst.drew {wr : World} {G n k : Nat} {c m : Nat → Nat} (h : Hst wr G n k c m) : Hst wr.drew G n k c m := h
theorem Hst.below {wr w' : World} {B G n k : Nat} {c m : Nat → Nat} (h : Hst wr G n k c m) (hb : Below B wr w') (hg : G < B) : Hst w' G n k c m := by
  obtain ⟨xs, hl, hr, hx⟩ := h
  exact ⟨xs, hl, hr.below hb hg, hx⟩
theorem Hst.cell {wr : World} {G n : Nat} {c m : Nat → Nat} (h : Hst wr G n n c m) (j : Nat) (hj : j < n) : wr.cell? ⟨G, j * 2, none⟩ = some (.float .f64 (c j)) ∧ wr.cell? ⟨G, j * 2 + 1, none⟩ = some (.float .f64 (m j)) := by
  obtain ⟨xs, _, hr, hx⟩ := h
  rw [hr.cell, hr.cell]
  have := hx j hj
  rw [if_pos hj, if_pos hj] at this
  exact this

/-! ### the placement -/
theorem pl_closed : ((Yba.prog.info? 109).map fun i => match i.zero with | some (.agg cs) => decide (12 ≤ cs.size) | _ => false) = some true := by kernel_rfl
theorem pl_zero : ∃ cs : Array Value, 12 ≤ cs.size ∧ ∀ w, (zeroValue 109).run Yba.prog w = .ok (.agg cs) w := by
  obtain ⟨i, hi, hz⟩ := Option.map_eq_some_iff.1 pl_closed
  split at hz
  · rename_i cs hcs
    exact ⟨cs, by simpa using hz, fun w => by simp [zeroValue, typeInfo, hi, hcs]⟩
  · cases hz

theorem plc0 {cs : Array Value} (h : 12 ≤ cs.size) (p q : Value) : ((cs.setIfInBounds 0 p).setIfInBounds 11 q)[0]? = some p := by
  rw [Array.getElem?_setIfInBounds_ne (by omega), Array.getElem?_setIfInBounds_self_of_lt (by omega)]
theorem plc11 {cs : Array Value} (h : 12 ≤ cs.size) (p q : Value) : ((cs.setIfInBounds 0 p).setIfInBounds 11 q)[11]? = some q := by
  rw [Array.getElem?_setIfInBounds_self_of_lt (by simp; omega)]

theorem cell_later' {w x : World} {a : Addr} {v : Value} (h : w.cell? a = some v) (hb : Below w.heap.size w x) : x.cell? a = some v :=
  (hb.cell (p := a) (World.block_lt_of_cell? w a h)).trans h

/-- All is laid, no window. -/
structure FinN (w wr : World) (PL S Wo G n : Nat) (c m : Nat → Nat) : Prop where
  p0 : wr.cell? ⟨PL, 0, none⟩ = some (.pointer (some ⟨S, 0, none⟩))
  p11 : wr.cell? ⟨PL, 11, none⟩ = some (.pointer (some ⟨Wo, 0, none⟩))
  hw : wr.cell? ⟨Wo, 4, none⟩ = some (.slice none 0 0)
  s1 : wr.cell? ⟨S, 1, none⟩ = some (.slice (some ⟨G, 0, none⟩) n n)
  gc : ∀ j, j < n → wr.cell? ⟨G, j * 6 + 4, none⟩ = some (.float .f64 (c j)) ∧ wr.cell? ⟨G, j * 6 + 5, none⟩ = some (.float .f64 (m j))
  bel : Below w.heap.size w wr

theorem FinN.below {w wr x : World} {PL S Wo G n : Nat} {c m : Nat → Nat} (h : FinN w wr PL S Wo G n c m) (hb : Below wr.heap.size wr x) : FinN w x PL S Wo G n c m where
  p0 := cell_later' h.p0 hb
  p11 := cell_later' h.p11 hb
  hw := cell_later' h.hw hb
  s1 := cell_later' h.s1 hb
  gc j hj := ⟨cell_later' (h.gc j hj).1 hb, cell_later' (h.gc j hj).2 hb⟩
  bel := h.bel.trans (hb.mono h.bel.size)

/-- All is laid, with a window. -/
structure FinS (w wr : World) (PL Wo Hs n : Nat) (c m : Nat → Nat) : Prop where
  p11 : wr.cell? ⟨PL, 11, none⟩ = some (.pointer (some ⟨Wo, 0, none⟩))
  hw : wr.cell? ⟨Wo, 4, none⟩ = some (.slice (some ⟨Hs, 0, none⟩) n n)
  hc : ∀ j, j < n → wr.cell? ⟨Hs, j * 2, none⟩ = some (.float .f64 (c j)) ∧ wr.cell? ⟨Hs, j * 2 + 1, none⟩ = some (.float .f64 (m j))
  bel : Below w.heap.size w wr

theorem FinS.below {w wr x : World} {PL Wo Hs n : Nat} {c m : Nat → Nat} (h : FinS w wr PL Wo Hs n c m) (hb : Below wr.heap.size wr x) : FinS w x PL Wo Hs n c m where
  p11 := cell_later' h.p11 hb
  hw := cell_later' h.hw hb
  hc j hj := ⟨cell_later' (h.hc j hj).1 hb, cell_later' (h.hc j hj).2 hb⟩
  bel := h.bel.trans (hb.mono h.bel.size)

theorem FinN.start {w wr : World} {G n : Nat} {c m : Nat → Nat} (hg : Gst wr G n n c m) (hb : Below w.heap.size w wr) (cw cs cp : Array Value)
    (h4 : cw[4]? = some (.slice none 0 0)) (h1 : cs[1]? = some (.slice (some ⟨G, 0, none⟩) n n)) (h0 : cp[0]? = some (.pointer (some ⟨wr.heap.size + 1, 0, none⟩))) (h11 : cp[11]? = some (.pointer (some ⟨wr.heap.size, 0, none⟩))) :
    FinN w (((wr.alloc (.cells cw 48)).alloc (.cells cs 53)).alloc (.cells cp 109)) (wr.heap.size + 1 + 1) (wr.heap.size + 1) wr.heap.size G n c m where
  p0 := by have := (Row.newAt ((wr.alloc (.cells cw 48)).alloc (.cells cs 53)) cp.toList 109 (wr.heap.size + 1 + 1) (by simp)).cell 0; simp at this; rw [this]; simpa using h0
  p11 := by have := (Row.newAt ((wr.alloc (.cells cw 48)).alloc (.cells cs 53)) cp.toList 109 (wr.heap.size + 1 + 1) (by simp)).cell 11; simp at this; rw [this]; simpa using h11
  hw := by have := (((Row.newAt wr cw.toList 48 wr.heap.size rfl).alloc (.cells cs 53)).alloc (.cells cp 109)).cell 4; simp at this; rw [this]; simpa using h4
  s1 := by have := ((Row.newAt (wr.alloc (.cells cw 48)) cs.toList 53 (wr.heap.size + 1) (by simp)).alloc (.cells cp 109)).cell 1; simp at this; rw [this]; simpa using h1
  gc j hj := by
    have hb3 : Below wr.heap.size wr (((wr.alloc (.cells cw 48)).alloc (.cells cs 53)).alloc (.cells cp 109)) := (((Below.refl _ _).alloc (Nat.le_refl _) _).alloc (by simp) _).alloc (by simp; omega) _
    exact ⟨cell_later' (hg.cell j hj).1 hb3, cell_later' (hg.cell j hj).2 hb3⟩
  bel := ((hb.alloc hb.size _).alloc (by simp; have := hb.size; omega) _).alloc (by simp; have := hb.size; omega) _

end Go.Proofs.Ybulkbko
