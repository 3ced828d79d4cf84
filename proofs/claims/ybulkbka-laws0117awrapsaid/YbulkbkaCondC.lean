/-
  'zzs0117abuild' (6): a theorem a way through its two tests.
-/
import Derived.Test.YbulkbkaCondB
import Derived.Deep.RegionHeld3
import Derived.StillTactics
namespace Go.Proofs.Ybulkbka
open Go.ChangeShapes Go.WideShapes Go.ChangeAt Go.RowKit
set_option linter.unusedVariables false

theorem Yba.info25 : (Yba.prog.info? 25).map (fun i => (i.zero, i.size, i.bytes)) = some (some (.agg #[.int .u64 0, .int .i32 0]), 2, 16) := by kernel_rfl
theorem Yba.info29 : (Yba.prog.info? 29).map (fun i => (i.zero, i.size, i.bytes)) = some (some (.agg #[.string ⟨#[]⟩, .string ⟨#[]⟩, .int .i64 0, .int .u64 0, .int .i32 0, .slice none 0 0, .slice none 0 0]), 7, 104) := by kernel_rfl

def zV (n : Nat) : Array Value := madeCells #[.int .u64 0, .int .i32 0] (n * 2)
def zP (n : Nat) : Array Value := madeCells #[.string ⟨#[]⟩, .string ⟨#[]⟩, .int .i64 0, .int .u64 0, .int .i32 0, .slice none 0 0, .slice none 0 0] (n * 7)

theorem mk26 (n : Nat) (h : n ≤ 3) (w : World) : (Instr.makeSlice 26 (.int .i64 (n : Int)) (.int .i64 (n : Int))).run Yba.prog w = .ok (.slice (some ⟨w.heap.size, 0, none⟩) n n) (w.alloc (.cells (zV n) 25)) := by
  obtain ⟨i0, hi0, hz0, hz1, hz2⟩ := info_parts Yba.info25
  have := run_make (P := Yba.prog) w 26 25 i0 _ Yba.underlying26 hi0 hz0 .i64 .i64 n n (by omega) (Int.le_refl _) (by rw [hz2]; omega) (by omega)
  simp only [Int.toNat_natCast, hz1] at this
  exact this
theorem mk27 (n : Nat) (h : n ≤ 3) (w : World) : (Instr.makeSlice 27 (.int .i64 (n : Int)) (.int .i64 (n : Int))).run Yba.prog w = .ok (.slice (some ⟨w.heap.size, 0, none⟩) n n) (w.alloc (.cells (zP n) 29)) := by
  obtain ⟨i0, hi0, hz0, hz1, hz2⟩ := info_parts Yba.info29
  have := run_make (P := Yba.prog) w 27 29 i0 _ Yba.underlying27 hi0 hz0 .i64 .i64 n n (by omega) (Int.le_refl _) (by rw [hz2]; omega) (by omega)
  simp only [Int.toNat_natCast, hz1] at this
  exact this

theorem op_wrap (x : Int) (w : World) : Calls Yba.prog 10 #[.int .u8 (IntKind.u8.wrap x)] w fun e w' => (∃ s : ByteArray, e = .returned (.string s)) ∧ w' = w :=
  op_any _ w (by rw [IntKind.wrap_u8']; omega) (by rw [IntKind.wrap_u8']; omega)

theorem Row.seven {w : World} {g e : Nat} {c0 c1 c2 c3 c4 c5 c6 : Value} (h : Row w g e [c0, c1, c2, c3, c4, c5, c6]) : w.cell? ⟨g, 0, none⟩ = some c0 ∧ w.cell? ⟨g, 1, none⟩ = some c1 ∧ w.cell? ⟨g, 2, none⟩ = some c2 ∧
    w.cell? ⟨g, 3, none⟩ = some c3 ∧ w.cell? ⟨g, 4, none⟩ = some c4 ∧ w.cell? ⟨g, 5, none⟩ = some c5 ∧ w.cell? ⟨g, 6, none⟩ = some c6 :=
  ⟨h.cell 0, h.cell 1, h.cell 2, h.cell 3, h.cell 4, h.cell 5, h.cell 6⟩

/-- What the loop over the parts keeps. -/
structure LI (w wr : World) (PB CB RB n : Nat) (cs : List Value) : Prop where
  parts : ∃ xs, xs.length = n * 7 ∧ Row wr PB 29 xs
  cond : Row wr CB 29 cs
  res : Row wr RB 29 [.string ⟨#[]⟩, .string ⟨#[]⟩, .int .i64 0, .int .u64 0, .int .i32 0, .slice none 0 0, .slice none 0 0]
  bel : Below w.heap.size w wr

theorem LI.stored {w wr : World} {PB CB RB n : Nat} {cs : List Value} (h : LI w wr PB CB RB n cs) (j : Nat) (u : Value) (h1 : CB ≠ PB) (h2 : RB ≠ PB) (h3 : w.heap.size ≤ PB) : LI w (wr.setCell ⟨PB, j, none⟩ u) PB CB RB n cs where
  parts := by
    obtain ⟨xs, hl, hr⟩ := h.parts
    exact ⟨xs.set j u, by simpa using hl, hr.set j u⟩
  cond := h.cond.other _ _ _ h1
  res := h.res.other _ _ _ h2
  bel := h.bel.setCell (by exact h3) _

theorem LI.drew {w wr : World} {PB CB RB n : Nat} {cs : List Value} (h : LI w wr PB CB RB n cs) : LI w wr.drew PB CB RB n cs := ⟨h.parts, h.cond, h.res, h.bel.drew⟩
theorem LI.stored7 {w wr : World} {PB CB RB n : Nat} {cs : List Value} (h : LI w wr PB CB RB n cs) (j : Nat) (u0 u1 u2 u3 u4 u5 u6 : Value) (h1 : CB ≠ PB) (h2 : RB ≠ PB) (h3 : w.heap.size ≤ PB) :
    LI w (((((((wr.setCell ⟨PB, j, none⟩ u0).setCell ⟨PB, j + 1, none⟩ u1).setCell ⟨PB, j + 2, none⟩ u2).setCell ⟨PB, j + 3, none⟩ u3).setCell ⟨PB, j + 4, none⟩ u4).setCell ⟨PB, j + 5, none⟩ u5).setCell ⟨PB, j + 6, none⟩ u6) PB CB RB n cs :=
  ((((((h.stored _ _ h1 h2 h3).stored _ _ h1 h2 h3).stored _ _ h1 h2 h3).stored _ _ h1 h2 h3).stored _ _ h1 h2 h3).stored _ _ h1 h2 h3).stored _ _ h1 h2 h3

theorem LI.cell {w wr : World} {PB CB RB n : Nat} {cs : List Value} (h : LI w wr PB CB RB n cs) (j : Nat) (hj : j < n * 7) : ∃ v, wr.cell? ⟨PB, j, none⟩ = some v := by
  obtain ⟨xs, hl, hr⟩ := h.parts
  rw [hr.cell]
  exact ⟨xs[j]'(by omega), by simp [hl, hj]⟩

set_option maxHeartbeats 1600000 in
set_option maxRecDepth 100000 in
theorem build_11 (op : Int) (col : ByteArray) (sl : Int) (nv np : Int) (m n : Nat) (w : World) (o0 : 0 ≤ op) (o1 : op ≤ 255) (v0 : 0 ≤ nv) (v1 : nv ≤ 255) (p0 : 0 ≤ np) (p1 : np ≤ 255)
    (hm : nv % 4 = (m : Int)) (hm3 : m ≤ 3) (hn : np % 4 = (n : Int)) (hn3 : n ≤ 3) (hv : 0 < m) (hp : 0 < n) :
    Calls Yba.prog 6 #[.int .u8 op, .string col, .int .i64 sl, .int .u8 nv, .int .u8 np] w fun e w' => (∃ s va vn pa pn, e = .returned (.agg #[.string s, .string col, .int .i64 sl, .int .u64 0, .int .i32 0, .slice va vn vn, .slice pa pn pn]) ∧
        (vn = 0 ∨ ∃ g, va = some ⟨g, 0, none⟩) ∧ (pn = 0 ∨ ∃ g, pa = some ⟨g, 0, none⟩) ∧ vn ≤ 3 ∧ pn ≤ 3 ∧ Below w.heap.size w w') := by
  have mkV := mk26 m hm3
  have mkP := mk27 n hn3
  go_enter Yba.func6, Yba.ntmps6
  go_wp2_with (go_at_call 10; refine (op_any _ _ o0 o1).mono ?_; rintro e w' ⟨⟨s, rfl⟩, rfl⟩)
  clear hm hn mkP mkV
  go_loopw [14] (fun t wr => ∃ k : Nat, k ≤ n ∧ t = .int .i64 k ∧ LI w wr (w.heap.size + 1 + 1 + 1) (w.heap.size + 1) w.heap.size n [.string s, .string col, .int .i64 sl, .int .u64 0, .int .i32 0, .slice (some ⟨w.heap.size + 1 + 1, 0, none⟩) m m, .slice (some ⟨w.heap.size + 1 + 1 + 1, 0, none⟩) n n]) (fun t _ => n - (intOf t).toNat)
  case atStart =>
    refine ⟨0, Nat.zero_le _, rfl, ⟨⟨_, ?_, Row.newAt _ (zP n).toList 29 _ (by simp)⟩, ((Row.newAt _ [_, _, _, _, _, _, _] _ _ (by simp)).alloc _).alloc _, (((Row.newAt w [_, _, _, _, _, _, _] _ _ rfl).alloc _).alloc _).alloc _, ?_⟩⟩
    · simp [zP, size_madeCells]
    · exact ((((Below.refl _ _).alloc (Nat.le_refl _) _).alloc (by simp) _).alloc (by simp; omega) _).alloc (by simp; omega) _
  case round =>
    obtain ⟨k, hk, rfl, hli⟩ := hrel
    by_cases hlt : k < n
    · have hlt' : (k : Int) < (n : Int) := by omega
      have hlt0 : (0 : Int) ≤ (k : Int) := by omega
      have hc6 : wr.cell? ⟨w.heap.size + 1, 6, none⟩ = some (.slice (some ⟨w.heap.size + 1 + 1 + 1, 0, none⟩) n n) := by rw [hli.cond.cell]; rfl
      obtain ⟨x0, hx0⟩ := hli.cell (k * 7) (by omega)
      obtain ⟨x1, hx1⟩ := hli.cell (k * 7 + 1) (by omega)
      obtain ⟨x2, hx2⟩ := hli.cell (k * 7 + 2) (by omega)
      obtain ⟨x3, hx3⟩ := hli.cell (k * 7 + 3) (by omega)
      obtain ⟨x4, hx4⟩ := hli.cell (k * 7 + 4) (by omega)
      obtain ⟨x5, hx5⟩ := hli.cell (k * 7 + 5) (by omega)
      obtain ⟨x6, hx6⟩ := hli.cell (k * 7 + 6) (by omega)
      have hfz : ∀ j, wr.frozen? ⟨w.heap.size + 1 + 1 + 1, j, none⟩ = false := by obtain ⟨xs, _, hr⟩ := hli.parts; exact hr.frozen
      have hfar : ∀ (x : World) (j : Nat) (u : Value), (x.setCell ⟨w.heap.size + 1 + 1 + 1, j, none⟩ u).cell? ⟨w.heap.size + 1, 6, none⟩ = x.cell? ⟨w.heap.size + 1, 6, none⟩ := fun x j u =>
        World.cell?_of_block (heap_setCell_other x ⟨w.heap.size + 1 + 1 + 1, j, none⟩ (w.heap.size + 1) u (by simp))
      go_wp2_with fail
      go_region_held3 (fun w' => w'.cell? ⟨w.heap.size + 1, 6, none⟩ = some (.slice (some ⟨w.heap.size + 1 + 1 + 1, 0, none⟩) n n)) (go_keep)
        (first | (go_at_call 10; refine (op_wrap _ _).mono ?_; rintro e w' ⟨⟨s2, rfl⟩, rfl⟩))
      go_wp2
      go_roundw
      case rel => exact ⟨k + 1, by omega, by go_num, (hli.stored7 _ _ _ _ _ _ _ _ (by omega) (by omega) (by omega)).drew⟩
      case measure => simp [intOf]; omega
    · have hC := hli.cond
      have hR := hli.res
      have hbel := hli.bel
      obtain ⟨d0, d1, d2, d3, d4, d5, d6⟩ := hC.seven
      obtain ⟨e0, e1, e2, e3, e4, e5, e6⟩ := hR.seven
      have hfz := hR.frozen
      clear hC hR hli
      go_wp2
      exact bodyPost_ret (v := .agg #[.string s, .string col, .int .i64 sl, .int .u64 0, .int .i32 0, .slice (some ⟨w.heap.size + 1 + 1, 0, none⟩) m m, .slice (some ⟨w.heap.size + 1 + 1 + 1, 0, none⟩) n n]) (by simp [results, Yba.results6, go_sem, e0, e1, e2, e3, e4, e5, e6]) rfl
        ⟨s, some ⟨w.heap.size + 1 + 1, 0, none⟩, m, some ⟨w.heap.size + 1 + 1 + 1, 0, none⟩, n, rfl, .inr ⟨_, rfl⟩, .inr ⟨_, rfl⟩, hm3, hn3, (((((((hbel.setCell (by exact Nat.le_refl _) _).setCell (by exact Nat.le_refl _) _).setCell (by exact Nat.le_refl _) _).setCell (by exact Nat.le_refl _) _).setCell (by exact Nat.le_refl _) _).setCell (by exact Nat.le_refl _) _).setCell (by exact Nat.le_refl _) _)⟩

set_option maxHeartbeats 1600000 in
set_option maxRecDepth 100000 in
theorem build_12 (op : Int) (col : ByteArray) (sl : Int) (nv np : Int) (m n : Nat) (w : World) (o0 : 0 ≤ op) (o1 : op ≤ 255) (v0 : 0 ≤ nv) (v1 : nv ≤ 255) (p0 : 0 ≤ np) (p1 : np ≤ 255)
    (hm : nv % 4 = (m : Int)) (hm3 : m ≤ 3) (hn : np % 4 = (n : Int)) (hn3 : n ≤ 3) (hv : 0 < m) (hp : n ≤ 0) (hp8 : 4 ≤ np % 8) :
    Calls Yba.prog 6 #[.int .u8 op, .string col, .int .i64 sl, .int .u8 nv, .int .u8 np] w fun e w' => (∃ s va vn pa pn, e = .returned (.agg #[.string s, .string col, .int .i64 sl, .int .u64 0, .int .i32 0, .slice va vn vn, .slice pa pn pn]) ∧
        (vn = 0 ∨ ∃ g, va = some ⟨g, 0, none⟩) ∧ (pn = 0 ∨ ∃ g, pa = some ⟨g, 0, none⟩) ∧ vn ≤ 3 ∧ pn ≤ 3 ∧ Below w.heap.size w w') := by
  have mkV := mk26 m hm3
  have mkP := mk27 n hn3
  have hn0 : ¬ 0 < n := by omega
  go_enter Yba.func6, Yba.ntmps6
  go_wp2_with (go_at_call 10; refine (op_any _ _ o0 o1).mono ?_; rintro e w' ⟨⟨s, rfl⟩, rfl⟩)
  clear hm hn mkP mkV hp8
  go_loopw [14] (fun t wr => ∃ k : Nat, k ≤ n ∧ t = .int .i64 k ∧ LI w wr (w.heap.size + 1 + 1 + 1) (w.heap.size + 1) w.heap.size n [.string s, .string col, .int .i64 sl, .int .u64 0, .int .i32 0, .slice (some ⟨w.heap.size + 1 + 1, 0, none⟩) m m, .slice (some ⟨w.heap.size + 1 + 1 + 1, 0, none⟩) n n]) (fun t _ => n - (intOf t).toNat)
  case atStart =>
    refine ⟨0, Nat.zero_le _, rfl, ⟨⟨_, ?_, Row.newAt _ (zP n).toList 29 _ (by simp)⟩, ((Row.newAt _ [_, _, _, _, _, _, _] _ _ (by simp)).alloc _).alloc _, (((Row.newAt w [_, _, _, _, _, _, _] _ _ rfl).alloc _).alloc _).alloc _, ?_⟩⟩
    · simp [zP, size_madeCells]
    · exact ((((Below.refl _ _).alloc (Nat.le_refl _) _).alloc (by simp) _).alloc (by simp; omega) _).alloc (by simp; omega) _
  case round =>
    obtain ⟨k, hk, rfl, hli⟩ := hrel
    by_cases hlt : k < n
    · have hlt' : (k : Int) < (n : Int) := by omega
      have hlt0 : (0 : Int) ≤ (k : Int) := by omega
      have hc6 : wr.cell? ⟨w.heap.size + 1, 6, none⟩ = some (.slice (some ⟨w.heap.size + 1 + 1 + 1, 0, none⟩) n n) := by rw [hli.cond.cell]; rfl
      obtain ⟨x0, hx0⟩ := hli.cell (k * 7) (by omega)
      obtain ⟨x1, hx1⟩ := hli.cell (k * 7 + 1) (by omega)
      obtain ⟨x2, hx2⟩ := hli.cell (k * 7 + 2) (by omega)
      obtain ⟨x3, hx3⟩ := hli.cell (k * 7 + 3) (by omega)
      obtain ⟨x4, hx4⟩ := hli.cell (k * 7 + 4) (by omega)
      obtain ⟨x5, hx5⟩ := hli.cell (k * 7 + 5) (by omega)
      obtain ⟨x6, hx6⟩ := hli.cell (k * 7 + 6) (by omega)
      have hfz : ∀ j, wr.frozen? ⟨w.heap.size + 1 + 1 + 1, j, none⟩ = false := by obtain ⟨xs, _, hr⟩ := hli.parts; exact hr.frozen
      have hfar : ∀ (x : World) (j : Nat) (u : Value), (x.setCell ⟨w.heap.size + 1 + 1 + 1, j, none⟩ u).cell? ⟨w.heap.size + 1, 6, none⟩ = x.cell? ⟨w.heap.size + 1, 6, none⟩ := fun x j u =>
        World.cell?_of_block (heap_setCell_other x ⟨w.heap.size + 1 + 1 + 1, j, none⟩ (w.heap.size + 1) u (by simp))
      go_wp2_with fail
      go_region_held3 (fun w' => w'.cell? ⟨w.heap.size + 1, 6, none⟩ = some (.slice (some ⟨w.heap.size + 1 + 1 + 1, 0, none⟩) n n)) (go_keep)
        (first | (go_at_call 10; refine (op_wrap _ _).mono ?_; rintro e w' ⟨⟨s2, rfl⟩, rfl⟩))
      go_wp2
      go_roundw
      case rel => exact ⟨k + 1, by omega, by go_num, (hli.stored7 _ _ _ _ _ _ _ _ (by omega) (by omega) (by omega)).drew⟩
      case measure => simp [intOf]; omega
    · have hC := hli.cond
      have hR := hli.res
      have hbel := hli.bel
      obtain ⟨d0, d1, d2, d3, d4, d5, d6⟩ := hC.seven
      obtain ⟨e0, e1, e2, e3, e4, e5, e6⟩ := hR.seven
      have hfz := hR.frozen
      clear hC hR hli
      go_wp2
      exact bodyPost_ret (v := .agg #[.string s, .string col, .int .i64 sl, .int .u64 0, .int .i32 0, .slice (some ⟨w.heap.size + 1 + 1, 0, none⟩) m m, .slice (some ⟨w.heap.size + 1 + 1 + 1, 0, none⟩) n n]) (by simp [results, Yba.results6, go_sem, e0, e1, e2, e3, e4, e5, e6]) rfl
        ⟨s, some ⟨w.heap.size + 1 + 1, 0, none⟩, m, some ⟨w.heap.size + 1 + 1 + 1, 0, none⟩, n, rfl, .inr ⟨_, rfl⟩, .inr ⟨_, rfl⟩, hm3, hn3, (((((((hbel.setCell (by exact Nat.le_refl _) _).setCell (by exact Nat.le_refl _) _).setCell (by exact Nat.le_refl _) _).setCell (by exact Nat.le_refl _) _).setCell (by exact Nat.le_refl _) _).setCell (by exact Nat.le_refl _) _).setCell (by exact Nat.le_refl _) _)⟩

set_option maxHeartbeats 1600000 in
set_option maxRecDepth 100000 in
theorem build_13 (op : Int) (col : ByteArray) (sl : Int) (nv np : Int) (m n : Nat) (w : World) (o0 : 0 ≤ op) (o1 : op ≤ 255) (v0 : 0 ≤ nv) (v1 : nv ≤ 255) (p0 : 0 ≤ np) (p1 : np ≤ 255)
    (hm : nv % 4 = (m : Int)) (hm3 : m ≤ 3) (hn : np % 4 = (n : Int)) (hn3 : n ≤ 3) (hv : 0 < m) (hp : n ≤ 0) (hp8 : np % 8 < 4) :
    Calls Yba.prog 6 #[.int .u8 op, .string col, .int .i64 sl, .int .u8 nv, .int .u8 np] w fun e w' => (∃ s va vn pa pn, e = .returned (.agg #[.string s, .string col, .int .i64 sl, .int .u64 0, .int .i32 0, .slice va vn vn, .slice pa pn pn]) ∧
        (vn = 0 ∨ ∃ g, va = some ⟨g, 0, none⟩) ∧ (pn = 0 ∨ ∃ g, pa = some ⟨g, 0, none⟩) ∧ vn ≤ 3 ∧ pn ≤ 3 ∧ Below w.heap.size w w') := by
  have mkV := mk26 m hm3
  have hn0 : ¬ 0 < n := by omega
  go_enter Yba.func6, Yba.ntmps6
  go_wp2_with (go_at_call 10; refine (op_any _ _ o0 o1).mono ?_; rintro e w' ⟨⟨s, rfl⟩, rfl⟩)
  exact bodyPost_ret (v := .agg #[.string s, .string col, .int .i64 sl, .int .u64 0, .int .i32 0, .slice (some ⟨w.heap.size + 1 + 1, 0, none⟩) m m, .slice none 0 0]) (by simp [results, Yba.results6, go_sem]) rfl
    ⟨s, some ⟨w.heap.size + 1 + 1, 0, none⟩, m, none, 0, rfl, .inr ⟨_, rfl⟩, .inl rfl, hm3, by omega, (((Below.refl _ _).alloc (Nat.le_refl _) _).alloc (by simp) _).alloc (by simp; omega) _⟩

set_option maxHeartbeats 1600000 in
set_option maxRecDepth 100000 in
theorem build_21 (op : Int) (col : ByteArray) (sl : Int) (nv np : Int) (m n : Nat) (w : World) (o0 : 0 ≤ op) (o1 : op ≤ 255) (v0 : 0 ≤ nv) (v1 : nv ≤ 255) (p0 : 0 ≤ np) (p1 : np ≤ 255)
    (hm : nv % 4 = (m : Int)) (hm3 : m ≤ 3) (hn : np % 4 = (n : Int)) (hn3 : n ≤ 3) (hv : m ≤ 0) (hv8 : 4 ≤ nv % 8) (hp : 0 < n) :
    Calls Yba.prog 6 #[.int .u8 op, .string col, .int .i64 sl, .int .u8 nv, .int .u8 np] w fun e w' => (∃ s va vn pa pn, e = .returned (.agg #[.string s, .string col, .int .i64 sl, .int .u64 0, .int .i32 0, .slice va vn vn, .slice pa pn pn]) ∧
        (vn = 0 ∨ ∃ g, va = some ⟨g, 0, none⟩) ∧ (pn = 0 ∨ ∃ g, pa = some ⟨g, 0, none⟩) ∧ vn ≤ 3 ∧ pn ≤ 3 ∧ Below w.heap.size w w') := by
  have mkV := mk26 m hm3
  have mkP := mk27 n hn3
  have hm0 : ¬ 0 < m := by omega
  go_enter Yba.func6, Yba.ntmps6
  go_wp2_with (go_at_call 10; refine (op_any _ _ o0 o1).mono ?_; rintro e w' ⟨⟨s, rfl⟩, rfl⟩)
  clear hm hn mkP mkV hv8
  go_loopw [14] (fun t wr => ∃ k : Nat, k ≤ n ∧ t = .int .i64 k ∧ LI w wr (w.heap.size + 1 + 1 + 1) (w.heap.size + 1) w.heap.size n [.string s, .string col, .int .i64 sl, .int .u64 0, .int .i32 0, .slice (some ⟨w.heap.size + 1 + 1, 0, none⟩) m m, .slice (some ⟨w.heap.size + 1 + 1 + 1, 0, none⟩) n n]) (fun t _ => n - (intOf t).toNat)
  case atStart =>
    refine ⟨0, Nat.zero_le _, rfl, ⟨⟨_, ?_, Row.newAt _ (zP n).toList 29 _ (by simp)⟩, ((Row.newAt _ [_, _, _, _, _, _, _] _ _ (by simp)).alloc _).alloc _, (((Row.newAt w [_, _, _, _, _, _, _] _ _ rfl).alloc _).alloc _).alloc _, ?_⟩⟩
    · simp [zP, size_madeCells]
    · exact ((((Below.refl _ _).alloc (Nat.le_refl _) _).alloc (by simp) _).alloc (by simp; omega) _).alloc (by simp; omega) _
  case round =>
    obtain ⟨k, hk, rfl, hli⟩ := hrel
    by_cases hlt : k < n
    · have hlt' : (k : Int) < (n : Int) := by omega
      have hlt0 : (0 : Int) ≤ (k : Int) := by omega
      have hc6 : wr.cell? ⟨w.heap.size + 1, 6, none⟩ = some (.slice (some ⟨w.heap.size + 1 + 1 + 1, 0, none⟩) n n) := by rw [hli.cond.cell]; rfl
      obtain ⟨x0, hx0⟩ := hli.cell (k * 7) (by omega)
      obtain ⟨x1, hx1⟩ := hli.cell (k * 7 + 1) (by omega)
      obtain ⟨x2, hx2⟩ := hli.cell (k * 7 + 2) (by omega)
      obtain ⟨x3, hx3⟩ := hli.cell (k * 7 + 3) (by omega)
      obtain ⟨x4, hx4⟩ := hli.cell (k * 7 + 4) (by omega)
      obtain ⟨x5, hx5⟩ := hli.cell (k * 7 + 5) (by omega)
      obtain ⟨x6, hx6⟩ := hli.cell (k * 7 + 6) (by omega)
      have hfz : ∀ j, wr.frozen? ⟨w.heap.size + 1 + 1 + 1, j, none⟩ = false := by obtain ⟨xs, _, hr⟩ := hli.parts; exact hr.frozen
      have hfar : ∀ (x : World) (j : Nat) (u : Value), (x.setCell ⟨w.heap.size + 1 + 1 + 1, j, none⟩ u).cell? ⟨w.heap.size + 1, 6, none⟩ = x.cell? ⟨w.heap.size + 1, 6, none⟩ := fun x j u =>
        World.cell?_of_block (heap_setCell_other x ⟨w.heap.size + 1 + 1 + 1, j, none⟩ (w.heap.size + 1) u (by simp))
      go_wp2_with fail
      go_region_held3 (fun w' => w'.cell? ⟨w.heap.size + 1, 6, none⟩ = some (.slice (some ⟨w.heap.size + 1 + 1 + 1, 0, none⟩) n n)) (go_keep)
        (first | (go_at_call 10; refine (op_wrap _ _).mono ?_; rintro e w' ⟨⟨s2, rfl⟩, rfl⟩))
      go_wp2
      go_roundw
      case rel => exact ⟨k + 1, by omega, by go_num, (hli.stored7 _ _ _ _ _ _ _ _ (by omega) (by omega) (by omega)).drew⟩
      case measure => simp [intOf]; omega
    · have hC := hli.cond
      have hR := hli.res
      have hbel := hli.bel
      obtain ⟨d0, d1, d2, d3, d4, d5, d6⟩ := hC.seven
      obtain ⟨e0, e1, e2, e3, e4, e5, e6⟩ := hR.seven
      have hfz := hR.frozen
      clear hC hR hli
      go_wp2
      exact bodyPost_ret (v := .agg #[.string s, .string col, .int .i64 sl, .int .u64 0, .int .i32 0, .slice (some ⟨w.heap.size + 1 + 1, 0, none⟩) m m, .slice (some ⟨w.heap.size + 1 + 1 + 1, 0, none⟩) n n]) (by simp [results, Yba.results6, go_sem, e0, e1, e2, e3, e4, e5, e6]) rfl
        ⟨s, some ⟨w.heap.size + 1 + 1, 0, none⟩, m, some ⟨w.heap.size + 1 + 1 + 1, 0, none⟩, n, rfl, .inr ⟨_, rfl⟩, .inr ⟨_, rfl⟩, hm3, hn3, (((((((hbel.setCell (by exact Nat.le_refl _) _).setCell (by exact Nat.le_refl _) _).setCell (by exact Nat.le_refl _) _).setCell (by exact Nat.le_refl _) _).setCell (by exact Nat.le_refl _) _).setCell (by exact Nat.le_refl _) _).setCell (by exact Nat.le_refl _) _)⟩

set_option maxHeartbeats 1600000 in
set_option maxRecDepth 100000 in
theorem build_22 (op : Int) (col : ByteArray) (sl : Int) (nv np : Int) (m n : Nat) (w : World) (o0 : 0 ≤ op) (o1 : op ≤ 255) (v0 : 0 ≤ nv) (v1 : nv ≤ 255) (p0 : 0 ≤ np) (p1 : np ≤ 255)
    (hm : nv % 4 = (m : Int)) (hm3 : m ≤ 3) (hn : np % 4 = (n : Int)) (hn3 : n ≤ 3) (hv : m ≤ 0) (hv8 : 4 ≤ nv % 8) (hp : n ≤ 0) (hp8 : 4 ≤ np % 8) :
    Calls Yba.prog 6 #[.int .u8 op, .string col, .int .i64 sl, .int .u8 nv, .int .u8 np] w fun e w' => (∃ s va vn pa pn, e = .returned (.agg #[.string s, .string col, .int .i64 sl, .int .u64 0, .int .i32 0, .slice va vn vn, .slice pa pn pn]) ∧
        (vn = 0 ∨ ∃ g, va = some ⟨g, 0, none⟩) ∧ (pn = 0 ∨ ∃ g, pa = some ⟨g, 0, none⟩) ∧ vn ≤ 3 ∧ pn ≤ 3 ∧ Below w.heap.size w w') := by
  have mkV := mk26 m hm3
  have mkP := mk27 n hn3
  have hm0 : ¬ 0 < m := by omega
  have hn0 : ¬ 0 < n := by omega
  go_enter Yba.func6, Yba.ntmps6
  go_wp2_with (go_at_call 10; refine (op_any _ _ o0 o1).mono ?_; rintro e w' ⟨⟨s, rfl⟩, rfl⟩)
  clear hm hn mkP mkV hv8 hp8
  go_loopw [14] (fun t wr => ∃ k : Nat, k ≤ n ∧ t = .int .i64 k ∧ LI w wr (w.heap.size + 1 + 1 + 1) (w.heap.size + 1) w.heap.size n [.string s, .string col, .int .i64 sl, .int .u64 0, .int .i32 0, .slice (some ⟨w.heap.size + 1 + 1, 0, none⟩) m m, .slice (some ⟨w.heap.size + 1 + 1 + 1, 0, none⟩) n n]) (fun t _ => n - (intOf t).toNat)
  case atStart =>
    refine ⟨0, Nat.zero_le _, rfl, ⟨⟨_, ?_, Row.newAt _ (zP n).toList 29 _ (by simp)⟩, ((Row.newAt _ [_, _, _, _, _, _, _] _ _ (by simp)).alloc _).alloc _, (((Row.newAt w [_, _, _, _, _, _, _] _ _ rfl).alloc _).alloc _).alloc _, ?_⟩⟩
    · simp [zP, size_madeCells]
    · exact ((((Below.refl _ _).alloc (Nat.le_refl _) _).alloc (by simp) _).alloc (by simp; omega) _).alloc (by simp; omega) _
  case round =>
    obtain ⟨k, hk, rfl, hli⟩ := hrel
    by_cases hlt : k < n
    · have hlt' : (k : Int) < (n : Int) := by omega
      have hlt0 : (0 : Int) ≤ (k : Int) := by omega
      have hc6 : wr.cell? ⟨w.heap.size + 1, 6, none⟩ = some (.slice (some ⟨w.heap.size + 1 + 1 + 1, 0, none⟩) n n) := by rw [hli.cond.cell]; rfl
      obtain ⟨x0, hx0⟩ := hli.cell (k * 7) (by omega)
      obtain ⟨x1, hx1⟩ := hli.cell (k * 7 + 1) (by omega)
      obtain ⟨x2, hx2⟩ := hli.cell (k * 7 + 2) (by omega)
      obtain ⟨x3, hx3⟩ := hli.cell (k * 7 + 3) (by omega)
      obtain ⟨x4, hx4⟩ := hli.cell (k * 7 + 4) (by omega)
      obtain ⟨x5, hx5⟩ := hli.cell (k * 7 + 5) (by omega)
      obtain ⟨x6, hx6⟩ := hli.cell (k * 7 + 6) (by omega)
      have hfz : ∀ j, wr.frozen? ⟨w.heap.size + 1 + 1 + 1, j, none⟩ = false := by obtain ⟨xs, _, hr⟩ := hli.parts; exact hr.frozen
      have hfar : ∀ (x : World) (j : Nat) (u : Value), (x.setCell ⟨w.heap.size + 1 + 1 + 1, j, none⟩ u).cell? ⟨w.heap.size + 1, 6, none⟩ = x.cell? ⟨w.heap.size + 1, 6, none⟩ := fun x j u =>
        World.cell?_of_block (heap_setCell_other x ⟨w.heap.size + 1 + 1 + 1, j, none⟩ (w.heap.size + 1) u (by simp))
      go_wp2_with fail
      go_region_held3 (fun w' => w'.cell? ⟨w.heap.size + 1, 6, none⟩ = some (.slice (some ⟨w.heap.size + 1 + 1 + 1, 0, none⟩) n n)) (go_keep)
        (first | (go_at_call 10; refine (op_wrap _ _).mono ?_; rintro e w' ⟨⟨s2, rfl⟩, rfl⟩))
      go_wp2
      go_roundw
      case rel => exact ⟨k + 1, by omega, by go_num, (hli.stored7 _ _ _ _ _ _ _ _ (by omega) (by omega) (by omega)).drew⟩
      case measure => simp [intOf]; omega
    · have hC := hli.cond
      have hR := hli.res
      have hbel := hli.bel
      obtain ⟨d0, d1, d2, d3, d4, d5, d6⟩ := hC.seven
      obtain ⟨e0, e1, e2, e3, e4, e5, e6⟩ := hR.seven
      have hfz := hR.frozen
      clear hC hR hli
      go_wp2
      exact bodyPost_ret (v := .agg #[.string s, .string col, .int .i64 sl, .int .u64 0, .int .i32 0, .slice (some ⟨w.heap.size + 1 + 1, 0, none⟩) m m, .slice (some ⟨w.heap.size + 1 + 1 + 1, 0, none⟩) n n]) (by simp [results, Yba.results6, go_sem, e0, e1, e2, e3, e4, e5, e6]) rfl
        ⟨s, some ⟨w.heap.size + 1 + 1, 0, none⟩, m, some ⟨w.heap.size + 1 + 1 + 1, 0, none⟩, n, rfl, .inr ⟨_, rfl⟩, .inr ⟨_, rfl⟩, hm3, hn3, (((((((hbel.setCell (by exact Nat.le_refl _) _).setCell (by exact Nat.le_refl _) _).setCell (by exact Nat.le_refl _) _).setCell (by exact Nat.le_refl _) _).setCell (by exact Nat.le_refl _) _).setCell (by exact Nat.le_refl _) _).setCell (by exact Nat.le_refl _) _)⟩

set_option maxHeartbeats 1600000 in
set_option maxRecDepth 100000 in
theorem build_23 (op : Int) (col : ByteArray) (sl : Int) (nv np : Int) (m n : Nat) (w : World) (o0 : 0 ≤ op) (o1 : op ≤ 255) (v0 : 0 ≤ nv) (v1 : nv ≤ 255) (p0 : 0 ≤ np) (p1 : np ≤ 255)
    (hm : nv % 4 = (m : Int)) (hm3 : m ≤ 3) (hn : np % 4 = (n : Int)) (hn3 : n ≤ 3) (hv : m ≤ 0) (hv8 : 4 ≤ nv % 8) (hp : n ≤ 0) (hp8 : np % 8 < 4) :
    Calls Yba.prog 6 #[.int .u8 op, .string col, .int .i64 sl, .int .u8 nv, .int .u8 np] w fun e w' => (∃ s va vn pa pn, e = .returned (.agg #[.string s, .string col, .int .i64 sl, .int .u64 0, .int .i32 0, .slice va vn vn, .slice pa pn pn]) ∧
        (vn = 0 ∨ ∃ g, va = some ⟨g, 0, none⟩) ∧ (pn = 0 ∨ ∃ g, pa = some ⟨g, 0, none⟩) ∧ vn ≤ 3 ∧ pn ≤ 3 ∧ Below w.heap.size w w') := by
  have mkV := mk26 m hm3
  have hm0 : ¬ 0 < m := by omega
  have hn0 : ¬ 0 < n := by omega
  go_enter Yba.func6, Yba.ntmps6
  go_wp2_with (go_at_call 10; refine (op_any _ _ o0 o1).mono ?_; rintro e w' ⟨⟨s, rfl⟩, rfl⟩)
  exact bodyPost_ret (v := .agg #[.string s, .string col, .int .i64 sl, .int .u64 0, .int .i32 0, .slice (some ⟨w.heap.size + 1 + 1, 0, none⟩) m m, .slice none 0 0]) (by simp [results, Yba.results6, go_sem]) rfl
    ⟨s, some ⟨w.heap.size + 1 + 1, 0, none⟩, m, none, 0, rfl, .inr ⟨_, rfl⟩, .inl rfl, hm3, by omega, (((Below.refl _ _).alloc (Nat.le_refl _) _).alloc (by simp) _).alloc (by simp; omega) _⟩

set_option maxHeartbeats 1600000 in
set_option maxRecDepth 100000 in
theorem build_31 (op : Int) (col : ByteArray) (sl : Int) (nv np : Int) (m n : Nat) (w : World) (o0 : 0 ≤ op) (o1 : op ≤ 255) (v0 : 0 ≤ nv) (v1 : nv ≤ 255) (p0 : 0 ≤ np) (p1 : np ≤ 255)
    (hm : nv % 4 = (m : Int)) (hm3 : m ≤ 3) (hn : np % 4 = (n : Int)) (hn3 : n ≤ 3) (hv : m ≤ 0) (hv8 : nv % 8 < 4) (hp : 0 < n) :
    Calls Yba.prog 6 #[.int .u8 op, .string col, .int .i64 sl, .int .u8 nv, .int .u8 np] w fun e w' => (∃ s va vn pa pn, e = .returned (.agg #[.string s, .string col, .int .i64 sl, .int .u64 0, .int .i32 0, .slice va vn vn, .slice pa pn pn]) ∧
        (vn = 0 ∨ ∃ g, va = some ⟨g, 0, none⟩) ∧ (pn = 0 ∨ ∃ g, pa = some ⟨g, 0, none⟩) ∧ vn ≤ 3 ∧ pn ≤ 3 ∧ Below w.heap.size w w') := by
  have hvd : decide ((4 : Int) ≤ nv % 8) = false := decide_eq_false (by omega)
  have mkP := mk27 n hn3
  have hm0 : ¬ 0 < m := by omega
  go_enter Yba.func6, Yba.ntmps6
  go_wp2_with (go_at_call 10; refine (op_any _ _ o0 o1).mono ?_; rintro e w' ⟨⟨s, rfl⟩, rfl⟩)
  clear hm hn mkP hv8
  go_loopw [14] (fun t wr => ∃ k : Nat, k ≤ n ∧ t = .int .i64 k ∧ LI w wr (w.heap.size + 1 + 1) (w.heap.size + 1) w.heap.size n [.string s, .string col, .int .i64 sl, .int .u64 0, .int .i32 0, .slice none 0 0, .slice (some ⟨w.heap.size + 1 + 1, 0, none⟩) n n]) (fun t _ => n - (intOf t).toNat)
  case atStart =>
    refine ⟨0, Nat.zero_le _, rfl, ⟨⟨_, ?_, Row.newAt _ (zP n).toList 29 _ (by simp)⟩, (Row.newAt _ [_, _, _, _, _, _, _] _ _ (by simp)).alloc _, ((Row.newAt w [_, _, _, _, _, _, _] _ _ rfl).alloc _).alloc _, ?_⟩⟩
    · simp [zP, size_madeCells]
    · exact (((Below.refl _ _).alloc (Nat.le_refl _) _).alloc (by simp) _).alloc (by simp; omega) _
  case round =>
    obtain ⟨k, hk, rfl, hli⟩ := hrel
    by_cases hlt : k < n
    · have hlt' : (k : Int) < (n : Int) := by omega
      have hlt0 : (0 : Int) ≤ (k : Int) := by omega
      have hc6 : wr.cell? ⟨w.heap.size + 1, 6, none⟩ = some (.slice (some ⟨w.heap.size + 1 + 1, 0, none⟩) n n) := by rw [hli.cond.cell]; rfl
      obtain ⟨x0, hx0⟩ := hli.cell (k * 7) (by omega)
      obtain ⟨x1, hx1⟩ := hli.cell (k * 7 + 1) (by omega)
      obtain ⟨x2, hx2⟩ := hli.cell (k * 7 + 2) (by omega)
      obtain ⟨x3, hx3⟩ := hli.cell (k * 7 + 3) (by omega)
      obtain ⟨x4, hx4⟩ := hli.cell (k * 7 + 4) (by omega)
      obtain ⟨x5, hx5⟩ := hli.cell (k * 7 + 5) (by omega)
      obtain ⟨x6, hx6⟩ := hli.cell (k * 7 + 6) (by omega)
      have hfz : ∀ j, wr.frozen? ⟨w.heap.size + 1 + 1, j, none⟩ = false := by obtain ⟨xs, _, hr⟩ := hli.parts; exact hr.frozen
      have hfar : ∀ (x : World) (j : Nat) (u : Value), (x.setCell ⟨w.heap.size + 1 + 1, j, none⟩ u).cell? ⟨w.heap.size + 1, 6, none⟩ = x.cell? ⟨w.heap.size + 1, 6, none⟩ := fun x j u =>
        World.cell?_of_block (heap_setCell_other x ⟨w.heap.size + 1 + 1, j, none⟩ (w.heap.size + 1) u (by simp))
      go_wp2_with fail
      go_region_held3 (fun w' => w'.cell? ⟨w.heap.size + 1, 6, none⟩ = some (.slice (some ⟨w.heap.size + 1 + 1, 0, none⟩) n n)) (go_keep)
        (first | (go_at_call 10; refine (op_wrap _ _).mono ?_; rintro e w' ⟨⟨s2, rfl⟩, rfl⟩))
      go_wp2
      go_roundw
      case rel => exact ⟨k + 1, by omega, by go_num, (hli.stored7 _ _ _ _ _ _ _ _ (by omega) (by omega) (by omega)).drew⟩
      case measure => simp [intOf]; omega
    · have hC := hli.cond
      have hR := hli.res
      have hbel := hli.bel
      obtain ⟨d0, d1, d2, d3, d4, d5, d6⟩ := hC.seven
      obtain ⟨e0, e1, e2, e3, e4, e5, e6⟩ := hR.seven
      have hfz := hR.frozen
      clear hC hR hli
      go_wp2
      exact bodyPost_ret (v := .agg #[.string s, .string col, .int .i64 sl, .int .u64 0, .int .i32 0, .slice none 0 0, .slice (some ⟨w.heap.size + 1 + 1, 0, none⟩) n n]) (by simp [results, Yba.results6, go_sem, e0, e1, e2, e3, e4, e5, e6]) rfl
        ⟨s, none, 0, some ⟨w.heap.size + 1 + 1, 0, none⟩, n, rfl, .inl rfl, .inr ⟨_, rfl⟩, by omega, hn3, (((((((hbel.setCell (by exact Nat.le_refl _) _).setCell (by exact Nat.le_refl _) _).setCell (by exact Nat.le_refl _) _).setCell (by exact Nat.le_refl _) _).setCell (by exact Nat.le_refl _) _).setCell (by exact Nat.le_refl _) _).setCell (by exact Nat.le_refl _) _)⟩

set_option maxHeartbeats 1600000 in
set_option maxRecDepth 100000 in
theorem build_32 (op : Int) (col : ByteArray) (sl : Int) (nv np : Int) (m n : Nat) (w : World) (o0 : 0 ≤ op) (o1 : op ≤ 255) (v0 : 0 ≤ nv) (v1 : nv ≤ 255) (p0 : 0 ≤ np) (p1 : np ≤ 255)
    (hm : nv % 4 = (m : Int)) (hm3 : m ≤ 3) (hn : np % 4 = (n : Int)) (hn3 : n ≤ 3) (hv : m ≤ 0) (hv8 : nv % 8 < 4) (hp : n ≤ 0) (hp8 : 4 ≤ np % 8) :
    Calls Yba.prog 6 #[.int .u8 op, .string col, .int .i64 sl, .int .u8 nv, .int .u8 np] w fun e w' => (∃ s va vn pa pn, e = .returned (.agg #[.string s, .string col, .int .i64 sl, .int .u64 0, .int .i32 0, .slice va vn vn, .slice pa pn pn]) ∧
        (vn = 0 ∨ ∃ g, va = some ⟨g, 0, none⟩) ∧ (pn = 0 ∨ ∃ g, pa = some ⟨g, 0, none⟩) ∧ vn ≤ 3 ∧ pn ≤ 3 ∧ Below w.heap.size w w') := by
  have hvd : decide ((4 : Int) ≤ nv % 8) = false := decide_eq_false (by omega)
  have mkP := mk27 n hn3
  have hm0 : ¬ 0 < m := by omega
  have hn0 : ¬ 0 < n := by omega
  go_enter Yba.func6, Yba.ntmps6
  go_wp2_with (go_at_call 10; refine (op_any _ _ o0 o1).mono ?_; rintro e w' ⟨⟨s, rfl⟩, rfl⟩)
  clear hm hn mkP hv8 hp8
  go_loopw [14] (fun t wr => ∃ k : Nat, k ≤ n ∧ t = .int .i64 k ∧ LI w wr (w.heap.size + 1 + 1) (w.heap.size + 1) w.heap.size n [.string s, .string col, .int .i64 sl, .int .u64 0, .int .i32 0, .slice none 0 0, .slice (some ⟨w.heap.size + 1 + 1, 0, none⟩) n n]) (fun t _ => n - (intOf t).toNat)
  case atStart =>
    refine ⟨0, Nat.zero_le _, rfl, ⟨⟨_, ?_, Row.newAt _ (zP n).toList 29 _ (by simp)⟩, (Row.newAt _ [_, _, _, _, _, _, _] _ _ (by simp)).alloc _, ((Row.newAt w [_, _, _, _, _, _, _] _ _ rfl).alloc _).alloc _, ?_⟩⟩
    · simp [zP, size_madeCells]
    · exact (((Below.refl _ _).alloc (Nat.le_refl _) _).alloc (by simp) _).alloc (by simp; omega) _
  case round =>
    obtain ⟨k, hk, rfl, hli⟩ := hrel
    by_cases hlt : k < n
    · have hlt' : (k : Int) < (n : Int) := by omega
      have hlt0 : (0 : Int) ≤ (k : Int) := by omega
      have hc6 : wr.cell? ⟨w.heap.size + 1, 6, none⟩ = some (.slice (some ⟨w.heap.size + 1 + 1, 0, none⟩) n n) := by rw [hli.cond.cell]; rfl
      obtain ⟨x0, hx0⟩ := hli.cell (k * 7) (by omega)
      obtain ⟨x1, hx1⟩ := hli.cell (k * 7 + 1) (by omega)
      obtain ⟨x2, hx2⟩ := hli.cell (k * 7 + 2) (by omega)
      obtain ⟨x3, hx3⟩ := hli.cell (k * 7 + 3) (by omega)
      obtain ⟨x4, hx4⟩ := hli.cell (k * 7 + 4) (by omega)
      obtain ⟨x5, hx5⟩ := hli.cell (k * 7 + 5) (by omega)
      obtain ⟨x6, hx6⟩ := hli.cell (k * 7 + 6) (by omega)
      have hfz : ∀ j, wr.frozen? ⟨w.heap.size + 1 + 1, j, none⟩ = false := by obtain ⟨xs, _, hr⟩ := hli.parts; exact hr.frozen
      have hfar : ∀ (x : World) (j : Nat) (u : Value), (x.setCell ⟨w.heap.size + 1 + 1, j, none⟩ u).cell? ⟨w.heap.size + 1, 6, none⟩ = x.cell? ⟨w.heap.size + 1, 6, none⟩ := fun x j u =>
        World.cell?_of_block (heap_setCell_other x ⟨w.heap.size + 1 + 1, j, none⟩ (w.heap.size + 1) u (by simp))
      go_wp2_with fail
      go_region_held3 (fun w' => w'.cell? ⟨w.heap.size + 1, 6, none⟩ = some (.slice (some ⟨w.heap.size + 1 + 1, 0, none⟩) n n)) (go_keep)
        (first | (go_at_call 10; refine (op_wrap _ _).mono ?_; rintro e w' ⟨⟨s2, rfl⟩, rfl⟩))
      go_wp2
      go_roundw
      case rel => exact ⟨k + 1, by omega, by go_num, (hli.stored7 _ _ _ _ _ _ _ _ (by omega) (by omega) (by omega)).drew⟩
      case measure => simp [intOf]; omega
    · have hC := hli.cond
      have hR := hli.res
      have hbel := hli.bel
      obtain ⟨d0, d1, d2, d3, d4, d5, d6⟩ := hC.seven
      obtain ⟨e0, e1, e2, e3, e4, e5, e6⟩ := hR.seven
      have hfz := hR.frozen
      clear hC hR hli
      go_wp2
      exact bodyPost_ret (v := .agg #[.string s, .string col, .int .i64 sl, .int .u64 0, .int .i32 0, .slice none 0 0, .slice (some ⟨w.heap.size + 1 + 1, 0, none⟩) n n]) (by simp [results, Yba.results6, go_sem, e0, e1, e2, e3, e4, e5, e6]) rfl
        ⟨s, none, 0, some ⟨w.heap.size + 1 + 1, 0, none⟩, n, rfl, .inl rfl, .inr ⟨_, rfl⟩, by omega, hn3, (((((((hbel.setCell (by exact Nat.le_refl _) _).setCell (by exact Nat.le_refl _) _).setCell (by exact Nat.le_refl _) _).setCell (by exact Nat.le_refl _) _).setCell (by exact Nat.le_refl _) _).setCell (by exact Nat.le_refl _) _).setCell (by exact Nat.le_refl _) _)⟩

set_option maxHeartbeats 1600000 in
set_option maxRecDepth 100000 in
theorem build_33 (op : Int) (col : ByteArray) (sl : Int) (nv np : Int) (m n : Nat) (w : World) (o0 : 0 ≤ op) (o1 : op ≤ 255) (v0 : 0 ≤ nv) (v1 : nv ≤ 255) (p0 : 0 ≤ np) (p1 : np ≤ 255)
    (hm : nv % 4 = (m : Int)) (hm3 : m ≤ 3) (hn : np % 4 = (n : Int)) (hn3 : n ≤ 3) (hv : m ≤ 0) (hv8 : nv % 8 < 4) (hp : n ≤ 0) (hp8 : np % 8 < 4) :
    Calls Yba.prog 6 #[.int .u8 op, .string col, .int .i64 sl, .int .u8 nv, .int .u8 np] w fun e w' => (∃ s va vn pa pn, e = .returned (.agg #[.string s, .string col, .int .i64 sl, .int .u64 0, .int .i32 0, .slice va vn vn, .slice pa pn pn]) ∧
        (vn = 0 ∨ ∃ g, va = some ⟨g, 0, none⟩) ∧ (pn = 0 ∨ ∃ g, pa = some ⟨g, 0, none⟩) ∧ vn ≤ 3 ∧ pn ≤ 3 ∧ Below w.heap.size w w') := by
  have hvd : decide ((4 : Int) ≤ nv % 8) = false := decide_eq_false (by omega)
  have hm0 : ¬ 0 < m := by omega
  have hn0 : ¬ 0 < n := by omega
  go_enter Yba.func6, Yba.ntmps6
  go_wp2_with (go_at_call 10; refine (op_any _ _ o0 o1).mono ?_; rintro e w' ⟨⟨s, rfl⟩, rfl⟩)
  exact bodyPost_ret (v := .agg #[.string s, .string col, .int .i64 sl, .int .u64 0, .int .i32 0, .slice none 0 0, .slice none 0 0]) (by simp [results, Yba.results6, go_sem]) rfl
    ⟨s, none, 0, none, 0, rfl, .inl rfl, .inl rfl, by omega, by omega, ((Below.refl _ _).alloc (Nat.le_refl _) _).alloc (by simp) _⟩

theorem build_any (op : Int) (col : ByteArray) (sl : Int) (nv np : Int) (w : World) (o0 : 0 ≤ op) (o1 : op ≤ 255) (v0 : 0 ≤ nv) (v1 : nv ≤ 255) (p0 : 0 ≤ np) (p1 : np ≤ 255) :
    Calls Yba.prog 6 #[.int .u8 op, .string col, .int .i64 sl, .int .u8 nv, .int .u8 np] w fun e w' => (∃ s va vn pa pn, e = .returned (.agg #[.string s, .string col, .int .i64 sl, .int .u64 0, .int .i32 0, .slice va vn vn, .slice pa pn pn]) ∧
        (vn = 0 ∨ ∃ g, va = some ⟨g, 0, none⟩) ∧ (pn = 0 ∨ ∃ g, pa = some ⟨g, 0, none⟩) ∧ vn ≤ 3 ∧ pn ≤ 3 ∧ Below w.heap.size w w') := by
  obtain ⟨m, hm, hm3⟩ : ∃ m : Nat, nv % 4 = (m : Int) ∧ m ≤ 3 := ⟨(nv % 4).toNat, by omega, by omega⟩
  obtain ⟨n, hn, hn3⟩ : ∃ n : Nat, np % 4 = (n : Int) ∧ n ≤ 3 := ⟨(np % 4).toNat, by omega, by omega⟩
  rcases (show 0 < m ∨ (m ≤ 0 ∧ 4 ≤ nv % 8) ∨ (m ≤ 0 ∧ nv % 8 < 4) from by omega) with h | ⟨h, h'⟩ | ⟨h, h'⟩
  all_goals rcases (show 0 < n ∨ (n ≤ 0 ∧ 4 ≤ np % 8) ∨ (n ≤ 0 ∧ np % 8 < 4) from by omega) with g | ⟨g, g'⟩ | ⟨g, g'⟩
  · exact build_11 op col sl nv np m n w o0 o1 v0 v1 p0 p1 hm hm3 hn hn3 h g
  · exact build_12 op col sl nv np m n w o0 o1 v0 v1 p0 p1 hm hm3 hn hn3 h g g'
  · exact build_13 op col sl nv np m n w o0 o1 v0 v1 p0 p1 hm hm3 hn hn3 h g g'
  · exact build_21 op col sl nv np m n w o0 o1 v0 v1 p0 p1 hm hm3 hn hn3 h h' g
  · exact build_22 op col sl nv np m n w o0 o1 v0 v1 p0 p1 hm hm3 hn hn3 h h' g g'
  · exact build_23 op col sl nv np m n w o0 o1 v0 v1 p0 p1 hm hm3 hn hn3 h h' g g'
  · exact build_31 op col sl nv np m n w o0 o1 v0 v1 p0 p1 hm hm3 hn hn3 h h' g
  · exact build_32 op col sl nv np m n w o0 o1 v0 v1 p0 p1 hm hm3 hn hn3 h h' g g'
  · exact build_33 op col sl nv np m n w o0 o1 v0 v1 p0 p1 hm hm3 hn hn3 h h' g g'

end Go.Proofs.Ybulkbka
