/-
  'LawS0118BTwoLowest' (3): a theorem a way: the new one is the least; the second; neither.
-/
import Derived.Test.YbulkbkoLowB
namespace Go.Proofs.Ybulkbko
open Go.ChangeShapes Go.WideShapes Go.ChangeAt Go.RowKit
set_option linter.unusedVariables false
attribute [local go_sem] run_store_float

theorem below_drewN {B : Nat} {a w : World} (h : Below B a w) (k : Nat) : Below B a (w.drewN k) := by
  induction k with
  | zero => exact h
  | succ k ih => exact ⟨h.os, h.tape, h.output, h.size, h.block⟩

/-- What the loops read: the lows at T, the places at A, the floors at F. -/
structure Mem (w wr : World) (T A F : Nat) (x0 x1 : Int) (y0 y1 : Nat) (a0 a1 i : Int) (f0 f1 f : Nat) : Prop where
  t0 : wr.cell? ⟨T, 0, none⟩ = some (.int .i64 x0)
  t1 : wr.cell? ⟨T, 1, none⟩ = some (.int .i64 x1)
  t2 : wr.cell? ⟨T, 2, none⟩ = some (.float .f64 y0)
  t3 : wr.cell? ⟨T, 3, none⟩ = some (.float .f64 y1)
  c0 : wr.cell? ⟨A, 0, none⟩ = some (.int .i64 a0)
  c1 : wr.cell? ⟨A, 1, none⟩ = some (.int .i64 a1)
  c2 : wr.cell? ⟨A, 2, none⟩ = some (.int .i64 i)
  d0 : wr.cell? ⟨F, 0, none⟩ = some (.float .f64 f0)
  d1 : wr.cell? ⟨F, 1, none⟩ = some (.float .f64 f1)
  d2 : wr.cell? ⟨F, 2, none⟩ = some (.float .f64 f)
  bel : Below w.heap.size w wr

theorem Mem.drewN {w wr : World} {T A F : Nat} {x0 x1 : Int} {y0 y1 : Nat} {a0 a1 i : Int} {f0 f1 f : Nat} (h : Mem w wr T A F x0 x1 y0 y1 a0 a1 i f0 f1 f) (n : Nat) : Mem w (wr.drewN n) T A F x0 x1 y0 y1 a0 a1 i f0 f1 f where
  t0 := by simpa using h.t0
  t1 := by simpa using h.t1
  t2 := by simpa using h.t2
  t3 := by simpa using h.t3
  c0 := by simpa using h.c0
  c1 := by simpa using h.c1
  c2 := by simpa using h.c2
  d0 := by simpa using h.d0
  d1 := by simpa using h.d1
  d2 := by simpa using h.d2
  bel := below_drewN h.bel n

theorem Mem.start {w v1 : World} {x0 x1 : Int} {y0 y1 : Nat} {a0 a1 i : Int} {f0 f1 f : Nat} (hr : Row v1 w.heap.size 28 [.int .i64 x0, .int .i64 x1, .float .f64 y0, .float .f64 y1]) (hb : Below w.heap.size w v1) :
    Mem w ((v1.alloc (.cells #[.int .i64 a0, .int .i64 a1, .int .i64 i] 30)).alloc (.cells #[.float .f64 f0, .float .f64 f1, .float .f64 f] 31)) w.heap.size v1.heap.size (v1.heap.size + 1) x0 x1 y0 y1 a0 a1 i f0 f1 f where
  t0 := ((hr.alloc _).alloc _).cell 0
  t1 := ((hr.alloc _).alloc _).cell 1
  t2 := ((hr.alloc _).alloc _).cell 2
  t3 := ((hr.alloc _).alloc _).cell 3
  c0 := ((Row.newAt v1 [.int .i64 a0, .int .i64 a1, .int .i64 i] 30 _ rfl).alloc _).cell 0
  c1 := ((Row.newAt v1 [.int .i64 a0, .int .i64 a1, .int .i64 i] 30 _ rfl).alloc _).cell 1
  c2 := ((Row.newAt v1 [.int .i64 a0, .int .i64 a1, .int .i64 i] 30 _ rfl).alloc _).cell 2
  d0 := (Row.newAt (v1.alloc _) [.float .f64 f0, .float .f64 f1, .float .f64 f] 31 _ (by simp)).cell 0
  d1 := (Row.newAt (v1.alloc _) [.float .f64 f0, .float .f64 f1, .float .f64 f] 31 _ (by simp)).cell 1
  d2 := (Row.newAt (v1.alloc _) [.float .f64 f0, .float .f64 f1, .float .f64 f] 31 _ (by simp)).cell 2
  bel := (hb.alloc hb.size _).alloc (by simp; have := hb.size; omega) _

theorem eq_of {f : Nat} (h : (ord f f == some .eq) = true) : FloatKind.f64.format.order f f = some .eq := by simpa [ord] using h

theorem less_of (f : Nat) (i : Int) (g : Nat) (j : Int) (w : World) {b : Bool} (h : lessB f i g j = b) : Calls Yba.prog 7 #[.float .f64 f, .int .i64 i, .float .f64 g, .int .i64 j] w fun e w' => e = .returned (.bool b) ∧ w' = w :=
  h ▸ less_any f i g j w

set_option maxHeartbeats 3200000 in
set_option maxRecDepth 100000 in
theorem low_first (a0 : Int) (f0 : Nat) (a1 : Int) (f1 : Nat) (i : Int) (f : Nat) (w : World) (n0 : (ord f0 f0 == some .eq) = true) (n1 : (ord f1 f1 == some .eq) = true) (n2 : (ord f f == some .eq) = true)
    (hpre : lessB f1 a1 f0 a0 = false) (h0 : lessB f i f0 a0 = true) :
    Calls Yba.prog 3 #[.int .i64 a0, .float .f64 f0, .int .i64 a1, .float .f64 f1, .int .i64 i, .float .f64 f] w fun e w' => e = .returned (.bool true) ∧ Below w.heap.size w w' := by
  have e0 := eq_of n0
  have e1 := eq_of n1
  have e2 := eq_of n2
  have N0 : Hid _ := n0
  have N1 : Hid _ := n1
  have N2 : Hid _ := n2
  clear n0 n1 n2
  go_enter Yba.func3, Yba.ntmps3
  go_wp2_with (first
    | (go_at_call 6; refine (nan_f f0 _ N0.out).mono ?_; rintro e w' ⟨rfl, rfl⟩)
    | (go_at_call 6; refine (nan_f f1 _ N1.out).mono ?_; rintro e w' ⟨rfl, rfl⟩)
    | (go_at_call 6; refine (nan_f f _ N2.out).mono ?_; rintro e w' ⟨rfl, rfl⟩)
    | (go_at_call 7; refine (less_any _ _ _ _ _).mono ?_; rintro e w' ⟨rfl, rfl⟩)
    | (go_at_call 8; refine (see_first _ a0 a1 _ f0 f1 _ _ (Row.newAt _ [_, _, _, _] 28 _ rfl) h0).mono ?_; rintro e v1 ⟨rfl, row, bel⟩))
  have hmem : ∀ x, x = ((v1.alloc (.cells #[.int .i64 a0, .int .i64 a1, .int .i64 i] 30)).alloc (.cells #[.float .f64 f0, .float .f64 f1, .float .f64 f] 31)) → Mem w' x w'.heap.size v1.heap.size (v1.heap.size + 1) i a0 f f0 a0 a1 i f0 f1 f := fun x e => by
    rw [e]; exact Mem.start row (((Below.refl _ _).alloc (Nat.le_refl _) _).trans bel)
  clear row bel N0 N1 N2
  go_loopw [16, 17] (fun m k wr => Mem w' wr w'.heap.size v1.heap.size (v1.heap.size + 1) i a0 f f0 a0 a1 i f0 f1 f ∧ ((m = .int .i64 0 ∧ k = .int .i64 1) ∨ (m = .int .i64 0 ∧ k = .int .i64 2) ∨ (m = .int .i64 2 ∧ k = .int .i64 3))) (fun _ k _ => (3 - intOf k).toNat)
  case atStart => exact ⟨hmem _ rfl, .inl ⟨rfl, rfl⟩⟩
  case round =>
    obtain ⟨hm, hst⟩ := hrel
    clear hmem
    have hk : Hid (∀ n, Mem w' (wr.drewN n) w'.heap.size v1.heap.size (v1.heap.size + 1) i a0 f f0 a0 a1 i f0 f1 f) := fun n => hm.drewN n
    obtain ⟨t0, t1, t2, t3, c0, c1, c2, d0, d1, d2, bel⟩ := hm
    rcases hst with ⟨rfl, rfl⟩ | ⟨rfl, rfl⟩ | ⟨rfl, rfl⟩
    · go_wp2
      go_quiet ((go_at_call 7; first | exact Calls.quiet_of_same (less_of _ _ _ _ _ hpre) | exact Calls.quiet_of_same (less_of _ _ _ _ _ h0)))
      go_wp2
      go_roundw
      case rel => exact ⟨hk.out _, .inr (.inl ⟨rfl, rfl⟩)⟩
      case measure => decide
    · go_wp2
      go_quiet ((go_at_call 7; first | exact Calls.quiet_of_same (less_of _ _ _ _ _ hpre) | exact Calls.quiet_of_same (less_of _ _ _ _ _ h0)))
      go_wp2
      go_roundw
      case rel => exact ⟨hk.out _, .inr (.inr ⟨rfl, rfl⟩)⟩
      case measure => decide
    · go_wp2
      go_loopw [18, 19] (fun s k wr => Mem w' wr w'.heap.size v1.heap.size (v1.heap.size + 1) i a0 f f0 a0 a1 i f0 f1 f ∧ ((s = .int .i64 (-1) ∧ k = .int .i64 0) ∨ (s = .int .i64 0 ∧ k = .int .i64 1) ∨ (s = .int .i64 0 ∧ k = .int .i64 2) ∨ (s = .int .i64 0 ∧ k = .int .i64 3))) (fun _ k _ => (3 - intOf k).toNat)
      case atStart => exact ⟨hk.out 0, .inl ⟨rfl, rfl⟩⟩
      case round =>
        clear hk t0 t1 t2 t3 c0 c1 c2 d0 d1 d2 bel
        obtain ⟨hm, hst⟩ := hrel
        have hk : Hid (∀ n, Mem w' (wr.drewN n) w'.heap.size v1.heap.size (v1.heap.size + 1) i a0 f f0 a0 a1 i f0 f1 f) := fun n => hm.drewN n
        obtain ⟨t0, t1, t2, t3, c0, c1, c2, d0, d1, d2, bel⟩ := hm
        rcases hst with ⟨rfl, rfl⟩ | ⟨rfl, rfl⟩ | ⟨rfl, rfl⟩ | ⟨rfl, rfl⟩
        · go_wp2
          go_quiet (fail)
          go_wp2
          go_roundw
          case rel => exact ⟨hk.out _, .inr (.inl ⟨rfl, rfl⟩)⟩
          case measure => decide
        · go_wp2
          go_quiet ((go_at_call 7; first | exact Calls.quiet_of_same (less_of _ _ _ _ _ hpre) | exact Calls.quiet_of_same (less_of _ _ _ _ _ h0)))
          go_wp2
          go_roundw
          case rel => exact ⟨hk.out _, .inr (.inr (.inl ⟨rfl, rfl⟩))⟩
          case measure => decide
        · go_wp2
          go_roundw
          case rel => exact ⟨hk.out 0, .inr (.inr (.inr ⟨rfl, rfl⟩))⟩
          case measure => decide
        · have B : Hid _ := bel
          clear bel hk
          go_wp2
          go_quiet (fail)
          go_wp2
          go_ret
          exact ⟨rfl, below_drewN B.out _⟩

theorem see_row (b : Nat) (a0 a1 i : Int) (f0 f1 f : Nat) (w : World) (hr : Row w b 28 [.int .i64 a0, .int .i64 a1, .float .f64 f0, .float .f64 f1])
    (h0 : lessB f i f0 a0 = false) (h1 : lessB f i f1 a1 = false) :
    Calls Yba.prog 8 #[.pointer (some ⟨b, 0, none⟩), .int .i64 i, .float .f64 f] w fun e w' => e = .returned (.tuple #[]) ∧ Row w' b 28 [.int .i64 a0, .int .i64 a1, .float .f64 f0, .float .f64 f1] ∧ Below b w w' :=
  (see_none b a0 a1 i f0 f1 f w (hr.cell 0) (hr.cell 1) (hr.cell 2) (hr.cell 3) h0 h1).mono fun e w' ⟨he, hw⟩ => ⟨he, by rw [hw]; exact hr, by rw [hw]; exact Below.refl _ _⟩

set_option maxHeartbeats 3200000 in
set_option maxRecDepth 100000 in
theorem low_second (a0 : Int) (f0 : Nat) (a1 : Int) (f1 : Nat) (i : Int) (f : Nat) (w : World) (n0 : (ord f0 f0 == some .eq) = true) (n1 : (ord f1 f1 == some .eq) = true) (n2 : (ord f f == some .eq) = true)
    (hpre : lessB f1 a1 f0 a0 = false) (h0 : lessB f i f0 a0 = false) (h1 : lessB f i f1 a1 = true) :
    Calls Yba.prog 3 #[.int .i64 a0, .float .f64 f0, .int .i64 a1, .float .f64 f1, .int .i64 i, .float .f64 f] w fun e w' => e = .returned (.bool true) ∧ Below w.heap.size w w' := by
  have e0 := eq_of n0
  have e1 := eq_of n1
  have e2 := eq_of n2
  have N0 : Hid _ := n0
  have N1 : Hid _ := n1
  have N2 : Hid _ := n2
  clear n0 n1 n2
  go_enter Yba.func3, Yba.ntmps3
  go_wp2_with (first
    | (go_at_call 6; refine (nan_f f0 _ N0.out).mono ?_; rintro e w' ⟨rfl, rfl⟩)
    | (go_at_call 6; refine (nan_f f1 _ N1.out).mono ?_; rintro e w' ⟨rfl, rfl⟩)
    | (go_at_call 6; refine (nan_f f _ N2.out).mono ?_; rintro e w' ⟨rfl, rfl⟩)
    | (go_at_call 7; refine (less_any _ _ _ _ _).mono ?_; rintro e w' ⟨rfl, rfl⟩)
    | (go_at_call 8; refine (see_second _ a0 a1 _ f0 f1 _ _ (Row.newAt _ [_, _, _, _] 28 _ rfl) h0 h1).mono ?_; rintro e v1 ⟨rfl, row, bel⟩))
  have hmem : ∀ x, x = ((v1.alloc (.cells #[.int .i64 a0, .int .i64 a1, .int .i64 i] 30)).alloc (.cells #[.float .f64 f0, .float .f64 f1, .float .f64 f] 31)) → Mem w' x w'.heap.size v1.heap.size (v1.heap.size + 1) a0 i f0 f a0 a1 i f0 f1 f := fun x e => by
    rw [e]; exact Mem.start row (((Below.refl _ _).alloc (Nat.le_refl _) _).trans bel)
  clear row bel N0 N1 N2
  go_loopw [16, 17] (fun m k wr => Mem w' wr w'.heap.size v1.heap.size (v1.heap.size + 1) a0 i f0 f a0 a1 i f0 f1 f ∧ ((m = .int .i64 0 ∧ k = .int .i64 1) ∨ (m = .int .i64 0 ∧ k = .int .i64 2) ∨ (m = .int .i64 0 ∧ k = .int .i64 3))) (fun _ k _ => (3 - intOf k).toNat)
  case atStart => exact ⟨hmem _ rfl, .inl ⟨rfl, rfl⟩⟩
  case round =>
    obtain ⟨hm, hst⟩ := hrel
    clear hmem
    have hk : Hid (∀ n, Mem w' (wr.drewN n) w'.heap.size v1.heap.size (v1.heap.size + 1) a0 i f0 f a0 a1 i f0 f1 f) := fun n => hm.drewN n
    obtain ⟨t0, t1, t2, t3, c0, c1, c2, d0, d1, d2, bel⟩ := hm
    rcases hst with ⟨rfl, rfl⟩ | ⟨rfl, rfl⟩ | ⟨rfl, rfl⟩
    · go_wp2
      go_quiet ((go_at_call 7; first | exact Calls.quiet_of_same (less_of _ _ _ _ _ hpre) | exact Calls.quiet_of_same (less_of _ _ _ _ _ h0) | exact Calls.quiet_of_same (less_of _ _ _ _ _ h1)))
      go_wp2
      go_roundw
      case rel => exact ⟨hk.out _, .inr (.inl ⟨rfl, rfl⟩)⟩
      case measure => decide
    · go_wp2
      go_quiet ((go_at_call 7; first | exact Calls.quiet_of_same (less_of _ _ _ _ _ hpre) | exact Calls.quiet_of_same (less_of _ _ _ _ _ h0) | exact Calls.quiet_of_same (less_of _ _ _ _ _ h1)))
      go_wp2
      go_roundw
      case rel => exact ⟨hk.out _, .inr (.inr ⟨rfl, rfl⟩)⟩
      case measure => decide
    · go_wp2
      go_loopw [18, 19] (fun s k wr => Mem w' wr w'.heap.size v1.heap.size (v1.heap.size + 1) a0 i f0 f a0 a1 i f0 f1 f ∧ ((s = .int .i64 (-1) ∧ k = .int .i64 0) ∨ (s = .int .i64 (-1) ∧ k = .int .i64 1) ∨ (s = .int .i64 1 ∧ k = .int .i64 2) ∨ (s = .int .i64 2 ∧ k = .int .i64 3))) (fun _ k _ => (3 - intOf k).toNat)
      case atStart => exact ⟨hk.out 0, .inl ⟨rfl, rfl⟩⟩
      case round =>
        clear hk t0 t1 t2 t3 c0 c1 c2 d0 d1 d2 bel
        obtain ⟨hm, hst⟩ := hrel
        have hk : Hid (∀ n, Mem w' (wr.drewN n) w'.heap.size v1.heap.size (v1.heap.size + 1) a0 i f0 f a0 a1 i f0 f1 f) := fun n => hm.drewN n
        obtain ⟨t0, t1, t2, t3, c0, c1, c2, d0, d1, d2, bel⟩ := hm
        rcases hst with ⟨rfl, rfl⟩ | ⟨rfl, rfl⟩ | ⟨rfl, rfl⟩ | ⟨rfl, rfl⟩
        · go_wp2
          go_roundw
          case rel => exact ⟨hk.out 0, .inr (.inl ⟨rfl, rfl⟩)⟩
          case measure => decide
        · go_wp2
          go_quiet (fail)
          go_wp2
          go_roundw
          case rel => exact ⟨hk.out _, .inr (.inr (.inl ⟨rfl, rfl⟩))⟩
          case measure => decide
        · go_wp2
          go_quiet ((go_at_call 7; first | exact Calls.quiet_of_same (less_of _ _ _ _ _ hpre) | exact Calls.quiet_of_same (less_of _ _ _ _ _ h0) | exact Calls.quiet_of_same (less_of _ _ _ _ _ h1)))
          go_wp2
          go_roundw
          case rel => exact ⟨hk.out _, .inr (.inr (.inr ⟨rfl, rfl⟩))⟩
          case measure => decide
        · have B : Hid _ := bel
          clear bel hk
          go_wp2
          go_quiet (fail)
          go_wp2
          go_ret
          exact ⟨rfl, below_drewN B.out _⟩

set_option maxHeartbeats 3200000 in
set_option maxRecDepth 100000 in
theorem low_none (a0 : Int) (f0 : Nat) (a1 : Int) (f1 : Nat) (i : Int) (f : Nat) (w : World) (n0 : (ord f0 f0 == some .eq) = true) (n1 : (ord f1 f1 == some .eq) = true) (n2 : (ord f f == some .eq) = true)
    (hpre : lessB f1 a1 f0 a0 = false) (h0 : lessB f i f0 a0 = false) (h1 : lessB f i f1 a1 = false) :
    Calls Yba.prog 3 #[.int .i64 a0, .float .f64 f0, .int .i64 a1, .float .f64 f1, .int .i64 i, .float .f64 f] w fun e w' => e = .returned (.bool true) ∧ Below w.heap.size w w' := by
  have e0 := eq_of n0
  have e1 := eq_of n1
  have e2 := eq_of n2
  have N0 : Hid _ := n0
  have N1 : Hid _ := n1
  have N2 : Hid _ := n2
  clear n0 n1 n2
  go_enter Yba.func3, Yba.ntmps3
  go_wp2_with (first
    | (go_at_call 6; refine (nan_f f0 _ N0.out).mono ?_; rintro e w' ⟨rfl, rfl⟩)
    | (go_at_call 6; refine (nan_f f1 _ N1.out).mono ?_; rintro e w' ⟨rfl, rfl⟩)
    | (go_at_call 6; refine (nan_f f _ N2.out).mono ?_; rintro e w' ⟨rfl, rfl⟩)
    | (go_at_call 7; refine (less_any _ _ _ _ _).mono ?_; rintro e w' ⟨rfl, rfl⟩)
    | (go_at_call 8; refine (see_row _ a0 a1 _ f0 f1 _ _ (Row.newAt _ [_, _, _, _] 28 _ rfl) h0 h1).mono ?_; rintro e v1 ⟨rfl, row, bel⟩))
  have hmem : ∀ x, x = ((v1.alloc (.cells #[.int .i64 a0, .int .i64 a1, .int .i64 i] 30)).alloc (.cells #[.float .f64 f0, .float .f64 f1, .float .f64 f] 31)) → Mem w' x w'.heap.size v1.heap.size (v1.heap.size + 1) a0 a1 f0 f1 a0 a1 i f0 f1 f := fun x e => by
    rw [e]; exact Mem.start row (((Below.refl _ _).alloc (Nat.le_refl _) _).trans bel)
  clear row bel N0 N1 N2
  go_loopw [16, 17] (fun m k wr => Mem w' wr w'.heap.size v1.heap.size (v1.heap.size + 1) a0 a1 f0 f1 a0 a1 i f0 f1 f ∧ ((m = .int .i64 0 ∧ k = .int .i64 1) ∨ (m = .int .i64 0 ∧ k = .int .i64 2) ∨ (m = .int .i64 0 ∧ k = .int .i64 3))) (fun _ k _ => (3 - intOf k).toNat)
  case atStart => exact ⟨hmem _ rfl, .inl ⟨rfl, rfl⟩⟩
  case round =>
    obtain ⟨hm, hst⟩ := hrel
    clear hmem
    have hk : Hid (∀ n, Mem w' (wr.drewN n) w'.heap.size v1.heap.size (v1.heap.size + 1) a0 a1 f0 f1 a0 a1 i f0 f1 f) := fun n => hm.drewN n
    obtain ⟨t0, t1, t2, t3, c0, c1, c2, d0, d1, d2, bel⟩ := hm
    rcases hst with ⟨rfl, rfl⟩ | ⟨rfl, rfl⟩ | ⟨rfl, rfl⟩
    · go_wp2
      go_quiet ((go_at_call 7; first | exact Calls.quiet_of_same (less_of _ _ _ _ _ hpre) | exact Calls.quiet_of_same (less_of _ _ _ _ _ h0) | exact Calls.quiet_of_same (less_of _ _ _ _ _ h1)))
      go_wp2
      go_roundw
      case rel => exact ⟨hk.out _, .inr (.inl ⟨rfl, rfl⟩)⟩
      case measure => decide
    · go_wp2
      go_quiet ((go_at_call 7; first | exact Calls.quiet_of_same (less_of _ _ _ _ _ hpre) | exact Calls.quiet_of_same (less_of _ _ _ _ _ h0) | exact Calls.quiet_of_same (less_of _ _ _ _ _ h1)))
      go_wp2
      go_roundw
      case rel => exact ⟨hk.out _, .inr (.inr ⟨rfl, rfl⟩)⟩
      case measure => decide
    · go_wp2
      go_loopw [18, 19] (fun s k wr => Mem w' wr w'.heap.size v1.heap.size (v1.heap.size + 1) a0 a1 f0 f1 a0 a1 i f0 f1 f ∧ ((s = .int .i64 (-1) ∧ k = .int .i64 0) ∨ (s = .int .i64 (-1) ∧ k = .int .i64 1) ∨ (s = .int .i64 1 ∧ k = .int .i64 2) ∨ (s = .int .i64 1 ∧ k = .int .i64 3))) (fun _ k _ => (3 - intOf k).toNat)
      case atStart => exact ⟨hk.out 0, .inl ⟨rfl, rfl⟩⟩
      case round =>
        clear hk t0 t1 t2 t3 c0 c1 c2 d0 d1 d2 bel
        obtain ⟨hm, hst⟩ := hrel
        have hk : Hid (∀ n, Mem w' (wr.drewN n) w'.heap.size v1.heap.size (v1.heap.size + 1) a0 a1 f0 f1 a0 a1 i f0 f1 f) := fun n => hm.drewN n
        obtain ⟨t0, t1, t2, t3, c0, c1, c2, d0, d1, d2, bel⟩ := hm
        rcases hst with ⟨rfl, rfl⟩ | ⟨rfl, rfl⟩ | ⟨rfl, rfl⟩ | ⟨rfl, rfl⟩
        · go_wp2
          go_roundw
          case rel => exact ⟨hk.out 0, .inr (.inl ⟨rfl, rfl⟩)⟩
          case measure => decide
        · go_wp2
          go_quiet (fail)
          go_wp2
          go_roundw
          case rel => exact ⟨hk.out _, .inr (.inr (.inl ⟨rfl, rfl⟩))⟩
          case measure => decide
        · go_wp2
          go_quiet ((go_at_call 7; first | exact Calls.quiet_of_same (less_of _ _ _ _ _ hpre) | exact Calls.quiet_of_same (less_of _ _ _ _ _ h0) | exact Calls.quiet_of_same (less_of _ _ _ _ _ h1)))
          go_wp2
          go_roundw
          case rel => exact ⟨hk.out _, .inr (.inr (.inr ⟨rfl, rfl⟩))⟩
          case measure => decide
        · have B : Hid _ := bel
          clear bel hk
          go_wp2
          go_quiet (fail)
          go_wp2
          go_ret
          exact ⟨rfl, below_drewN B.out _⟩

end Go.Proofs.Ybulkbko
