/-
  THE WALK OF 'LawS0118CHigh' (5) WITHOUT A WINDOW.
-/
import Derived.Test.YbulkbkoHighB
import Derived.RegionTactic
import Derived.BigRegion
import Derived.Deep.RegionHeld3
namespace Go.Proofs.Ybulkbko
open Go.ChangeShapes Go.WideShapes Go.ChangeAt Go.RowKit
set_option linter.unusedVariables false
attribute [local go_sem] run_store_float

set_option maxHeartbeats 3200000 in
set_option maxRecDepth 100000 in
theorem high_walk_nil (a0 : Option Addr) (n cap0 : Nat) (c0 m0 : Nat → Nat) (a1 : Option Addr) (len1 cap1 : Nat) (w : World)
    (w0 : Pairs w a0 n c0 m0) (hn : n ≤ 1024) (hl1 : len1 ≤ 1024) :
    Calls Yba.prog 5 #[.slice a0 n cap0, .slice a1 len1 cap1, .bool false] w fun e w' => e = .returned (.bool true) ∧ Below w.heap.size w w' := by
  have hn' : decide ((1024 : Int) < (n : Int)) = false := decide_eq_false (by omega)
  have hl' : decide ((1024 : Int) < (len1 : Int)) = false := decide_eq_false (by omega)
  have mkG := mk38 n hn
  have W0 : Hid (Pairs w a0 n c0 m0) := w0
  clear w0
  go_enter Yba.func5, Yba.ntmps5
  go_wp2
  go_loopw [9] (fun t wr => ∃ k : Nat, k ≤ n ∧ t = .int .i64 k ∧ Gst wr w.heap.size n k c0 m0 ∧ Below w.heap.size w wr) (fun t _ => n - (intOf t).toNat)
  case atStart => exact ⟨0, Nat.zero_le _, rfl, Gst.start w n c0 m0, (Below.refl _ _).alloc (Nat.le_refl _) _⟩
  case round =>
    obtain ⟨k, hk, rfl, hg, hb⟩ := hrel
    clear mkG
    by_cases hlt : k < n
    · have hlt' : (k : Int) < (n : Int) := by omega
      have hlt0 : (0 : Int) ≤ (k : Int) := by omega
      rcases W0.out with h0 | ⟨b0, off0, rfl, hb0, hc⟩
      · omega
      obtain ⟨d1, d2⟩ := hc k hlt
      have e1 := (hb.cell (p := ⟨b0, off0 + k * 2, none⟩) hb0).trans d1
      have e2 := (hb.cell (p := ⟨b0, off0 + k * 2 + 1, none⟩) hb0).trans d2
      obtain ⟨x4, hx4⟩ := hg.any (k * 6 + 4) (by omega)
      obtain ⟨x5, hx5⟩ := hg.any (k * 6 + 5) (by omega)
      have hz := hg.frozen
      have S1 : Hid (Gst ((wr.setCell ⟨w.heap.size, k * 6 + 4, none⟩ (.float .f64 (c0 k))).setCell ⟨w.heap.size, k * 6 + 4 + 1, none⟩ (.float .f64 (m0 k))) w.heap.size n (k + 1) c0 m0) := hg.step hlt
      clear hc d1 d2
      go_wp2
      go_region
      go_wp2
      go_roundw
      case rel => exact ⟨k + 1, by omega, by go_num, S1.out.drew, ((hb.setCell (by exact Nat.le_refl _) _).setCell (by exact Nat.le_refl _) _).drew⟩
      case measure => simp [intOf]; omega
    · obtain rfl : n = k := by omega
      have hGlt := hg.lt
      obtain ⟨cs, hcs, hz109⟩ := pl_zero
      have hcs0 : ¬ cs = #[] := fun e => by rw [e] at hcs; simp at hcs
      have hcs1 : ¬ cs.size < 12 := by omega
      have F0 : Hid (∀ cw cS cp, _ → _ → _ → _ → FinN w _ _ _ _ _ n c0 m0) := fun cw cS cp h4 h1 h0 h11 => FinN.start hg hb cw cS cp h4 h1 h0 h11
      clear hg hk hlt
      go_wp2
      obtain ⟨v, hv⟩ : ∃ v, v = wr := ⟨_, rfl⟩
      subst hv
      go_loopw [14] (fun t wr => ∃ k : Nat, k ≤ n ∧ t = .int .i64 k ∧ FinN w wr (v.heap.size + 1 + 1) (v.heap.size + 1) v.heap.size w.heap.size n c0 m0) (fun t _ => n - (intOf t).toNat)
      case atStart => exact ⟨0, Nat.zero_le _, rfl, F0.out _ _ _ rfl rfl (plc0 hcs _ _) (plc11 hcs _ _)⟩
      case round =>
        clear F0 hz109 hb
        obtain ⟨k, hk, rfl, hf⟩ := hrel
        by_cases hlt : k < n
        · have hlt' : (k : Int) < (n : Int) := by omega
          have hlt0 : (0 : Int) ≤ (k : Int) := by omega
          rcases W0.out with h0 | ⟨b0, off0, rfl, hb0, hc⟩
          · omega
          obtain ⟨d1, d2⟩ := hc k hlt
          have e1 : Hid (wr.cell? ⟨b0, off0 + k * 2, none⟩ = some (.float .f64 (c0 k))) := (hf.bel.cell (p := ⟨b0, off0 + k * 2, none⟩) hb0).trans d1
          have e2 : Hid (wr.cell? ⟨b0, off0 + k * 2 + 1, none⟩ = some (.float .f64 (m0 k))) := (hf.bel.cell (p := ⟨b0, off0 + k * 2 + 1, none⟩) hb0).trans d2
          have hcall : Hid (Calls Yba.prog 11 #[.pointer (some ⟨v.heap.size + 1 + 1, 0, none⟩), .int .i64 k] wr fun e w' => e = .returned (.agg #[.float .f64 (c0 k), .float .f64 (m0 k)]) ∧ Below wr.heap.size wr w') :=
            high_nil _ _ _ _ n k _ _ wr hlt hf.p0 hf.p11 hf.hw hf.s1 (hf.gc k hlt).1 (hf.gc k hlt).2
          have hfb : Hid (∀ x, Below wr.heap.size wr x → FinN w x (v.heap.size + 1 + 1) (v.heap.size + 1) v.heap.size w.heap.size n c0 m0) := fun x hx => hf.below hx
          have hwz := hf.bel.size
          clear hc d1 d2 hf
          go_wp2_with (first
            | (go_at_call 11; refine hcall.out.mono ?_; rintro e x1 ⟨rfl, bel1⟩; have f1 := cell_later' e1.out bel1; have f2 := cell_later' e2.out bel1; have hbx : b0 < x1.heap.size := (by have := bel1.size; omega); have B1 : Hid (Below wr.heap.size wr x1) := bel1; clear bel1))
          go_region
          go_wp2_with (go_at_call 12; refine (same_any _ _ _).mono ?_; rintro e x2 ⟨rfl, bel2⟩)
          go_roundw
          case rel =>
            have hz1 := B1.out.size
            exact ⟨k + 1, by omega, by go_num, hfb.out _ (B1.out.trans ((((((Below.refl _ _).alloc hz1 _).alloc (by simp; omega) _).drew).trans (bel2.mono (by simp; omega)))))⟩
          case measure => simp [intOf]; omega
        · have hbel := hf.bel
          clear hf
          go_wp2
          go_ret
          exact ⟨rfl, hbel⟩
end Go.Proofs.Ybulkbko
