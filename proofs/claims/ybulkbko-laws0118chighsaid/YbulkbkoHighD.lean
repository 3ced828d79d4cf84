/-
  THE WALK OF 'LawS0118CHigh' (5) WITH A WINDOW.
-/
import Derived.Test.YbulkbkoHighB
import Derived.RegionTactic
import Derived.BigRegion
import Derived.Deep.RegionHeld3
namespace Go.Proofs.Ybulkbko
open Go.ChangeShapes Go.WideShapes Go.ChangeAt Go.RowKit
set_option linter.unusedVariables false
attribute [local go_sem] run_store_float

theorem FinS.start {w u : World} {Wo Hs n : Nat} {c m : Nat → Nat} {x0 x1 x2 x3 x4 x5 : Value} (hr : Row u Wo 48 [x0, x1, x2, x3, x4, x5]) (hh : Hst u Hs n n c m) (hne : Hs ≠ Wo) (hw : w.heap.size ≤ Wo) (hb : Below w.heap.size w u) (cS cp : Array Value)
    (h11 : cp[11]? = some (.pointer (some ⟨Wo, 0, none⟩))) :
    FinS w (((u.setCell ⟨Wo, 4, none⟩ (.slice (some ⟨Hs, 0, none⟩) n n)).alloc (.cells cS 53)).alloc (.cells cp 109)) (u.heap.size + 1) Wo Hs n c m where
  p11 := by have := (Row.newAt ((u.setCell ⟨Wo, 4, none⟩ (.slice (some ⟨Hs, 0, none⟩) n n)).alloc (.cells cS 53)) cp.toList 109 (u.heap.size + 1) (by simp)).cell 11; simp at this; rw [this]; simpa using h11
  hw := (((hr.set 4 (.slice (some ⟨Hs, 0, none⟩) n n)).alloc (.cells cS 53)).alloc (.cells cp 109)).cell 4
  hc j hj := by
    obtain ⟨xs, hl, hrow, hx⟩ := hh
    have r2 := (((hrow.other Wo 4 (.slice (some ⟨Hs, 0, none⟩) n n) hne).alloc (.cells cS 53)).alloc (.cells cp 109))
    rw [r2.cell, r2.cell]
    have := hx j hj
    rw [if_pos hj, if_pos hj] at this
    exact this
  bel := ((hb.setCell (by exact hw) _).alloc (by simpa using hb.size) _).alloc (by simp; have := hb.size; omega) _

set_option maxHeartbeats 3200000 in
set_option maxRecDepth 100000 in
theorem high_walk_some (a0 : Option Addr) (n cap0 : Nat) (c0 m0 : Nat → Nat) (a1 : Option Addr) (len1 cap1 : Nat) (c1 m1 : Nat → Nat) (w : World)
    (w0 : Pairs w a0 n c0 m0) (w1 : Pairs w a1 len1 c1 m1) (hn : n ≤ 1024) (hl1 : len1 ≤ 1024) :
    Calls Yba.prog 5 #[.slice a0 n cap0, .slice a1 len1 cap1, .bool true] w fun e w' => e = .returned (.bool true) ∧ Below w.heap.size w w' := by
  have hn' : decide ((1024 : Int) < (n : Int)) = false := decide_eq_false (by omega)
  have hl' : decide ((1024 : Int) < (len1 : Int)) = false := decide_eq_false (by omega)
  have mkG := mk38 n hn
  have mkH := mk46 n hn
  have W1 : Hid (Pairs w a1 len1 c1 m1) := w1
  clear w1
  have W0 : Hid (Pairs w a0 n c0 m0) := w0
  clear w0
  go_enter Yba.func5, Yba.ntmps5
  go_wp2
  go_loopw [9] (fun t wr => ∃ k : Nat, k ≤ n ∧ t = .int .i64 k ∧ Gst wr w.heap.size n k c0 m0 ∧ Below w.heap.size w wr) (fun t _ => n - (intOf t).toNat)
  case atStart => exact ⟨0, Nat.zero_le _, rfl, Gst.start w n c0 m0, (Below.refl _ _).alloc (Nat.le_refl _) _⟩
  case round =>
    obtain ⟨k, hk, rfl, hg, hb⟩ := hrel
    clear mkG
    by_cases hlt : k < n
    · have hlt' : (k : Int) < (n : Int) := by omega
      have hlt0 : (0 : Int) ≤ (k : Int) := by omega
      rcases W0.out with h0 | ⟨b0, off0, rfl, hb0, hc⟩
      · omega
      obtain ⟨d1, d2⟩ := hc k hlt
      have e1 := (hb.cell (p := ⟨b0, off0 + k * 2, none⟩) hb0).trans d1
      have e2 := (hb.cell (p := ⟨b0, off0 + k * 2 + 1, none⟩) hb0).trans d2
      obtain ⟨x4, hx4⟩ := hg.any (k * 6 + 4) (by omega)
      obtain ⟨x5, hx5⟩ := hg.any (k * 6 + 5) (by omega)
      have hz := hg.frozen
      have S1 : Hid (Gst ((wr.setCell ⟨w.heap.size, k * 6 + 4, none⟩ (.float .f64 (c0 k))).setCell ⟨w.heap.size, k * 6 + 4 + 1, none⟩ (.float .f64 (m0 k))) w.heap.size n (k + 1) c0 m0) := hg.step hlt
      clear hc d1 d2
      go_wp2
      go_region
      go_wp2
      go_roundw
      case rel => exact ⟨k + 1, by omega, by go_num, S1.out.drew, ((hb.setCell (by exact Nat.le_refl _) _).setCell (by exact Nat.le_refl _) _).drew⟩
      case measure => simp [intOf]; omega
    · obtain rfl : n = k := by omega
      have hGlt := hg.lt
      clear W0
      obtain ⟨hc, hhc⟩ : ∃ hc : Nat → Nat, ∀ j, hc j = if j < len1 then c1 j else 0 := ⟨_, fun _ => rfl⟩
      obtain ⟨hm, hhm⟩ : ∃ hm : Nat → Nat, ∀ j, hm j = if j < len1 then m1 j else 0 := ⟨_, fun _ => rfl⟩
      have HC : Hid (∀ j, hc j = if j < len1 then c1 j else 0) := hhc
      have HM : Hid (∀ j, hm j = if j < len1 then m1 j else 0) := hhm
      clear hhc hhm hk hlt hg
      go_wp2
      obtain ⟨v, hv⟩ : ∃ v, v = wr := ⟨_, rfl⟩
      subst hv
      go_loopw [12] (fun t wr => ∃ k : Nat, k ≤ n ∧ t = .int .i64 k ∧ Hst wr (v.heap.size + 1) n k hc hm ∧ Row wr v.heap.size 48 [.float .f64 0, .float .f64 0, .float .f64 0, .slice none 0 0, .slice none 0 0, .bool false] ∧ Below w.heap.size w wr) (fun t _ => n - (intOf t).toNat)
      case atStart => exact ⟨0, Nat.zero_le _, rfl, Hst.start _ n _ hc hm (by simp), (Row.newAt v [_, _, _, _, _, _] 48 _ rfl).alloc _, (hb.alloc hb.size _).alloc (by simp; have := hb.size; omega) _⟩
      case round =>
        clear mkH hb
        obtain ⟨k, hk, rfl, hh, hrow, hb⟩ := hrel
        by_cases hlt : k < n
        · have hlt' : (k : Int) < (n : Int) := by omega
          have hlt0 : (0 : Int) ≤ (k : Int) := by omega
          by_cases hk1 : k < len1
          · have hk1' : (k : Int) < (len1 : Int) := by omega
            rcases W1.out with h0 | ⟨b0, off0, rfl, hb0, hcc⟩
            · omega
            obtain ⟨d1, d2⟩ := hcc k hk1
            have e1 := (hb.cell (p := ⟨b0, off0 + k * 2, none⟩) hb0).trans d1
            have e2 := (hb.cell (p := ⟨b0, off0 + k * 2 + 1, none⟩) hb0).trans d2
            obtain ⟨x0, hx0⟩ := hh.any (k * 2) (by omega)
            obtain ⟨x1, hx1⟩ := hh.any (k * 2 + 1) (by omega)
            have hz := hh.frozen
            have q1 : c1 k = hc k := by rw [HC.out k, if_pos hk1]
            have q2 : m1 k = hm k := by rw [HM.out k, if_pos hk1]
            have S1 : Hid (Hst ((wr.setCell ⟨v.heap.size + 1, k * 2, none⟩ (.float .f64 (hc k))).setCell ⟨v.heap.size + 1, k * 2 + 1, none⟩ (.float .f64 (hm k))) (v.heap.size + 1) n (k + 1) hc hm) := hh.step hlt
            rw [q1] at e1
            rw [q2] at e2
            have R1 : Hid (Row _ _ _ _) := hrow
            clear hcc d1 d2 q1 q2 hh hrow
            go_wp2
            go_region
            go_wp2
            go_roundw
            case rel => exact ⟨k + 1, by omega, by go_num, S1.out.drew, ((R1.out.other _ _ _ (by omega)).other _ _ _ (by omega)).drew, ((hb.setCell (by have := hb.size; simp; omega) _).setCell (by have := hb.size; simp; omega) _).drew⟩
            case measure => simp [intOf]; omega
          · have S1 : Hid (Hst wr (v.heap.size + 1) n (k + 1) hc hm) := hh.skip (by rw [HC.out k, if_neg hk1]) (by rw [HM.out k, if_neg hk1])
            clear hh
            go_wp2
            go_roundw
            case rel => exact ⟨k + 1, by omega, by go_num, S1.out, hrow, hb⟩
            case measure => simp [intOf]; omega
        · obtain rfl : n = k := by omega
          obtain ⟨cs, hcs, hz109⟩ := pl_zero
          have hcs0 : ¬ cs = #[] := fun e => by rw [e] at hcs; simp at hcs
          have hcs1 : ¬ cs.size < 12 := by omega
          have hr4 : wr.cell? ⟨v.heap.size, 4, none⟩ = some (.slice none 0 0) := hrow.cell 4
          have hz4 := hrow.frozen 4
          have R1 : Hid (Row _ _ _ _) := hrow
          have HH : Hid (Hst wr (v.heap.size + 1) n n hc hm) := hh
          have hvw := hb.size
          clear hk hlt hh hrow
          go_wp2
          obtain ⟨u, hu⟩ : ∃ u, u = wr := ⟨_, rfl⟩
          subst hu
          go_loopw [14] (fun t wr => ∃ k : Nat, k ≤ n ∧ t = .int .i64 k ∧ FinS w wr (u.heap.size + 1) v.heap.size (v.heap.size + 1) n hc hm) (fun t _ => n - (intOf t).toNat)
          case atStart => exact ⟨0, Nat.zero_le _, rfl, FinS.start R1.out HH.out (by omega) (by omega) hb _ _ (plc11 hcs _ _)⟩
          case round =>
            clear hz109 hb R1 HH hr4 hz4
            obtain ⟨k, hk, rfl, hf⟩ := hrel
            by_cases hlt : k < n
            · have hlt' : (k : Int) < (n : Int) := by omega
              have hlt0 : (0 : Int) ≤ (k : Int) := by omega
              have hcall : Hid (Calls Yba.prog 11 #[.pointer (some ⟨u.heap.size + 1, 0, none⟩), .int .i64 k] wr fun e w' => e = .returned (.agg #[.float .f64 (hc k), .float .f64 (hm k)]) ∧ Below wr.heap.size wr w') :=
                high_some _ _ _ n k _ _ wr hlt hf.p11 hf.hw (hf.hc k hlt).1 (hf.hc k hlt).2
              have hfb : Hid (∀ x, Below wr.heap.size wr x → FinS w x (u.heap.size + 1) v.heap.size (v.heap.size + 1) n hc hm) := fun x hx => hf.below hx
              have hwz := hf.bel.size
              by_cases hk1 : k < len1
              · have hk1' : (k : Int) < (len1 : Int) := by omega
                rcases W1.out with h0 | ⟨b0, off0, rfl, hb0, hcc⟩
                · omega
                obtain ⟨d1, d2⟩ := hcc k hk1
                have q1 : c1 k = hc k := by rw [HC.out k, if_pos hk1]
                have q2 : m1 k = hm k := by rw [HM.out k, if_pos hk1]
                rw [q1] at d1
                rw [q2] at d2
                have e1 : Hid (wr.cell? ⟨b0, off0 + k * 2, none⟩ = some (.float .f64 (hc k))) := (hf.bel.cell (p := ⟨b0, off0 + k * 2, none⟩) hb0).trans d1
                have e2 : Hid (wr.cell? ⟨b0, off0 + k * 2 + 1, none⟩ = some (.float .f64 (hm k))) := (hf.bel.cell (p := ⟨b0, off0 + k * 2 + 1, none⟩) hb0).trans d2
                clear hcc d1 d2 hf q1 q2
                go_wp2_with (first
                  | (go_at_call 11; refine hcall.out.mono ?_; rintro e x1 ⟨rfl, bel1⟩; have f1 := cell_later' e1.out bel1; have f2 := cell_later' e2.out bel1; have hbx : b0 < x1.heap.size := (by have := bel1.size; omega); have B1 : Hid (Below wr.heap.size wr x1) := bel1; clear bel1))
                go_region
                go_wp2_with (go_at_call 12; refine (same_any _ _ _).mono ?_; rintro e x2 ⟨rfl, bel2⟩)
                go_roundw
                case rel =>
                  have hz1 := B1.out.size
                  exact ⟨k + 1, by omega, by go_num, hfb.out _ (B1.out.trans ((((((Below.refl _ _).alloc hz1 _).alloc (by simp; omega) _).drew).trans (bel2.mono (by simp; omega)))))⟩
                case measure => simp [intOf]; omega
              · have q1 : hc k = 0 := by rw [HC.out k, if_neg hk1]
                have q2 : hm k = 0 := by rw [HM.out k, if_neg hk1]
                rw [q1, q2] at hcall
                clear hf q1 q2
                go_wp2_with (first
                  | (go_at_call 11; refine hcall.out.mono ?_; rintro e x1 ⟨rfl, bel1⟩; have B1 : Hid (Below wr.heap.size wr x1) := bel1; clear bel1)
                  | (go_at_call 12; refine (same_any _ _ _).mono ?_; rintro e x2 ⟨rfl, bel2⟩))
                go_roundw
                case rel =>
                  have hz1 := B1.out.size
                  exact ⟨k + 1, by omega, by go_num, hfb.out _ (B1.out.trans (((((Below.refl _ _).alloc hz1 _).alloc (by simp; omega) _).trans (bel2.mono (by simp; omega)))))⟩
                case measure => simp [intOf]; omega
            · have hbel := hf.bel
              clear hf
              go_wp2
              go_ret
              exact ⟨rfl, hbel⟩
end Go.Proofs.Ybulkbko
