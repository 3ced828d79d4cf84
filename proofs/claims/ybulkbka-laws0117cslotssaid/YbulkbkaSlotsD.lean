/-
  THE WALK OF 'LawS0117CSlots' (5): four loops behind one another.
-/
import Derived.Test.YbulkbkaSlotsC
namespace Go.Proofs.Ybulkbka
open Go.ChangeShapes Go.WideShapes Go.ChangeAt Go.RowKit
set_option linter.unusedVariables false

/-- What a walk asks of a slice of bytes that came in. -/
def Bytes (w : World) (a : Option Addr) (len : Nat) (zs : List Int) : Prop :=
  len = 0 ∨ ∃ b off, a = some ⟨b, off, none⟩ ∧ b < w.heap.size ∧ ∀ i, i < len → w.cell? ⟨b, off + i, none⟩ = some (.int .u8 (zs.getD i 0)) ∧ 0 ≤ zs.getD i 0 ∧ zs.getD i 0 ≤ 255
def Bools (w : World) (a : Option Addr) (len : Nat) (B : Nat → Bool) : Prop :=
  len = 0 ∨ ∃ b off, a = some ⟨b, off, none⟩ ∧ b < w.heap.size ∧ ∀ i, i < len → w.cell? ⟨b, off + i, none⟩ = some (.bool (B i))

set_option maxHeartbeats 3200000 in
set_option maxRecDepth 100000 in
theorem slots_walk (a0 : Option Addr) (m cap0 : Nat) (z0 : List Int) (a1 : Option Addr) (len1 cap1 : Nat) (z1 : List Int) (a2 : Option Addr) (len2 cap2 : Nat) (B2 : Nat → Bool) (w : World)
    (w0 : Bytes w a0 m z0) (w1 : Bytes w a1 len1 z1) (w2 : Bools w a2 len2 B2) (hl1 : len1 ≤ maxLen) (hl2 : len2 ≤ maxLen) :
    Calls Yba.prog 5 #[.slice a0 m cap0, .slice a1 len1 cap1, .slice a2 len2 cap2] w fun e w' => e = .returned (.bool true) ∧ Below w.heap.size w w' := by
  unfold maxLen at hl1 hl2
  by_cases hbig : 1024 < m
  · go_enter Yba.func5, Yba.ntmps5
    go_wp2
    go_ret
    exact ⟨rfl, Below.refl _ _⟩
  · have hbig' : decide ((1024 : Int) < (m : Int)) = false := decide_eq_false (by omega)
    obtain ⟨nc, hnc, hn1, hn8⟩ : ∃ nc : Nat, 1 + (len1 : Int) % 8 = (nc : Int) ∧ 1 ≤ nc ∧ nc ≤ 8 := ⟨1 + len1 % 8, by omega, by omega, by omega⟩
    have mkC := run_make_row' (P := Yba.prog) 36 37 (.pointer none) 8 Yba.underlying36 Yba.info37 rfl .i64 .i64 nc (by omega) (by omega)
    have mkP := run_make_row' (P := Yba.prog) 46 48 (.int .u32 0) 4 Yba.underlying46 Yba.info48 rfl .i64 .i64 m (by omega) (by omega)
    have mkT := run_make_row' (P := Yba.prog) 36 37 (.pointer none) 8 Yba.underlying36 Yba.info37 rfl .i64 .i64 m (by omega) (by omega)
    have mkL := run_make_row' (P := Yba.prog) 50 2 (.int .i64 0) 8 Yba.underlying50 Yba.info2 rfl .i64 .i64 m (by omega) (by omega)
    have W0 : Hid (Bytes w a0 m z0) := w0
    have W1 : Hid (Bytes w a1 len1 z1) := w1
    have W2 : Hid (Bools w a2 len2 B2) := w2
    clear w0 w1 w2
    go_enter Yba.func5, Yba.ntmps5
    go_wp2
    go_loopw [10] (fun t wr => ∃ (k : Nat) (ps : List (Option Addr)), k ≤ nc ∧ t = .int .i64 k ∧ ps.length = nc ∧ Row wr w.heap.size 37 (ps.map Value.pointer) ∧ Below w.heap.size w wr) (fun t _ => nc - (intOf t).toNat)
    case atStart => exact ⟨0, List.replicate nc none, Nat.zero_le _, rfl, by simp, by simpa using Row.made w 37 nc (.pointer none), (Below.refl _ _).alloc (Nat.le_refl _) _⟩
    case round =>
      obtain ⟨k, ps, hk, rfl, hpl, hrow, hbel⟩ := hrel
      by_cases hlt : k < nc
      · have hlt' : (k : Int) < (nc : Int) := by omega
        have hck := ptr_cell hrow k (by omega)
        have hfk := hrow.frozen k
        have hsz := hrow.lt
        by_cases hk2 : k < len2
        · rcases W2.out with h0 | ⟨b, off, rfl, hb, hc⟩
          · omega
          · have hcb : wr.cell? ⟨b, off + k, none⟩ = some (.bool (B2 k)) := (hbel.cell (p := ⟨b, off + k, none⟩) hb).trans (hc k hk2)
            clear hc
            cases hB : B2 k
            · rw [hB] at hcb
              go_wp2
              go_roundw
              case rel => exact ⟨k + 1, ps.set k (some ⟨wr.heap.size, 0, none⟩), by omega, by go_num, by simpa using hpl, by rw [List.map_set]; exact (hrow.set k _).alloc _, (hbel.setCell (by exact Nat.le_refl _) _).alloc (by simpa using hbel.size) _⟩
              case measure => simp [intOf]; omega
            · rw [hB] at hcb
              go_wp2
              go_roundw
              case rel => exact ⟨k + 1, ps, by omega, by go_num, hpl, hrow, hbel⟩
              case measure => simp [intOf]; omega
        · go_wp2
          go_roundw
          case rel => exact ⟨k + 1, ps.set k (some ⟨wr.heap.size, 0, none⟩), by omega, by go_num, by simpa using hpl, by rw [List.map_set]; exact (hrow.set k _).alloc _, (hbel.setCell (by exact Nat.le_refl _) _).alloc (by simpa using hbel.size) _⟩
          case measure => simp [intOf]; omega
      · obtain rfl : nc = k := by omega
        have hst := St.start (m := m) hrow hbel
        have hsz1 := hrow.lt
        go_wp2
        obtain ⟨v1, hv1⟩ : ∃ v1, v1 = wr := ⟨_, rfl⟩
        subst hv1
        clear hrow hbel W2
        go_loopw [13] (fun t wr => ∃ (k : Nat) (zs : List Int) (qs : List (Option Addr)), k ≤ m ∧ t = .int .i64 k ∧ St w wr w.heap.size v1.heap.size (v1.heap.size + 1) m k ps zs qs) (fun t _ => m - (intOf t).toNat)
        case atStart => exact ⟨0, _, _, Nat.zero_le _, rfl, hst⟩
        case round =>
          obtain ⟨k, zs, qs, hk, rfl, hs⟩ := hrel
          clear hst
          by_cases hlt : k < m
          · have hlt' : (k : Int) < (m : Int) := by omega
            have hcP := u32_cell hs.rp k (by have := hs.lz; omega)
            have hfP := hs.rp.frozen k
            have hcT := ptr_cell hs.rt k (by have := hs.lq; omega)
            have hfT := hs.rt.frozen k
            have ne1 : ¬ w.heap.size = v1.heap.size := by omega
            have ne2 : ¬ v1.heap.size = w.heap.size := by omega
            have ne3 : ¬ w.heap.size = v1.heap.size + 1 := by omega
            rcases W0.out with h0 | ⟨b0, off0, rfl, hb0, hc0⟩
            · omega
            obtain ⟨hcz0, hz1, hz2⟩ := hc0 k hlt
            have hcz := (hs.bel.cell (p := ⟨b0, off0 + k, none⟩) hb0).trans hcz0
            obtain ⟨z, hz⟩ : ∃ z, z = z0.getD k 0 := ⟨_, rfl⟩
            rw [← hz] at hcz hz1 hz2
            clear hc0 hcz0 hz
            have step0 := hs.step0 hlt (by omega) (by omega) (by omega) (by omega)
            have step1 := fun s hs' => hs.step1 hlt (by omega) (by omega) (by omega) (by omega) (by omega) s hs'
            have hcC := fun s hs' => ptr_cell hs.rc s hs'
            have hlz := hs.lz
            have hlq := hs.lq
            have hbelr := hs.bel
            clear hs
            have S0 : Hid _ := step0
            have S1 : Hid _ := step1
            clear step0 step1
            obtain ⟨s0, hs0, hsm0⟩ : ∃ s : Nat, s < nc ∧ (k : Int) % (nc : Int) = (s : Int) := ⟨k % nc, Nat.mod_lt _ (by omega), by simp⟩
            by_cases hk1 : k < len1
            · have hk1' : (k : Int) < (len1 : Int) := by omega
              rcases W1.out with h0 | ⟨b1, off1, rfl, hb1, hc1⟩
              · omega
              obtain ⟨hcy0, hy1, hy2⟩ := hc1 k hk1
              have hcy := (hbelr.cell (p := ⟨b1, off1 + k, none⟩) hb1).trans hcy0
              obtain ⟨y, hy⟩ : ∃ y, y = z1.getD k 0 := ⟨_, rfl⟩
              rw [← hy] at hcy hy1 hy2
              clear hc1 hcy0 hy
              obtain ⟨s1, hs1, hsm1⟩ : ∃ s : Nat, s < nc ∧ y % (nc : Int) = (s : Int) := ⟨(y % (nc : Int)).toNat, by
                have := Int.emod_nonneg y (b := (nc : Int)) (by omega)
                have := Int.emod_lt_of_pos y (b := (nc : Int)) (by omega)
                omega, by
                have := Int.emod_nonneg y (b := (nc : Int)) (by omega)
                omega⟩
              obtain ⟨q, hq⟩ : ∃ q, q = ps.getD s1 none := ⟨_, rfl⟩
              have S2 : Hid (∀ z : Int, (z = inC s1 ∨ z = inH s1) → St w ((wr.setCell ⟨v1.heap.size, k, none⟩ (.int .u32 z)).setCell ⟨v1.heap.size + 1, k, none⟩ (.pointer q)) w.heap.size v1.heap.size (v1.heap.size + 1) m (k + 1) ps (zs.set k z) (qs.set k q)) := fun z hz => by
                rw [hq]; exact S1.out s1 (by omega) z hz
              have hor1 := or_C s1 (by omega)
              have hor2 := or_H s1 (by omega)
              have hcs := hcC s1 (by omega)
              rw [← hq] at hcs
              clear hcC S1 hq
              rcases (show z % 3 = 0 ∨ z % 3 = 1 ∨ z % 3 = 2 from by omega) with h3 | h3 | h3
              · go_wp2
                go_roundw
                case rel => exact ⟨k + 1, _, _, by omega, by go_num, S0.out⟩
                case measure => simp [intOf]; omega
              · go_wp2
                go_roundw
                case rel => exact ⟨k + 1, _, _, by omega, by go_num, S2.out _ (.inl rfl)⟩
                case measure => simp [intOf]; omega
              · go_wp2
                go_roundw
                case rel => exact ⟨k + 1, _, _, by omega, by go_num, S2.out _ (.inr rfl)⟩
                case measure => simp [intOf]; omega
            ·
              obtain ⟨q, hq⟩ : ∃ q, q = ps.getD s0 none := ⟨_, rfl⟩
              have S2 : Hid (∀ z : Int, (z = inC s0 ∨ z = inH s0) → St w ((wr.setCell ⟨v1.heap.size, k, none⟩ (.int .u32 z)).setCell ⟨v1.heap.size + 1, k, none⟩ (.pointer q)) w.heap.size v1.heap.size (v1.heap.size + 1) m (k + 1) ps (zs.set k z) (qs.set k q)) := fun z hz => by
                rw [hq]; exact S1.out s0 (by omega) z hz
              have hor1 := or_C s0 (by omega)
              have hor2 := or_H s0 (by omega)
              have hcs := hcC s0 (by omega)
              rw [← hq] at hcs
              clear hcC S1 hq
              rcases (show z % 3 = 0 ∨ z % 3 = 1 ∨ z % 3 = 2 from by omega) with h3 | h3 | h3
              · go_wp2
                go_roundw
                case rel => exact ⟨k + 1, _, _, by omega, by go_num, S0.out⟩
                case measure => simp [intOf]; omega
              · go_wp2
                go_roundw
                case rel => exact ⟨k + 1, _, _, by omega, by go_num, S2.out _ (.inl rfl)⟩
                case measure => simp [intOf]; omega
              · go_wp2
                go_roundw
                case rel => exact ⟨k + 1, _, _, by omega, by go_num, S2.out _ (.inr rfl)⟩
                case measure => simp [intOf]; omega
          · obtain rfl : m = k := by omega
            have hfin := fun o cs h3 h5 => Fin.start (nc := nc) hs hpl o cs h3 h5
            have F1 : Hid _ := hfin
            clear hfin hs
            go_wp2
            obtain ⟨v2, hv2⟩ : ∃ v2, v2 = wr := ⟨_, rfl⟩
            subst hv2
            clear W0 W1
            go_loopw [16] (fun t wr => ∃ k : Nat, k ≤ m ∧ t = .int .i64 k ∧ Fin w wr (v2.heap.size + 1) w.heap.size v1.heap.size (v1.heap.size + 1) m nc ps zs qs) (fun t _ => m - (intOf t).toNat)
            case atStart => exact ⟨0, Nat.zero_le _, rfl, F1.out _ _ rfl rfl⟩
            case round =>
              clear F1
              obtain ⟨k, hk, rfl, hf⟩ := hrel
              by_cases hlt : k < m
              · have hlt' : (k : Int) < (m : Int) := by omega
                have hlt0 : (0 : Int) ≤ (k : Int) := by omega
                have hcall : Hid (∀ n, Calls Yba.prog 9 #[.pointer (some ⟨v2.heap.size + 1, 0, none⟩), .int .i64 k] (wr.drewN n) fun e w' => e = .returned (.pointer (qs.getD k none)) ∧ ∃ n', w' = (wr.drewN n).drewN n') := fun n =>
                  chain_good _ _ _ m k nc ps _ _ _ hlt hpl hn8 (hf.drewN n).c3 (hf.drewN n).c5 ((hf.drewN n).pc k hlt) (hf.drewN n).cc (hf.good k hlt)
                have hct := hf.tc k hlt
                have hkeep : Hid (∀ n, Fin w (wr.drewN n) (v2.heap.size + 1) w.heap.size v1.heap.size (v1.heap.size + 1) m nc ps zs qs) := fun n => hf.drewN n
                obtain ⟨q, hq⟩ : ∃ q, q = qs.getD k none := ⟨_, rfl⟩
                rw [← hq] at hct hcall
                clear hq hf
                have hnq := neq_same q
                go_wp2
                go_quiet ((go_at_call 9; exact Calls.quiet_of (hcall.out _)))
                go_wp2
                go_roundw
                case rel => exact ⟨k + 1, by omega, by go_num, hkeep.out _⟩
                case measure => simp [intOf]; omega
              · obtain rfl : m = k := by omega
                go_wp2
                go_loopw [17] (fun t wr => ∃ k : Nat, k ≤ nc ∧ t = .int .i64 k ∧ Fin w wr (v2.heap.size + 1) w.heap.size v1.heap.size (v1.heap.size + 1) m nc ps zs qs) (fun t _ => nc - (intOf t).toNat)
                case atStart => exact ⟨0, Nat.zero_le _, rfl, hf⟩
                case round =>
                  clear hf
                  obtain ⟨k, hk, rfl, hf⟩ := hrel
                  have c3 := hf.c3
                  have c5 := hf.c5
                  by_cases hlt : k < nc
                  · have hlt' : (k : Int) < (nc : Int) := by omega
                    have hlt0 : (0 : Int) ≤ (k : Int) := by omega
                    have hct := hf.cc k hlt
                    have hkeep : Hid (∀ n, Fin w (wr.drewN n) (v2.heap.size + 1) w.heap.size v1.heap.size (v1.heap.size + 1) m nc ps zs qs) := fun n => hf.drewN n
                    obtain ⟨q, hq⟩ : ∃ q, q = ps.getD k none := ⟨_, rfl⟩
                    rw [← hq] at hct
                    clear hq hf
                    have hnq := neq_same q
                    go_wp2
                    go_quiet (fail)
                    go_wp2
                    go_roundw
                    case rel => exact ⟨k + 1, by omega, by go_num, hkeep.out _⟩
                    case measure => simp [intOf]; omega
                  · obtain rfl : nc = k := by omega
                    have hbel := hf.bel
                    clear hf
                    go_wp2
                    go_ret
                    exact ⟨rfl, hbel⟩
end Go.Proofs.Ybulkbka
