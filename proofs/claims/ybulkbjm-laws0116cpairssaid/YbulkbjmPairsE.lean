/-
  'LawS0116CPairs' (5), a theorem for each of the three bools' values: hasRefundable.
-/
import Derived.Test.YbulkbjmPairsD
import Derived.Deep.RegionHeld3
import Derived.Deep.AppendLies
import Derived.StillTactics
import Derived.Lib.SliceRun
namespace Go.Proofs.Ybulkbjm
open Go.ChangeShapes Go.WideShapes Go.ChangeAt Go.RowKit
set_option linter.unusedVariables false

set_option linter.unusedSimpArgs false in
set_option maxHeartbeats 3200000 in
set_option maxRecDepth 100000 in
theorem walk_ttt (a0 a4 : ByteArray) (a5 a6 : Int) (a7 a8 : ByteArray) (a9 : Option Addr) (len9 cap9 : Nat) (w : World) (hbig : ¬ 1024 < len9) :
    Calls Yba.prog 5 #[.string a0, .bool true, .bool true, .bool true, .string a4, .int .i64 a5, .int .i64 a6, .string a7, .string a8, .slice a9 len9 cap9] w fun e w' => e = .returned (.bool true) ∧ Below w.heap.size w w' := by
  have hbig' : decide ((1024 : Int) < (len9 : Int)) = false := decide_eq_false (by omega)
  obtain ⟨i0, hi0, hz0, hz1, hz2⟩ := info_parts Yba.info9
  have q27 : ∀ (w : World) (a : Option Addr) (n c n' c' : Nat), (binOp .eql 27 (.slice a n c) (.slice none n' c')).run Yba.prog w = .ok (.bool a.isNone) w := fun w a n c n' c' => Lib.run_eql_slice_nil w _ _ a n c n' c' Yba.underlying27
  go_enter Yba.func5, Yba.ntmps5
  go_wp2_with fail
  go_loopw [27, 28] (fun v t wr => ∃ k : Nat, k ≤ 4 ∧ t = .int .i64 k ∧ Own (w.heap.size + 6) wr v (upTo [!a0.toList.isEmpty, true, true, !a7.toList.isEmpty] [a0, flagB true, a4, a7] k) ∧
      Laid wr w.heap.size (w.heap.size + 1 + 1 + 1) (w.heap.size + 1 + 1 + 1 + 1) (w.heap.size + 1 + 1 + 1 + 1 + 1) [!a0.toList.isEmpty, true, true, !a7.toList.isEmpty] [a0, flagB true, a4, a7]
        (.string a0) (.pointer (some ⟨w.heap.size + 1, 0, none⟩)) (.pointer (some ⟨w.heap.size + 1 + 1, 0, none⟩)) (.string a7) (.string a8) (.slice a9 len9 cap9) true true true (w.heap.size + 1) (w.heap.size + 1 + 1) a4 ∧
      Below w.heap.size w wr ∧ w.heap.size + 6 ≤ wr.heap.size) (fun _ t _ => 4 - (intOf t).toNat)
  case atStart =>
    refine ⟨0, by omega, rfl, Own.nil _ _, ⟨four ?_ ?_ ?_ ?_, four ?_ ?_ ?_ ?_, four ?_ ?_ ?_ ?_, ?_, ?_, ?_, ?_, ?_, ?_, fun _ => ?_, fun _ => ?_⟩, ?_, ?_⟩
    all_goals first | (simp [go_sem, nmL, nm0, nm1, nm2, nm3, flagB]; done) | (repeat (first | exact Below.refl _ _ | refine Below.alloc ?_ (by simp <;> omega) _)); done
  case round =>
    obtain ⟨k, hk, rfl, hown, hlaid, hbel, hsz⟩ := hrel
    by_cases hlt : k < 4
    · have hlt' : (k : Int) < 4 := by omega
      have hlt0 : (0 : Int) ≤ (k : Int) := by omega
      have hlen := upTo_len [!a0.toList.isEmpty, true, true, !a7.toList.isEmpty] [a0, flagB true, a4, a7] k
      have cn := hlaid.names k hlt
      have cv := hlaid.vals k hlt
      have cp := hlaid.pres k hlt
      cases hp : [!a0.toList.isEmpty, true, true, !a7.toList.isEmpty].getD k false
      · rw [hp] at cp
        have HU := upTo_f (V := [a0, flagB true, a4, a7]) hp
        have hown' : Own (w.heap.size + 6) wr u27 (upTo [!a0.toList.isEmpty, true, true, !a7.toList.isEmpty] [a0, flagB true, a4, a7] (k + 1)) := by rw [HU]; exact hown
        clear HU hp cn cv hown hlen
        go_wp2
        go_roundw
        case rel => exact ⟨k + 1, by omega, by go_num, hown', hlaid, hbel, hsz⟩
        case measure => simp [intOf]; omega
      · rw [hp] at cp
        have HU : Hid (upTo [!a0.toList.isEmpty, true, true, !a7.toList.isEmpty] [a0, flagB true, a4, a7] (k + 1) = _) := upTo_t (V := [a0, flagB true, a4, a7]) hp
        obtain ⟨xs, hxs⟩ : ∃ xs, xs = upTo [!a0.toList.isEmpty, true, true, !a7.toList.isEmpty] [a0, flagB true, a4, a7] k := ⟨_, rfl⟩
        obtain ⟨n, hn⟩ : ∃ n, n = nmL.getD k ByteArray.empty := ⟨_, rfl⟩
        obtain ⟨s, hs⟩ : ∃ s, s = [a0, flagB true, a4, a7].getD k ByteArray.empty := ⟨_, rfl⟩
        rw [← hxs] at hown hlen HU
        rw [← hn] at cn HU
        rw [← hs] at cv HU
        have hne1 : some (w.heap.size + 1 + 1 + 1) ≠ u27.ownBlock := fun e => absurd (hown.block _ e.symm) (by omega)
        have hne2 : some (w.heap.size + 1 + 1 + 1 + 1) ≠ u27.ownBlock := fun e => absurd (hown.block _ e.symm) (by omega)
        clear hxs hn hs hp
        have hb1 : xs.length + 2 ≤ maxLen := by unfold maxLen; omega
        have hb2 : (xs.length + 2) * 16 ≤ 140737488355328 := by omega
        go_wp2_with fail
        go_region_held3 (fun w' => w'.cell? ⟨w.heap.size + 1 + 1 + 1, k, none⟩ = some (.string n) ∧ w'.cell? ⟨w.heap.size + 1 + 1 + 1 + 1, k, none⟩ = some (.string s))
          (first
            | go_keep
            | (go_split_ands
               refine ⟨?_, ?_⟩
               · (rw [hgrow.cell_far _ (by simp; omega) hne1]; assumption)
               · (rw [hgrow.cell_far _ (by simp; omega) hne2]; assumption)))
          ((refine step_append_lies _ (by rfl) _ _ _ (by rfl) (w.heap.size + 6) 9 i0 _ 1 16 Yba.underlying27 hi0 hz0 hz1 hz2 rfl (by omega) u27 xs.length (xs.map Value.string) (by rfl) ((hown.1.alloc _).drew)
              ⟨wr.heap.size, 0, none⟩ 2 2 [.string n, .string s] (by rfl) (by rfl) (World.news_of_block (cs := #[.string n, .string s]) (t := 9) (fr := (0, 0)) (heap_alloc_new wr _)) (by simp [Value.oneCell'])
              (by omega) hb1 hb2 (by simp; omega) (wr.heap.size + 1) (by simp) ?_; intro gg cap w1 hown1 hgrow hat hlt2))
        have r := hown.grow hsz _ (.inr rfl) hown1 hgrow
        obtain ⟨r1, r2⟩ := r
        go_wp2
        go_roundw
        case rel => exact ⟨k + 1, by omega, by go_num, by rw [HU.out]; exact r1, hlaid.below r2 (by omega) (by omega) (by omega) (by omega) (by omega) (by omega), hbel.trans (r2.mono (by omega)), Nat.le_trans hsz r2.size⟩
        case measure => simp [intOf]; omega
    · obtain rfl : k = 4 := by omega
      rw [upTo_four] at hown
      have hfee := fee_any a0 a7 a8 a4 true true true (w.heap.size + 1) (w.heap.size + 1 + 1) (.slice a9 len9 cap9) wr (by omega) (by omega) hlaid.ref hlaid.gra
      simp only [if_true, if_false, Bool.false_eq_true] at hfee
      have c0 := hlaid.t0
      have c1 := hlaid.t1
      have c2 := hlaid.t2
      have c3 := hlaid.t3
      have c4 := hlaid.t4
      have c5 := hlaid.t5
      have hyl : (attrsOf a0 true true true a4 a7).length ≤ 8 := by rw [← upTo_four]; exact upTo_len _ _ _
      obtain ⟨ys, hys⟩ : ∃ ys, ys = attrsOf a0 true true true a4 a7 := ⟨_, rfl⟩
      rw [← hys] at hown hfee hyl
      clear hys hlaid
      by_cases hy : ys = []
      · subst hy
        obtain rfl := hown.2 rfl
        go_wp2_with (first
          | (go_at_call 8; refine hfee.mono ?_; rintro e w2 ⟨v2, rfl, ho2, hb2⟩; obtain rfl := ho2.2 rfl)
          | (go_at_call 9; refine (ceq_nil _).mono ?_; rintro e w3 ⟨rfl, rfl⟩))
        go_ret
        exact ⟨rfl, hbel.trans (hb2.mono (by omega))⟩
      · obtain ⟨g1, p1, rfl, hc1⟩ := hown.shape hy
        have hpos : 0 < ys.length := List.length_pos_iff.2 hy
        have hnz : ((ys.length : Int) == 0) = false := by simp; omega
        go_wp2_with (first
          | (go_at_call 8; refine hfee.mono ?_; rintro e w2 ⟨v2, rfl, ho2, hb2⟩; obtain ⟨g2, p2, rfl, hc2⟩ := ho2.shape hy; obtain ⟨g3, p3, he3, hc3⟩ := (hown.below hb2).shape hy; obtain ⟨rfl, rfl⟩ := (by simpa using he3 : g1 = g3 ∧ p1 = p3); have H2 : Hid _ := hc2; have H3 : Hid _ := hc3; clear hc2 hc3 he3)
          | (go_at_call 9; refine (ceq_any _ _ _ _ _ ys _ (by omega) H2.out H3.out).mono ?_; rintro e w3 ⟨rfl, nk, rfl⟩))
        go_ret
        exact ⟨rfl, below_drewN (hbel.trans (hb2.mono (by omega))) _⟩

set_option linter.unusedSimpArgs false in
set_option maxHeartbeats 3200000 in
set_option maxRecDepth 100000 in
theorem walk_ttf (a0 a4 : ByteArray) (a5 a6 : Int) (a7 a8 : ByteArray) (a9 : Option Addr) (len9 cap9 : Nat) (w : World) (hbig : ¬ 1024 < len9) :
    Calls Yba.prog 5 #[.string a0, .bool true, .bool true, .bool false, .string a4, .int .i64 a5, .int .i64 a6, .string a7, .string a8, .slice a9 len9 cap9] w fun e w' => e = .returned (.bool true) ∧ Below w.heap.size w w' := by
  have hbig' : decide ((1024 : Int) < (len9 : Int)) = false := decide_eq_false (by omega)
  obtain ⟨i0, hi0, hz0, hz1, hz2⟩ := info_parts Yba.info9
  have q27 : ∀ (w : World) (a : Option Addr) (n c n' c' : Nat), (binOp .eql 27 (.slice a n c) (.slice none n' c')).run Yba.prog w = .ok (.bool a.isNone) w := fun w a n c n' c' => Lib.run_eql_slice_nil w _ _ a n c n' c' Yba.underlying27
  go_enter Yba.func5, Yba.ntmps5
  go_wp2_with fail
  go_loopw [27, 28] (fun v t wr => ∃ k : Nat, k ≤ 4 ∧ t = .int .i64 k ∧ Own (w.heap.size + 5) wr v (upTo [!a0.toList.isEmpty, true, false, !a7.toList.isEmpty] [a0, flagB true, a4, a7] k) ∧
      Laid wr w.heap.size (w.heap.size + 1 + 1) (w.heap.size + 1 + 1 + 1) (w.heap.size + 1 + 1 + 1 + 1) [!a0.toList.isEmpty, true, false, !a7.toList.isEmpty] [a0, flagB true, a4, a7]
        (.string a0) (.pointer (some ⟨w.heap.size + 1, 0, none⟩)) (.pointer none) (.string a7) (.string a8) (.slice a9 len9 cap9) true false true (w.heap.size + 1) (w.heap.size) a4 ∧
      Below w.heap.size w wr ∧ w.heap.size + 5 ≤ wr.heap.size) (fun _ t _ => 4 - (intOf t).toNat)
  case atStart =>
    refine ⟨0, by omega, rfl, Own.nil _ _, ⟨four ?_ ?_ ?_ ?_, four ?_ ?_ ?_ ?_, four ?_ ?_ ?_ ?_, ?_, ?_, ?_, ?_, ?_, ?_, fun _ => ?_, fun h => (by cases h)⟩, ?_, ?_⟩
    all_goals first | (simp [go_sem, nmL, nm0, nm1, nm2, nm3, flagB]; done) | (repeat (first | exact Below.refl _ _ | refine Below.alloc ?_ (by simp <;> omega) _)); done
  case round =>
    obtain ⟨k, hk, rfl, hown, hlaid, hbel, hsz⟩ := hrel
    by_cases hlt : k < 4
    · have hlt' : (k : Int) < 4 := by omega
      have hlt0 : (0 : Int) ≤ (k : Int) := by omega
      have hlen := upTo_len [!a0.toList.isEmpty, true, false, !a7.toList.isEmpty] [a0, flagB true, a4, a7] k
      have cn := hlaid.names k hlt
      have cv := hlaid.vals k hlt
      have cp := hlaid.pres k hlt
      cases hp : [!a0.toList.isEmpty, true, false, !a7.toList.isEmpty].getD k false
      · rw [hp] at cp
        have HU := upTo_f (V := [a0, flagB true, a4, a7]) hp
        have hown' : Own (w.heap.size + 5) wr u27 (upTo [!a0.toList.isEmpty, true, false, !a7.toList.isEmpty] [a0, flagB true, a4, a7] (k + 1)) := by rw [HU]; exact hown
        clear HU hp cn cv hown hlen
        go_wp2
        go_roundw
        case rel => exact ⟨k + 1, by omega, by go_num, hown', hlaid, hbel, hsz⟩
        case measure => simp [intOf]; omega
      · rw [hp] at cp
        have HU : Hid (upTo [!a0.toList.isEmpty, true, false, !a7.toList.isEmpty] [a0, flagB true, a4, a7] (k + 1) = _) := upTo_t (V := [a0, flagB true, a4, a7]) hp
        obtain ⟨xs, hxs⟩ : ∃ xs, xs = upTo [!a0.toList.isEmpty, true, false, !a7.toList.isEmpty] [a0, flagB true, a4, a7] k := ⟨_, rfl⟩
        obtain ⟨n, hn⟩ : ∃ n, n = nmL.getD k ByteArray.empty := ⟨_, rfl⟩
        obtain ⟨s, hs⟩ : ∃ s, s = [a0, flagB true, a4, a7].getD k ByteArray.empty := ⟨_, rfl⟩
        rw [← hxs] at hown hlen HU
        rw [← hn] at cn HU
        rw [← hs] at cv HU
        have hne1 : some (w.heap.size + 1 + 1) ≠ u27.ownBlock := fun e => absurd (hown.block _ e.symm) (by omega)
        have hne2 : some (w.heap.size + 1 + 1 + 1) ≠ u27.ownBlock := fun e => absurd (hown.block _ e.symm) (by omega)
        clear hxs hn hs hp
        have hb1 : xs.length + 2 ≤ maxLen := by unfold maxLen; omega
        have hb2 : (xs.length + 2) * 16 ≤ 140737488355328 := by omega
        go_wp2_with fail
        go_region_held3 (fun w' => w'.cell? ⟨w.heap.size + 1 + 1, k, none⟩ = some (.string n) ∧ w'.cell? ⟨w.heap.size + 1 + 1 + 1, k, none⟩ = some (.string s))
          (first
            | go_keep
            | (go_split_ands
               refine ⟨?_, ?_⟩
               · (rw [hgrow.cell_far _ (by simp; omega) hne1]; assumption)
               · (rw [hgrow.cell_far _ (by simp; omega) hne2]; assumption)))
          ((refine step_append_lies _ (by rfl) _ _ _ (by rfl) (w.heap.size + 5) 9 i0 _ 1 16 Yba.underlying27 hi0 hz0 hz1 hz2 rfl (by omega) u27 xs.length (xs.map Value.string) (by rfl) ((hown.1.alloc _).drew)
              ⟨wr.heap.size, 0, none⟩ 2 2 [.string n, .string s] (by rfl) (by rfl) (World.news_of_block (cs := #[.string n, .string s]) (t := 9) (fr := (0, 0)) (heap_alloc_new wr _)) (by simp [Value.oneCell'])
              (by omega) hb1 hb2 (by simp; omega) (wr.heap.size + 1) (by simp) ?_; intro gg cap w1 hown1 hgrow hat hlt2))
        have r := hown.grow hsz _ (.inr rfl) hown1 hgrow
        obtain ⟨r1, r2⟩ := r
        go_wp2
        go_roundw
        case rel => exact ⟨k + 1, by omega, by go_num, by rw [HU.out]; exact r1, hlaid.below r2 (by omega) (by omega) (by omega) (by omega) (by omega) (by omega), hbel.trans (r2.mono (by omega)), Nat.le_trans hsz r2.size⟩
        case measure => simp [intOf]; omega
    · obtain rfl : k = 4 := by omega
      rw [upTo_four] at hown
      have hfee := fee_any a0 a7 a8 a4 true true false (w.heap.size + 1) (w.heap.size) (.slice a9 len9 cap9) wr (by omega) (by omega) hlaid.ref hlaid.gra
      simp only [if_true, if_false, Bool.false_eq_true] at hfee
      have c0 := hlaid.t0
      have c1 := hlaid.t1
      have c2 := hlaid.t2
      have c3 := hlaid.t3
      have c4 := hlaid.t4
      have c5 := hlaid.t5
      have hyl : (attrsOf a0 true true false a4 a7).length ≤ 8 := by rw [← upTo_four]; exact upTo_len _ _ _
      obtain ⟨ys, hys⟩ : ∃ ys, ys = attrsOf a0 true true false a4 a7 := ⟨_, rfl⟩
      rw [← hys] at hown hfee hyl
      clear hys hlaid
      by_cases hy : ys = []
      · subst hy
        obtain rfl := hown.2 rfl
        go_wp2_with (first
          | (go_at_call 8; refine hfee.mono ?_; rintro e w2 ⟨v2, rfl, ho2, hb2⟩; obtain rfl := ho2.2 rfl)
          | (go_at_call 9; refine (ceq_nil _).mono ?_; rintro e w3 ⟨rfl, rfl⟩))
        go_ret
        exact ⟨rfl, hbel.trans (hb2.mono (by omega))⟩
      · obtain ⟨g1, p1, rfl, hc1⟩ := hown.shape hy
        have hpos : 0 < ys.length := List.length_pos_iff.2 hy
        have hnz : ((ys.length : Int) == 0) = false := by simp; omega
        go_wp2_with (first
          | (go_at_call 8; refine hfee.mono ?_; rintro e w2 ⟨v2, rfl, ho2, hb2⟩; obtain ⟨g2, p2, rfl, hc2⟩ := ho2.shape hy; obtain ⟨g3, p3, he3, hc3⟩ := (hown.below hb2).shape hy; obtain ⟨rfl, rfl⟩ := (by simpa using he3 : g1 = g3 ∧ p1 = p3); have H2 : Hid _ := hc2; have H3 : Hid _ := hc3; clear hc2 hc3 he3)
          | (go_at_call 9; refine (ceq_any _ _ _ _ _ ys _ (by omega) H2.out H3.out).mono ?_; rintro e w3 ⟨rfl, nk, rfl⟩))
        go_ret
        exact ⟨rfl, below_drewN (hbel.trans (hb2.mono (by omega))) _⟩

set_option linter.unusedSimpArgs false in
set_option maxHeartbeats 3200000 in
set_option maxRecDepth 100000 in
theorem walk_tft (a0 a4 : ByteArray) (a5 a6 : Int) (a7 a8 : ByteArray) (a9 : Option Addr) (len9 cap9 : Nat) (w : World) (hbig : ¬ 1024 < len9) :
    Calls Yba.prog 5 #[.string a0, .bool true, .bool false, .bool true, .string a4, .int .i64 a5, .int .i64 a6, .string a7, .string a8, .slice a9 len9 cap9] w fun e w' => e = .returned (.bool true) ∧ Below w.heap.size w w' := by
  have hbig' : decide ((1024 : Int) < (len9 : Int)) = false := decide_eq_false (by omega)
  obtain ⟨i0, hi0, hz0, hz1, hz2⟩ := info_parts Yba.info9
  have q27 : ∀ (w : World) (a : Option Addr) (n c n' c' : Nat), (binOp .eql 27 (.slice a n c) (.slice none n' c')).run Yba.prog w = .ok (.bool a.isNone) w := fun w a n c n' c' => Lib.run_eql_slice_nil w _ _ a n c n' c' Yba.underlying27
  go_enter Yba.func5, Yba.ntmps5
  go_wp2_with fail
  go_loopw [27, 28] (fun v t wr => ∃ k : Nat, k ≤ 4 ∧ t = .int .i64 k ∧ Own (w.heap.size + 6) wr v (upTo [!a0.toList.isEmpty, true, true, !a7.toList.isEmpty] [a0, flagB false, a4, a7] k) ∧
      Laid wr w.heap.size (w.heap.size + 1 + 1 + 1) (w.heap.size + 1 + 1 + 1 + 1) (w.heap.size + 1 + 1 + 1 + 1 + 1) [!a0.toList.isEmpty, true, true, !a7.toList.isEmpty] [a0, flagB false, a4, a7]
        (.string a0) (.pointer (some ⟨w.heap.size + 1, 0, none⟩)) (.pointer (some ⟨w.heap.size + 1 + 1, 0, none⟩)) (.string a7) (.string a8) (.slice a9 len9 cap9) true true false (w.heap.size + 1) (w.heap.size + 1 + 1) a4 ∧
      Below w.heap.size w wr ∧ w.heap.size + 6 ≤ wr.heap.size) (fun _ t _ => 4 - (intOf t).toNat)
  case atStart =>
    refine ⟨0, by omega, rfl, Own.nil _ _, ⟨four ?_ ?_ ?_ ?_, four ?_ ?_ ?_ ?_, four ?_ ?_ ?_ ?_, ?_, ?_, ?_, ?_, ?_, ?_, fun _ => ?_, fun _ => ?_⟩, ?_, ?_⟩
    all_goals first | (simp [go_sem, nmL, nm0, nm1, nm2, nm3, flagB]; done) | (repeat (first | exact Below.refl _ _ | refine Below.alloc ?_ (by simp <;> omega) _)); done
  case round =>
    obtain ⟨k, hk, rfl, hown, hlaid, hbel, hsz⟩ := hrel
    by_cases hlt : k < 4
    · have hlt' : (k : Int) < 4 := by omega
      have hlt0 : (0 : Int) ≤ (k : Int) := by omega
      have hlen := upTo_len [!a0.toList.isEmpty, true, true, !a7.toList.isEmpty] [a0, flagB false, a4, a7] k
      have cn := hlaid.names k hlt
      have cv := hlaid.vals k hlt
      have cp := hlaid.pres k hlt
      cases hp : [!a0.toList.isEmpty, true, true, !a7.toList.isEmpty].getD k false
      · rw [hp] at cp
        have HU := upTo_f (V := [a0, flagB false, a4, a7]) hp
        have hown' : Own (w.heap.size + 6) wr u27 (upTo [!a0.toList.isEmpty, true, true, !a7.toList.isEmpty] [a0, flagB false, a4, a7] (k + 1)) := by rw [HU]; exact hown
        clear HU hp cn cv hown hlen
        go_wp2
        go_roundw
        case rel => exact ⟨k + 1, by omega, by go_num, hown', hlaid, hbel, hsz⟩
        case measure => simp [intOf]; omega
      · rw [hp] at cp
        have HU : Hid (upTo [!a0.toList.isEmpty, true, true, !a7.toList.isEmpty] [a0, flagB false, a4, a7] (k + 1) = _) := upTo_t (V := [a0, flagB false, a4, a7]) hp
        obtain ⟨xs, hxs⟩ : ∃ xs, xs = upTo [!a0.toList.isEmpty, true, true, !a7.toList.isEmpty] [a0, flagB false, a4, a7] k := ⟨_, rfl⟩
        obtain ⟨n, hn⟩ : ∃ n, n = nmL.getD k ByteArray.empty := ⟨_, rfl⟩
        obtain ⟨s, hs⟩ : ∃ s, s = [a0, flagB false, a4, a7].getD k ByteArray.empty := ⟨_, rfl⟩
        rw [← hxs] at hown hlen HU
        rw [← hn] at cn HU
        rw [← hs] at cv HU
        have hne1 : some (w.heap.size + 1 + 1 + 1) ≠ u27.ownBlock := fun e => absurd (hown.block _ e.symm) (by omega)
        have hne2 : some (w.heap.size + 1 + 1 + 1 + 1) ≠ u27.ownBlock := fun e => absurd (hown.block _ e.symm) (by omega)
        clear hxs hn hs hp
        have hb1 : xs.length + 2 ≤ maxLen := by unfold maxLen; omega
        have hb2 : (xs.length + 2) * 16 ≤ 140737488355328 := by omega
        go_wp2_with fail
        go_region_held3 (fun w' => w'.cell? ⟨w.heap.size + 1 + 1 + 1, k, none⟩ = some (.string n) ∧ w'.cell? ⟨w.heap.size + 1 + 1 + 1 + 1, k, none⟩ = some (.string s))
          (first
            | go_keep
            | (go_split_ands
               refine ⟨?_, ?_⟩
               · (rw [hgrow.cell_far _ (by simp; omega) hne1]; assumption)
               · (rw [hgrow.cell_far _ (by simp; omega) hne2]; assumption)))
          ((refine step_append_lies _ (by rfl) _ _ _ (by rfl) (w.heap.size + 6) 9 i0 _ 1 16 Yba.underlying27 hi0 hz0 hz1 hz2 rfl (by omega) u27 xs.length (xs.map Value.string) (by rfl) ((hown.1.alloc _).drew)
              ⟨wr.heap.size, 0, none⟩ 2 2 [.string n, .string s] (by rfl) (by rfl) (World.news_of_block (cs := #[.string n, .string s]) (t := 9) (fr := (0, 0)) (heap_alloc_new wr _)) (by simp [Value.oneCell'])
              (by omega) hb1 hb2 (by simp; omega) (wr.heap.size + 1) (by simp) ?_; intro gg cap w1 hown1 hgrow hat hlt2))
        have r := hown.grow hsz _ (.inr rfl) hown1 hgrow
        obtain ⟨r1, r2⟩ := r
        go_wp2
        go_roundw
        case rel => exact ⟨k + 1, by omega, by go_num, by rw [HU.out]; exact r1, hlaid.below r2 (by omega) (by omega) (by omega) (by omega) (by omega) (by omega), hbel.trans (r2.mono (by omega)), Nat.le_trans hsz r2.size⟩
        case measure => simp [intOf]; omega
    · obtain rfl : k = 4 := by omega
      rw [upTo_four] at hown
      have hfee := fee_any a0 a7 a8 a4 false true true (w.heap.size + 1) (w.heap.size + 1 + 1) (.slice a9 len9 cap9) wr (by omega) (by omega) hlaid.ref hlaid.gra
      simp only [if_true, if_false, Bool.false_eq_true] at hfee
      have c0 := hlaid.t0
      have c1 := hlaid.t1
      have c2 := hlaid.t2
      have c3 := hlaid.t3
      have c4 := hlaid.t4
      have c5 := hlaid.t5
      have hyl : (attrsOf a0 true false true a4 a7).length ≤ 8 := by rw [← upTo_four]; exact upTo_len _ _ _
      obtain ⟨ys, hys⟩ : ∃ ys, ys = attrsOf a0 true false true a4 a7 := ⟨_, rfl⟩
      rw [← hys] at hown hfee hyl
      clear hys hlaid
      by_cases hy : ys = []
      · subst hy
        obtain rfl := hown.2 rfl
        go_wp2_with (first
          | (go_at_call 8; refine hfee.mono ?_; rintro e w2 ⟨v2, rfl, ho2, hb2⟩; obtain rfl := ho2.2 rfl)
          | (go_at_call 9; refine (ceq_nil _).mono ?_; rintro e w3 ⟨rfl, rfl⟩))
        go_ret
        exact ⟨rfl, hbel.trans (hb2.mono (by omega))⟩
      · obtain ⟨g1, p1, rfl, hc1⟩ := hown.shape hy
        have hpos : 0 < ys.length := List.length_pos_iff.2 hy
        have hnz : ((ys.length : Int) == 0) = false := by simp; omega
        go_wp2_with (first
          | (go_at_call 8; refine hfee.mono ?_; rintro e w2 ⟨v2, rfl, ho2, hb2⟩; obtain ⟨g2, p2, rfl, hc2⟩ := ho2.shape hy; obtain ⟨g3, p3, he3, hc3⟩ := (hown.below hb2).shape hy; obtain ⟨rfl, rfl⟩ := (by simpa using he3 : g1 = g3 ∧ p1 = p3); have H2 : Hid _ := hc2; have H3 : Hid _ := hc3; clear hc2 hc3 he3)
          | (go_at_call 9; refine (ceq_any _ _ _ _ _ ys _ (by omega) H2.out H3.out).mono ?_; rintro e w3 ⟨rfl, nk, rfl⟩))
        go_ret
        exact ⟨rfl, below_drewN (hbel.trans (hb2.mono (by omega))) _⟩

set_option linter.unusedSimpArgs false in
set_option maxHeartbeats 3200000 in
set_option maxRecDepth 100000 in
theorem walk_tff (a0 a4 : ByteArray) (a5 a6 : Int) (a7 a8 : ByteArray) (a9 : Option Addr) (len9 cap9 : Nat) (w : World) (hbig : ¬ 1024 < len9) :
    Calls Yba.prog 5 #[.string a0, .bool true, .bool false, .bool false, .string a4, .int .i64 a5, .int .i64 a6, .string a7, .string a8, .slice a9 len9 cap9] w fun e w' => e = .returned (.bool true) ∧ Below w.heap.size w w' := by
  have hbig' : decide ((1024 : Int) < (len9 : Int)) = false := decide_eq_false (by omega)
  obtain ⟨i0, hi0, hz0, hz1, hz2⟩ := info_parts Yba.info9
  have q27 : ∀ (w : World) (a : Option Addr) (n c n' c' : Nat), (binOp .eql 27 (.slice a n c) (.slice none n' c')).run Yba.prog w = .ok (.bool a.isNone) w := fun w a n c n' c' => Lib.run_eql_slice_nil w _ _ a n c n' c' Yba.underlying27
  go_enter Yba.func5, Yba.ntmps5
  go_wp2_with fail
  go_loopw [27, 28] (fun v t wr => ∃ k : Nat, k ≤ 4 ∧ t = .int .i64 k ∧ Own (w.heap.size + 5) wr v (upTo [!a0.toList.isEmpty, true, false, !a7.toList.isEmpty] [a0, flagB false, a4, a7] k) ∧
      Laid wr w.heap.size (w.heap.size + 1 + 1) (w.heap.size + 1 + 1 + 1) (w.heap.size + 1 + 1 + 1 + 1) [!a0.toList.isEmpty, true, false, !a7.toList.isEmpty] [a0, flagB false, a4, a7]
        (.string a0) (.pointer (some ⟨w.heap.size + 1, 0, none⟩)) (.pointer none) (.string a7) (.string a8) (.slice a9 len9 cap9) true false false (w.heap.size + 1) (w.heap.size) a4 ∧
      Below w.heap.size w wr ∧ w.heap.size + 5 ≤ wr.heap.size) (fun _ t _ => 4 - (intOf t).toNat)
  case atStart =>
    refine ⟨0, by omega, rfl, Own.nil _ _, ⟨four ?_ ?_ ?_ ?_, four ?_ ?_ ?_ ?_, four ?_ ?_ ?_ ?_, ?_, ?_, ?_, ?_, ?_, ?_, fun _ => ?_, fun h => (by cases h)⟩, ?_, ?_⟩
    all_goals first | (simp [go_sem, nmL, nm0, nm1, nm2, nm3, flagB]; done) | (repeat (first | exact Below.refl _ _ | refine Below.alloc ?_ (by simp <;> omega) _)); done
  case round =>
    obtain ⟨k, hk, rfl, hown, hlaid, hbel, hsz⟩ := hrel
    by_cases hlt : k < 4
    · have hlt' : (k : Int) < 4 := by omega
      have hlt0 : (0 : Int) ≤ (k : Int) := by omega
      have hlen := upTo_len [!a0.toList.isEmpty, true, false, !a7.toList.isEmpty] [a0, flagB false, a4, a7] k
      have cn := hlaid.names k hlt
      have cv := hlaid.vals k hlt
      have cp := hlaid.pres k hlt
      cases hp : [!a0.toList.isEmpty, true, false, !a7.toList.isEmpty].getD k false
      · rw [hp] at cp
        have HU := upTo_f (V := [a0, flagB false, a4, a7]) hp
        have hown' : Own (w.heap.size + 5) wr u27 (upTo [!a0.toList.isEmpty, true, false, !a7.toList.isEmpty] [a0, flagB false, a4, a7] (k + 1)) := by rw [HU]; exact hown
        clear HU hp cn cv hown hlen
        go_wp2
        go_roundw
        case rel => exact ⟨k + 1, by omega, by go_num, hown', hlaid, hbel, hsz⟩
        case measure => simp [intOf]; omega
      · rw [hp] at cp
        have HU : Hid (upTo [!a0.toList.isEmpty, true, false, !a7.toList.isEmpty] [a0, flagB false, a4, a7] (k + 1) = _) := upTo_t (V := [a0, flagB false, a4, a7]) hp
        obtain ⟨xs, hxs⟩ : ∃ xs, xs = upTo [!a0.toList.isEmpty, true, false, !a7.toList.isEmpty] [a0, flagB false, a4, a7] k := ⟨_, rfl⟩
        obtain ⟨n, hn⟩ : ∃ n, n = nmL.getD k ByteArray.empty := ⟨_, rfl⟩
        obtain ⟨s, hs⟩ : ∃ s, s = [a0, flagB false, a4, a7].getD k ByteArray.empty := ⟨_, rfl⟩
        rw [← hxs] at hown hlen HU
        rw [← hn] at cn HU
        rw [← hs] at cv HU
        have hne1 : some (w.heap.size + 1 + 1) ≠ u27.ownBlock := fun e => absurd (hown.block _ e.symm) (by omega)
        have hne2 : some (w.heap.size + 1 + 1 + 1) ≠ u27.ownBlock := fun e => absurd (hown.block _ e.symm) (by omega)
        clear hxs hn hs hp
        have hb1 : xs.length + 2 ≤ maxLen := by unfold maxLen; omega
        have hb2 : (xs.length + 2) * 16 ≤ 140737488355328 := by omega
        go_wp2_with fail
        go_region_held3 (fun w' => w'.cell? ⟨w.heap.size + 1 + 1, k, none⟩ = some (.string n) ∧ w'.cell? ⟨w.heap.size + 1 + 1 + 1, k, none⟩ = some (.string s))
          (first
            | go_keep
            | (go_split_ands
               refine ⟨?_, ?_⟩
               · (rw [hgrow.cell_far _ (by simp; omega) hne1]; assumption)
               · (rw [hgrow.cell_far _ (by simp; omega) hne2]; assumption)))
          ((refine step_append_lies _ (by rfl) _ _ _ (by rfl) (w.heap.size + 5) 9 i0 _ 1 16 Yba.underlying27 hi0 hz0 hz1 hz2 rfl (by omega) u27 xs.length (xs.map Value.string) (by rfl) ((hown.1.alloc _).drew)
              ⟨wr.heap.size, 0, none⟩ 2 2 [.string n, .string s] (by rfl) (by rfl) (World.news_of_block (cs := #[.string n, .string s]) (t := 9) (fr := (0, 0)) (heap_alloc_new wr _)) (by simp [Value.oneCell'])
              (by omega) hb1 hb2 (by simp; omega) (wr.heap.size + 1) (by simp) ?_; intro gg cap w1 hown1 hgrow hat hlt2))
        have r := hown.grow hsz _ (.inr rfl) hown1 hgrow
        obtain ⟨r1, r2⟩ := r
        go_wp2
        go_roundw
        case rel => exact ⟨k + 1, by omega, by go_num, by rw [HU.out]; exact r1, hlaid.below r2 (by omega) (by omega) (by omega) (by omega) (by omega) (by omega), hbel.trans (r2.mono (by omega)), Nat.le_trans hsz r2.size⟩
        case measure => simp [intOf]; omega
    · obtain rfl : k = 4 := by omega
      rw [upTo_four] at hown
      have hfee := fee_any a0 a7 a8 a4 false true false (w.heap.size + 1) (w.heap.size) (.slice a9 len9 cap9) wr (by omega) (by omega) hlaid.ref hlaid.gra
      simp only [if_true, if_false, Bool.false_eq_true] at hfee
      have c0 := hlaid.t0
      have c1 := hlaid.t1
      have c2 := hlaid.t2
      have c3 := hlaid.t3
      have c4 := hlaid.t4
      have c5 := hlaid.t5
      have hyl : (attrsOf a0 true false false a4 a7).length ≤ 8 := by rw [← upTo_four]; exact upTo_len _ _ _
      obtain ⟨ys, hys⟩ : ∃ ys, ys = attrsOf a0 true false false a4 a7 := ⟨_, rfl⟩
      rw [← hys] at hown hfee hyl
      clear hys hlaid
      by_cases hy : ys = []
      · subst hy
        obtain rfl := hown.2 rfl
        go_wp2_with (first
          | (go_at_call 8; refine hfee.mono ?_; rintro e w2 ⟨v2, rfl, ho2, hb2⟩; obtain rfl := ho2.2 rfl)
          | (go_at_call 9; refine (ceq_nil _).mono ?_; rintro e w3 ⟨rfl, rfl⟩))
        go_ret
        exact ⟨rfl, hbel.trans (hb2.mono (by omega))⟩
      · obtain ⟨g1, p1, rfl, hc1⟩ := hown.shape hy
        have hpos : 0 < ys.length := List.length_pos_iff.2 hy
        have hnz : ((ys.length : Int) == 0) = false := by simp; omega
        go_wp2_with (first
          | (go_at_call 8; refine hfee.mono ?_; rintro e w2 ⟨v2, rfl, ho2, hb2⟩; obtain ⟨g2, p2, rfl, hc2⟩ := ho2.shape hy; obtain ⟨g3, p3, he3, hc3⟩ := (hown.below hb2).shape hy; obtain ⟨rfl, rfl⟩ := (by simpa using he3 : g1 = g3 ∧ p1 = p3); have H2 : Hid _ := hc2; have H3 : Hid _ := hc3; clear hc2 hc3 he3)
          | (go_at_call 9; refine (ceq_any _ _ _ _ _ ys _ (by omega) H2.out H3.out).mono ?_; rintro e w3 ⟨rfl, nk, rfl⟩))
        go_ret
        exact ⟨rfl, below_drewN (hbel.trans (hb2.mono (by omega))) _⟩

end Go.Proofs.Ybulkbjm
