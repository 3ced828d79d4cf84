/-
  THE WALKS THAT BOTH 'Skip' LAWS SHARE: 'zzs0116bws' (11), 'skipJSONSpace' (10), 'zzs0116bcheck' (7).
-/
import Derived.Test.YbulkbjmRows
import Derived.WalkKit
import Derived.ProofKit
import Derived.OpenShut
import Derived.ChangeOld
import Derived.Below
namespace Go.Proofs.Ybulkbjm
open Go.ChangeShapes Go.WideShapes Go.ChangeAt Go.RowKit
set_option linter.unusedVariables false

/-- JSON's white space. -/
def wsB (b : Int) : Bool := decide (b = 32 ∨ b = 10 ∨ b = 9 ∨ b = 13)

theorem wsB_t {b : Int} (h : wsB b = true) : b = 32 ∨ b = 10 ∨ b = 9 ∨ b = 13 := by simpa [wsB] using h
theorem wsB_f {b : Int} (h : wsB b = false) : ¬ (b = 32 ∨ b = 10 ∨ b = 9 ∨ b = 13) := by simpa [wsB] using h

theorem ws_t (b : Int) (w : World) (h : wsB b = true) :
    Calls Yba.prog 11 #[.int .u8 b] w fun e w' => e = .returned (.bool true) ∧ w' = w := by
  rcases wsB_t h with rfl | rfl | rfl | rfl
  all_goals
    go_enter Yba.func11, Yba.ntmps11
    go_wp2
    go_ret
    exact ⟨rfl, rfl⟩

theorem ws_f (b : Int) (w : World) (h : wsB b = false) :
    Calls Yba.prog 11 #[.int .u8 b] w fun e w' => e = .returned (.bool false) ∧ w' = w := by
  have h' := wsB_f h
  have h1 : (b == 32) = false := by simp; omega
  have h2 : (b == 10) = false := by simp; omega
  have h3 : (b == 9) = false := by simp; omega
  have h4 : (b == 13) = false := by simp; omega
  clear h h'
  go_enter Yba.func11, Yba.ntmps11
  go_wp2
  go_ret
  exact ⟨rfl, rfl⟩

/-- What 'skipJSONSpace' answers at a start i. -/
def SkipsTo (zs : List Int) (len i r : Nat) : Prop :=
  i ≤ r ∧ (r ≤ len ∨ r = i) ∧ (∀ j, i ≤ j → j < r → wsB (zs.getD j 0) = true) ∧ (r < len → wsB (zs.getD r 0) = false)

set_option maxHeartbeats 400000 in
theorem skip_any (b off len cap i : Nat) (zs : List Int) (w : World) (hl : len ≤ 1024) (hi : i ≤ len + 1)
    (hc : ∀ j, j < len → w.cell? ⟨b, off + j, none⟩ = some (.int .u8 (zs.getD j 0))) :
    Calls Yba.prog 10 #[.slice (some ⟨b, off, none⟩) len cap, .int .i64 i] w fun e w' => (∃ r : Nat, e = .returned (.int .i64 r) ∧ SkipsTo zs len i r) ∧ w' = w := by
  go_enter Yba.func10, Yba.ntmps10
  go_wp2
  go_loop [1] (fun t => ∃ k : Nat, i ≤ k ∧ (k ≤ len ∨ k = i) ∧ t = .int .i64 k ∧ ∀ j, i ≤ j → j < k → wsB (zs.getD j 0) = true) (fun t => len + 2 - (intOf t).toNat)
  case atStart => exact ⟨i, Nat.le_refl _, .inr rfl, rfl, fun j h1 h2 => by omega⟩
  case round =>
    obtain ⟨k, hk1, hk2, rfl, hall⟩ := hrel
    have HA : Hid (∀ j, i ≤ j → j < k → wsB (zs.getD j 0) = true) := hall
    clear hall
    by_cases hlt : k < len
    · have hcell := hc k hlt
      obtain ⟨z, hz⟩ : ∃ z, z = zs.getD k 0 := ⟨_, rfl⟩
      rw [← hz] at hcell
      have HZ : Hid (z = zs.getD k 0) := hz
      clear hz hc
      cases hw : wsB z
      · have h' := wsB_f hw
        have h1 : (z == 32) = false := by simp; omega
        have h2 : (z == 10) = false := by simp; omega
        have h3 : (z == 9) = false := by simp; omega
        have h4 : (z == 13) = false := by simp; omega
        have HW : Hid (wsB z = false) := hw
        clear h' hw
        go_wp2
        go_ret
        exact ⟨⟨k, rfl, hk1, hk2, HA.out, fun _ => by rw [← HZ.out]; exact HW.out⟩, rfl⟩
      · have HW : Hid (wsB z = true) := hw
        have hall2 : ∀ j, i ≤ j → j < k + 1 → wsB (zs.getD j 0) = true := fun j a c => by
          by_cases e : j = k
          · rw [e, ← HZ.out]; exact hw
          · exact HA.out j a (by omega)
        have HA2 : Hid (∀ j, i ≤ j → j < k + 1 → wsB (zs.getD j 0) = true) := hall2
        clear hall2 HA HZ
        rcases wsB_t hw with rfl | rfl | rfl | rfl
        all_goals
          clear hw
          go_wp2
          go_round
          case rel => exact ⟨k + 1, by omega, .inl (by omega), by go_num, HA2.out⟩
          case measure => simp [intOf]; omega
    · clear hc
      go_wp2
      go_ret
      exact ⟨⟨k, rfl, hk1, hk2, HA.out, fun h => by omega⟩, rfl⟩

/-- An empty slice: the start comes back. -/
theorem skip_zero (a : Option Addr) (cap i : Nat) (w : World) (hi : i ≤ 1) :
    Calls Yba.prog 10 #[.slice a 0 cap, .int .i64 i] w fun e w' => e = .returned (.int .i64 i) ∧ w' = w := by
  go_enter Yba.func10, Yba.ntmps10
  go_wp2
  refine wp_loop_rounds 1 ?_
  rw [rounds_succ]
  go_wp2
  go_ret
  exact ⟨rfl, rfl⟩

theorem check_zero (a : Option Addr) (cap i : Nat) (w : World) (hi : i ≤ 1) :
    Calls Yba.prog 7 #[.slice a 0 cap, .int .i64 i] w fun e w' => e = .returned (.bool true) ∧ w' = w := by
  go_enter Yba.func7, Yba.ntmps7
  go_wp2_with (go_at_call 10; refine (skip_zero _ _ _ _ hi).mono ?_; rintro e w' ⟨rfl, rfl⟩)
  go_ret
  exact ⟨rfl, rfl⟩

set_option maxHeartbeats 400000 in
theorem check_any (b off len cap i : Nat) (zs : List Int) (w : World) (hl : len ≤ 1024) (hi : i ≤ len + 1)
    (hc : ∀ j, j < len → w.cell? ⟨b, off + j, none⟩ = some (.int .u8 (zs.getD j 0))) :
    Calls Yba.prog 7 #[.slice (some ⟨b, off, none⟩) len cap, .int .i64 i] w fun e w' => e = .returned (.bool true) ∧ w' = w := by
  by_cases hil : len ≤ i
  · go_enter Yba.func7, Yba.ntmps7
    go_wp2_with (go_at_call 10; refine (skip_any _ _ _ _ _ zs _ hl hi hc).mono ?_; rintro e w' ⟨⟨r, rfl, h1, h2, h3, h4⟩, rfl⟩; obtain rfl : r = i := by omega)
    go_ret
    exact ⟨rfl, rfl⟩
  · go_enter Yba.func7, Yba.ntmps7
    go_wp2_with (go_at_call 10; refine (skip_any _ _ _ _ _ zs _ hl hi hc).mono ?_; rintro e w' ⟨⟨r, rfl, h1, h2', h3', h4'⟩, rfl⟩; have h2 : r ≤ len := (by omega); have e1 : ¬ r < i := (by omega); have e2 : ¬ len < r := (by omega); have h3 : Hid (∀ j, i ≤ j → j < r → wsB (zs.getD j 0) = true) := h3'; have h4 : Hid (r < len → wsB (zs.getD r 0) = false) := h4'; clear h2' h3' h4')
    go_loop [6] (fun t => ∃ k : Nat, i ≤ k ∧ k ≤ r ∧ t = .int .i64 k) (fun t => r - (intOf t).toNat)
    case atStart => exact ⟨i, Nat.le_refl _, h1, rfl⟩
    case round =>
      obtain ⟨k, hk1, hk2, rfl⟩ := hrel
      by_cases hlt : k < r
      · have hcell := hc k (by omega)
        have hb : k < len := by omega
        have hws := h3.out k hk1 hlt
        obtain ⟨z, hz⟩ : ∃ z, z = zs.getD k 0 := ⟨_, rfl⟩
        rw [← hz] at hcell hws
        clear hz hc h3 h4
        go_wp2_with (go_at_call 11; refine (ws_t _ _ hws).mono ?_; rintro e w' ⟨rfl, rfl⟩)
        go_round
        case rel => exact ⟨k + 1, by omega, by omega, by go_num⟩
        case measure => simp [intOf]; omega
      · obtain rfl : k = r := by omega
        by_cases hrl : k = len
        · subst hrl
          clear hc h3 h4
          go_wp2
          go_ret
          exact ⟨rfl, rfl⟩
        · have hb : k < len := by omega
          have hcell := hc k hb
          have hws := h4.out hb
          have hne : ((k : Int) == (len : Int)) = false := by simp; omega
          obtain ⟨z, hz⟩ : ∃ z, z = zs.getD k 0 := ⟨_, rfl⟩
          rw [← hz] at hcell hws
          clear hz hc h3 h4 hrl
          go_wp2_with (go_at_call 11; refine (ws_f _ _ hws).mono ?_; rintro e w' ⟨rfl, rfl⟩)
          go_ret
          exact ⟨rfl, rfl⟩

end Go.Proofs.Ybulkbjm
