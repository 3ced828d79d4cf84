/-
  'Rows.LawS0118BTwoLowestSaid' PROVED. The frame is the guide's skeleton for a law (written for integers; the floats by hand); what stands behind the call is said by 'Below'.
-/
import Derived.Test.YbulkbkoLowD
import Derived.Carry
import Derived.ChangeOld
import Derived.WalkKit
import Derived.ProofKit
import Derived.OpenShut
import Derived.ShutString
namespace Go.Proofs.Ybulkbko.lawS0118BTwoLowest
open Go.ChangeShapes Go.WideShapes Go.ChangeAt Go.RowKit
open Go.ChangeMaps (open_string shut_string)
set_option linter.unusedVariables false

theorem own : ownKnob Yba.prog.godebug = none := by kernel_rfl

set_option maxHeartbeats 800000 in
theorem walk (a0 : Int) (f0 : Nat) (a1 : Int) (f1 : Nat) (i : Int) (f : Nat) (w : World) :
    Calls Yba.prog 3 #[.int .i64 a0, .float .f64 f0, .int .i64 a1, .float .f64 f1, .int .i64 i, .float .f64 f] w fun e w' => e = .returned (.bool true) ∧ Below w.heap.size w w' := by
  cases n0 : (ord f0 f0 == some .eq)
  ·
    go_enter Yba.func3, Yba.ntmps3
    go_wp2_with (first
      | (go_at_call 6; refine (nan_t _ _ (by assumption)).mono ?_; rintro e w' ⟨rfl, rfl⟩)
      | (go_at_call 6; refine (nan_f _ _ (by assumption)).mono ?_; rintro e w' ⟨rfl, rfl⟩)
      | (go_at_call 7; refine (less_of _ _ _ _ _ (by assumption)).mono ?_; rintro e w' ⟨rfl, rfl⟩))
    go_ret
    exact ⟨rfl, Below.refl _ _⟩
  cases n1 : (ord f1 f1 == some .eq)
  ·
    go_enter Yba.func3, Yba.ntmps3
    go_wp2_with (first
      | (go_at_call 6; refine (nan_t _ _ (by assumption)).mono ?_; rintro e w' ⟨rfl, rfl⟩)
      | (go_at_call 6; refine (nan_f _ _ (by assumption)).mono ?_; rintro e w' ⟨rfl, rfl⟩)
      | (go_at_call 7; refine (less_of _ _ _ _ _ (by assumption)).mono ?_; rintro e w' ⟨rfl, rfl⟩))
    go_ret
    exact ⟨rfl, Below.refl _ _⟩
  cases n2 : (ord f f == some .eq)
  ·
    go_enter Yba.func3, Yba.ntmps3
    go_wp2_with (first
      | (go_at_call 6; refine (nan_t _ _ (by assumption)).mono ?_; rintro e w' ⟨rfl, rfl⟩)
      | (go_at_call 6; refine (nan_f _ _ (by assumption)).mono ?_; rintro e w' ⟨rfl, rfl⟩)
      | (go_at_call 7; refine (less_of _ _ _ _ _ (by assumption)).mono ?_; rintro e w' ⟨rfl, rfl⟩))
    go_ret
    exact ⟨rfl, Below.refl _ _⟩
  cases hpre : lessB f1 a1 f0 a0
  · cases h0 : lessB f i f0 a0
    · cases h1 : lessB f i f1 a1
      · exact low_none a0 f0 a1 f1 i f w n0 n1 n2 hpre h0 h1
      · exact low_second a0 f0 a1 f1 i f w n0 n1 n2 hpre h0 h1
    · exact low_first a0 f0 a1 f1 i f w n0 n1 n2 hpre h0
  ·
    go_enter Yba.func3, Yba.ntmps3
    go_wp2_with (first
      | (go_at_call 6; refine (nan_t _ _ (by assumption)).mono ?_; rintro e w' ⟨rfl, rfl⟩)
      | (go_at_call 6; refine (nan_f _ _ (by assumption)).mono ?_; rintro e w' ⟨rfl, rfl⟩)
      | (go_at_call 7; refine (less_of _ _ _ _ _ (by assumption)).mono ?_; rintro e w' ⟨rfl, rfl⟩))
    go_ret
    exact ⟨rfl, Below.refl _ _⟩

/-! ### THE ROW's STEP: WRITTEN OUT: LEAVE IT -/
set_option maxRecDepth 100000 in
theorem lifted (os : Os) (started : os.Started) (H : Type) (enc : TypeId × Value → H) :
    ReturnsInHanded {} Yba.checked os 3 .any (Rows.lawS0118BTwoLowestSpec.pre6 enc Yba.prog Yba.f3 Rows.lawS0118BTwoLowestRow.domain false) (Rows.lawS0118BTwoLowestSpec.post enc Yba.prog Yba.f3 false true false false) := by
  refine returnsInHanded_of_change (C := Yba.checked) own started (by kernel_rfl) Yba.func3
    (ChangeSpec.witness6 (enc := enc) (C := Yba.checked) false ⟨#[], #[.int .i64 0, .float .f64 0, .int .i64 0, .float .f64 0, .int .i64 0, .float .f64 0], []⟩ 8 (by kernel_rfl) (by kernel_rfl) (by kernel_rfl) (by kernel_rfl)) ?_
  intro W base args ds gs before hval0 hW hcnd _
  have hval : ∀ (j : Nat) t v, Yba.f3.params[j]? = some t → args[j]? = some v → Value.okWide Yba.prog W .any base t v := hval0
  have hW' := hW
  obtain ⟨p, q, hA0, hV, rfl, hfz, hnd⟩ := hW
  have hA : DataW.TrodAll enc Yba.prog W 0 (fun _ => true) true Yba.f3.params.toList args.toList ds p := hA0
  rw [Yba.params3] at hA hval
  obtain ⟨v0, vs0, d0, ds0, p0, q0, hargs, rfl, rfl, h0, r0⟩ := trodAll_cons hA
  obtain ⟨v1, vs1, d1, ds1, p1, q1, rfl, rfl, rfl, h1, r1⟩ := trodAll_cons r0
  obtain ⟨v2, vs2, d2, ds2, p2, q2, rfl, rfl, rfl, h2, r2⟩ := trodAll_cons r1
  obtain ⟨v3, vs3, d3, ds3, p3, q3, rfl, rfl, rfl, h3, r3⟩ := trodAll_cons r2
  obtain ⟨v4, vs4, d4, ds4, p4, q4, rfl, rfl, rfl, h4, r4⟩ := trodAll_cons r3
  obtain ⟨v5, vs5, d5, ds5, p5, q5, rfl, rfl, rfl, h5, r5⟩ := trodAll_cons r4
  obtain ⟨rfl, rfl, rfl⟩ := trodAll_nil r5
  obtain rfl : args = #[v0, v1, v2, v3, v4, v5] := by cases args; simp_all
  obtain ⟨rfl, rfl⟩ := trodVars_none hV
  obtain ⟨a0, rfl, rfl, rfl, w0⟩ := open_int Yba.underlying3 (hval 0 3 v0 rfl rfl) h0
  obtain ⟨a1, rfl, rfl, rfl, w1⟩ := open_float Yba.underlying22 (hval 1 22 v1 rfl rfl) h1
  obtain ⟨a2, rfl, rfl, rfl, w2⟩ := open_int Yba.underlying3 (hval 2 3 v2 rfl rfl) h2
  obtain ⟨a3, rfl, rfl, rfl, w3⟩ := open_float Yba.underlying22 (hval 3 22 v3 rfl rfl) h3
  obtain ⟨a4, rfl, rfl, rfl, w4⟩ := open_int Yba.underlying3 (hval 4 3 v4 rfl rfl) h4
  obtain ⟨a5, rfl, rfl, rfl, w5⟩ := open_float Yba.underlying22 (hval 5 22 v5 rfl rfl) h5
  clear hA0 hval0
  refine (walk a0 a1 a2 a3 a4 a5 W).mono fun e W' ⟨he, bel⟩ => ?_
  subst he
  exact ⟨_, rfl, _, _, _, [], _, [], hW', trodAll_mk1 (shut_bool Yba.underlying4 _), (trodAll_cons_mk (shut_int Yba.underlying3 w0) (trodAll_cons_mk (shut_float Yba.underlying22 w1) (trodAll_cons_mk (shut_int Yba.underlying3 w2) (trodAll_cons_mk (shut_float Yba.underlying22 w3) (trodAll_cons_mk (shut_int Yba.underlying3 w4) (trodAll_cons_mk (shut_float Yba.underlying22 w5) trodAll_mk0)))))), rfl, bel.frame _, fun h => by cases h⟩

theorem over : Rows.lawS0118BTwoLowestRow.holds Yba.pinned (OpenSpec.ofChange Rows.lawS0118BTwoLowestSpec) :=
  OpenClaim.holds_of_wide 3 Yba.f3 rfl rfl rfl rfl rfl rfl rfl ⟨rfl, rfl, rfl, rfl, rfl⟩ rfl rfl rfl rfl rfl (by kernel_rfl) Yba.func3 (by kernel_rfl)
    (of_decide_eq_true (by kernel_rfl)) (by unfold Func.isWrapper; first | (rw [if_pos (by decide +kernel)]; kernel_rfl) | (rw [if_neg (by decide +kernel)]; exact ⟨rfl, rfl⟩))
    (fun os started H enc _ => lifted os started H enc)

/-- ████ THE STATEMENT ████ -/
theorem proved : Rows.LawS0118BTwoLowestSaid :=
  over
#print axioms proved
end Go.Proofs.Ybulkbko.lawS0118BTwoLowest
