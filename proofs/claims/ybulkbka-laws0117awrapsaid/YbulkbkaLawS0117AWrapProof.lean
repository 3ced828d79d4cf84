/-
  'Rows.LawS0117AWrapSaid' PROVED. The frame is the guide's skeleton for a law; what stands behind the call is said by 'Below'.
-/
import Derived.Test.YbulkbkaCondC
import Derived.Carry
import Derived.Deep.RegionHeld3
import Derived.StillTactics
import Derived.ChangeOld
import Derived.WalkKit
import Derived.ProofKit
import Derived.OpenShut
import Derived.ShutString
namespace Go.Proofs.Ybulkbka.lawS0117AWrap
open Go.ChangeShapes Go.WideShapes Go.ChangeAt Go.RowKit
open Go.ChangeMaps (open_string shut_string)
set_option linter.unusedVariables false

theorem own : ownKnob Yba.prog.godebug = none := by kernel_rfl

theorem bcellN {W w1 : World} (hb : Below W.heap.size W w1) : ∀ b o, b < W.heap.size → w1.cell? ⟨b, o, none⟩ = W.cell? ⟨b, o, none⟩ :=
  fun b o h => hb.cell (p := ⟨b, o, none⟩) h
theorem size_lt {v1 v2 : World} {o : Obj} (h : Below (v1.alloc o).heap.size (v1.alloc o) v2) : v1.heap.size < v2.heap.size := by
  have := h.size
  simp at this
  omega
theorem bcellA {v1 v2 : World} {o : Obj} (h : Below (v1.alloc o).heap.size (v1.alloc o) v2) : ∀ i, v2.cell? ⟨v1.heap.size, i, none⟩ = (v1.alloc o).cell? ⟨v1.heap.size, i, none⟩ :=
  fun i => h.cell (p := ⟨v1.heap.size, i, none⟩) (by simp)

set_option maxHeartbeats 800000 in
theorem walk (a0 : Int) (a1 : ByteArray) (a2 : Int) (a3 : Int) (a4 : Int) (w0 : (Lit.int .u8 a0).wf = true) (w3 : (Lit.int .u8 a3).wf = true) (w4 : (Lit.int .u8 a4).wf = true) (w : World) :
    Calls Yba.prog 4 #[.int .u8 a0, .string a1, .int .i64 a2, .int .u8 a3, .int .u8 a4] w fun e w' => e = .returned (.bool true) ∧ Below w.heap.size w w' := by
  obtain ⟨b0, b0'⟩ := bounds_u8 w0
  obtain ⟨b3, b3'⟩ := bounds_u8 w3
  obtain ⟨b4, b4'⟩ := bounds_u8 w4
  clear w0 w3 w4
  have q26 : ∀ (w : World) (a : Option Addr) (n c n' c' : Nat), (binOp .neq 26 (.slice a n c) (.slice none n' c')).run Yba.prog w = .ok (.bool (!a.isNone)) w := fun w a n c n' c' => run_neq_slice_nil_any w _ _ a n c n' c' Yba.underlying26
  go_enter Yba.func4, Yba.ntmps4
  go_wp2_with (first
    | (go_at_call 6; refine (build_any _ _ _ _ _ _ b0 b0' b3 b3' b4 b4').mono ?_; rintro e v1 ⟨s, va, vn, pa, pn, rfl, hv, hp, hv3, hp3, bel1⟩; have H1 : Hid _ := hv; have H2 : Hid _ := hp; clear hv hp)
    | (go_at_call 7; refine (neg_true _ _ _ _ _ _ _ _).mono ?_; rintro e v2 ⟨g, rfl, bel2, row⟩; have hc2 := bcellA bel2; have hs2 := size_lt bel2; have B2 : Hid _ := bel2; have hg := row.lt; obtain ⟨x0, x1, x2, x3, x4, x5, x6⟩ := row.seven; clear bel2 row))
  have hA1 : g < v2.heap.size + 1 := by omega
  have hA2 : v1.heap.size < v2.heap.size + 1 := by omega
  have hA3 : ¬ g = v2.heap.size := by omega
  have hA4 : ¬ v1.heap.size = v2.heap.size := by omega
  go_region_held3 (fun w' => w'.cell? ⟨v2.heap.size, 6, none⟩ = some (.slice (some ⟨g, 0, none⟩) 1 1) ∧
      w'.cell? ⟨g, 0, none⟩ = some (.string s) ∧ w'.cell? ⟨g, 1, none⟩ = some (.string a1) ∧ w'.cell? ⟨g, 2, none⟩ = some (.int .i64 a2) ∧ w'.cell? ⟨g, 3, none⟩ = some (.int .u64 0) ∧
      w'.cell? ⟨g, 4, none⟩ = some (.int .i32 0) ∧ w'.cell? ⟨g, 5, none⟩ = some (.slice va vn vn) ∧ w'.cell? ⟨g, 6, none⟩ = some (.slice pa pn pn) ∧
      w'.cell? ⟨v1.heap.size, 0, none⟩ = some (.string s) ∧ w'.cell? ⟨v1.heap.size, 1, none⟩ = some (.string a1) ∧ w'.cell? ⟨v1.heap.size, 2, none⟩ = some (.int .i64 a2) ∧ w'.cell? ⟨v1.heap.size, 3, none⟩ = some (.int .u64 0) ∧
      w'.cell? ⟨v1.heap.size, 4, none⟩ = some (.int .i32 0) ∧ w'.cell? ⟨v1.heap.size, 5, none⟩ = some (.slice va vn vn) ∧ w'.cell? ⟨v1.heap.size, 6, none⟩ = some (.slice pa pn pn))
    (first | go_keep)
    (first | (go_at_call 8; refine (same_any _ _ _ _ _ _ _ _ H1.out H2.out hv3 hp3).mono ?_; rintro e v3 ⟨rfl, bel3⟩; have hc3 := bcellN bel3))
  have bel2 := B2.out
  have hz1 := bel1.size
  clear hc3 hc2 x0 x1 x2 x3 x4 x5 x6 B2
  go_wp2
  go_ret
  refine ⟨rfl, ?_⟩
  have t1 : Below w.heap.size w v2 := bel1.trans (((Below.refl _ _).alloc hz1 _).trans (bel2.mono (by simp; omega)))
  exact ((t1.alloc (by omega) _).drew).trans (bel3.mono (by simp; omega))

/-! ### THE ROW's STEP: WRITTEN OUT: LEAVE IT -/
set_option maxRecDepth 100000 in
theorem lifted (os : Os) (started : os.Started) (H : Type) (enc : TypeId × Value → H) :
    ReturnsInHanded {} Yba.checked os 4 .any (Rows.lawS0117AWrapSpec.pre6 enc Yba.prog Yba.f4 Rows.lawS0117AWrapRow.domain false) (Rows.lawS0117AWrapSpec.post enc Yba.prog Yba.f4 false true false false) := by
  refine returnsInHanded_of_change (C := Yba.checked) own started (by kernel_rfl) Yba.func4
    (ChangeSpec.witness6 (enc := enc) (C := Yba.checked) false ⟨#[], #[.int .u8 0, .string ByteArray.empty, .int .i64 0, .int .u8 0, .int .u8 0], []⟩ 8 (by kernel_rfl) (by kernel_rfl) (by kernel_rfl) (by kernel_rfl)) ?_
  intro W base args ds gs before hval0 hW hcnd _
  have hval : ∀ (j : Nat) t v, Yba.f4.params[j]? = some t → args[j]? = some v → Value.okWide Yba.prog W .any base t v := hval0
  have hW' := hW
  obtain ⟨p, q, hA0, hV, rfl, hfz, hnd⟩ := hW
  have hA : DataW.TrodAll enc Yba.prog W 0 (fun _ => true) true Yba.f4.params.toList args.toList ds p := hA0
  rw [Yba.params4] at hA hval
  obtain ⟨v0, vs0, d0, ds0, p0, q0, hargs, rfl, rfl, h0, r0⟩ := trodAll_cons hA
  obtain ⟨v1, vs1, d1, ds1, p1, q1, rfl, rfl, rfl, h1, r1⟩ := trodAll_cons r0
  obtain ⟨v2, vs2, d2, ds2, p2, q2, rfl, rfl, rfl, h2, r2⟩ := trodAll_cons r1
  obtain ⟨v3, vs3, d3, ds3, p3, q3, rfl, rfl, rfl, h3, r3⟩ := trodAll_cons r2
  obtain ⟨v4, vs4, d4, ds4, p4, q4, rfl, rfl, rfl, h4, r4⟩ := trodAll_cons r3
  obtain ⟨rfl, rfl, rfl⟩ := trodAll_nil r4
  obtain rfl : args = #[v0, v1, v2, v3, v4] := by cases args; simp_all
  obtain ⟨rfl, rfl⟩ := trodVars_none hV
  obtain ⟨a0, rfl, rfl, rfl, w0⟩ := open_int Yba.underlying5 (hval 0 5 v0 rfl rfl) h0
  obtain ⟨a1, rfl, rfl, rfl, w1⟩ := open_string Yba.underlying9 (hval 1 9 v1 rfl rfl) h1
  obtain ⟨a2, rfl, rfl, rfl, w2⟩ := open_int Yba.underlying3 (hval 2 3 v2 rfl rfl) h2
  obtain ⟨a3, rfl, rfl, rfl, w3⟩ := open_int Yba.underlying5 (hval 3 5 v3 rfl rfl) h3
  obtain ⟨a4, rfl, rfl, rfl, w4⟩ := open_int Yba.underlying5 (hval 4 5 v4 rfl rfl) h4
  clear hA0 hval0
  refine (walk a0 a1 a2 a3 a4 w0 w3 w4 W).mono fun e W' ⟨he, bel⟩ => ?_
  subst he
  exact ⟨_, rfl, _, _, _, [], _, [], hW', trodAll_mk1 (shut_bool Yba.underlying4 _), (trodAll_cons_mk (shut_int Yba.underlying5 w0) (trodAll_cons_mk (shut_string Yba.underlying9 w1) (trodAll_cons_mk (shut_int Yba.underlying3 w2) (trodAll_cons_mk (shut_int Yba.underlying5 w3) (trodAll_cons_mk (shut_int Yba.underlying5 w4) trodAll_mk0))))), rfl, bel.frame _, fun h => by cases h⟩

theorem over : Rows.lawS0117AWrapRow.holds Yba.pinned (OpenSpec.ofChange Rows.lawS0117AWrapSpec) :=
  OpenClaim.holds_of_wide 4 Yba.f4 rfl rfl rfl rfl rfl rfl rfl ⟨rfl, rfl, rfl, rfl, rfl⟩ rfl rfl rfl rfl rfl (by kernel_rfl) Yba.func4 (by kernel_rfl)
    (of_decide_eq_true (by kernel_rfl)) (by unfold Func.isWrapper; first | (rw [if_pos (by decide +kernel)]; kernel_rfl) | (rw [if_neg (by decide +kernel)]; exact ⟨rfl, rfl⟩))
    (fun os started H enc _ => lifted os started H enc)

/-- ████ THE STATEMENT ████ -/
theorem proved : Rows.LawS0117AWrapSaid :=
  over
#print axioms proved
end Go.Proofs.Ybulkbka.lawS0117AWrap
