/-
  'Rows.LawS0118CHighSaid' PROVED. The frame is the guide's skeleton for a law (written for slices of integers; the slices of pairs of floats by hand).
-/
import Derived.Test.YbulkbkoHighC
import Derived.Test.YbulkbkoHighD
import Derived.Deep.SlicePairs
import Derived.Lib.RowBridge
import Derived.WalkKit
import Derived.ProofKit
import Derived.OpenShut
import Derived.ShutString
import Derived.ChangeOld
import Derived.Below
namespace Go.Proofs.Ybulkbko.lawS0118CHigh
open Go.ChangeShapes Go.WideShapes Go.ChangeAt Go.RowKit
open Go.ChangeMaps (open_string shut_string)
set_option linter.unusedVariables false

theorem own : ownKnob Yba.prog.godebug = none := by kernel_rfl
theorem laidOut : laidOutB Yba.prog = true := by kernel_rfl

theorem trod_float {H : Type} {enc : TypeId × Value → H} {P : Program} {w : World} {base : Nat} {spare : Nat → Bool} {held : Bool} {t : TypeId} {fuel : Nat} {cs : List Value} {x : DataW H × List MemPlace} {k : FloatKind}
    (ht : P.underlying t = some (.float k)) (h : DataW.trod enc P w base spare held fuel t cs = some x) : ∃ b, cs = [.float k b] := by
  cases fuel with
  | zero => simp [DataW.trod] at h
  | succ n =>
    unfold DataW.trod at h
    rw [ht] at h
    split at h <;> simp_all

/-- From the reading to what the walk asks. -/
theorem pairs_of {H : Type} {enc : TypeId × Value → H} {W : World} {a : Option Addr} {len cap fuel : Nat} {x : DataW H × List MemPlace} (hf : DataW.trod enc Yba.prog W 0 (fun _ => true) true fuel 37 [.slice a len cap] = some x) :
    ∃ c m, Pairs W a len c m := by
  rcases Go.Deep.open_slice_pairs Yba.underlying37 Yba.underlying40 (by kernel_rfl) rfl rfl (by kernel_rfl) (by kernel_rfl) hf with ⟨hcs, _⟩ | ⟨ad, l, cp, mm, n, V0, V1, D0, D1, P0, P1, hcs, _, hl, hm, hmm, _, hx⟩
  · simp at hcs
    exact ⟨fun _ => 0, fun _ => 0, .inl hcs.2.1⟩
  · simp at hcs
    obtain ⟨rfl, rfl, rfl⟩ := hcs
    simp only [if_true] at hmm
    subst hmm
    have each : ∀ i, i < mm → ∃ q : Nat × Nat, V0 i = .float .f64 q.1 ∧ V1 i = .float .f64 q.2 := fun i hi => by
      obtain ⟨_, _, t0, t1⟩ := hx i hi
      obtain ⟨b0, e0⟩ := trod_float Yba.underlying22 t0
      obtain ⟨b1, e1⟩ := trod_float Yba.underlying22 t1
      exact ⟨(b0, b1), by simpa using e0, by simpa using e1⟩
    obtain ⟨q, hq⟩ := Go.Deep.choose_lt each
    refine ⟨fun i => (q i).1, fun i => (q i).2, ?_⟩
    by_cases h0 : len = 0
    · exact .inl h0
    · obtain ⟨b, off, spot⟩ := ad
      have hspot : spot = none := by simpa [Addr.add] using World.cell?_spot (hx 0 (by omega)).1
      subst hspot
      have hc : ∀ j, j < len → W.cell? ⟨b, off + j * 2, none⟩ = some (.float .f64 (q j).1) ∧ W.cell? ⟨b, off + j * 2 + 1, none⟩ = some (.float .f64 (q j).2) := fun j hj => by
        obtain ⟨c0, c1, _, _⟩ := hx j (by omega)
        rw [add_plain] at c0 c1
        rw [(hq j (by omega)).1] at c0
        rw [(hq j (by omega)).2] at c1
        exact ⟨c0, c1⟩
      exact .inr ⟨b, off, rfl, World.block_lt_of_cell? W _ (hc 0 (by omega)).1, hc⟩

set_option maxHeartbeats 800000 in
theorem walk (a0 : Option Addr) (n cap0 : Nat) (c0 m0 : Nat → Nat) (a1 : Option Addr) (len1 cap1 : Nat) (c1 m1 : Nat → Nat) (b : Bool) (w : World) (w0 : Pairs w a0 n c0 m0) (w1 : Pairs w a1 len1 c1 m1) :
    Calls Yba.prog 5 #[.slice a0 n cap0, .slice a1 len1 cap1, .bool b] w fun e w' => e = .returned (.bool true) ∧ Below w.heap.size w w' := by
  by_cases hn : n ≤ 1024
  · by_cases hl : len1 ≤ 1024
    · cases b
      · exact high_walk_nil a0 n cap0 c0 m0 a1 len1 cap1 w w0 hn hl
      · exact high_walk_some a0 n cap0 c0 m0 a1 len1 cap1 c1 m1 w w0 w1 hn hl
    · have h1 : (1024 : Int) < (len1 : Int) := by omega
      have h0 : ¬ (1024 : Int) < (n : Int) := by omega
      clear w0 w1
      go_enter Yba.func5, Yba.ntmps5
      go_wp2
      go_ret
      exact ⟨rfl, Below.refl _ _⟩
  · have h0 : (1024 : Int) < (n : Int) := by omega
    clear w0 w1
    go_enter Yba.func5, Yba.ntmps5
    go_wp2
    go_ret
    exact ⟨rfl, Below.refl _ _⟩

/-! ### THE ROW's STEP: WRITTEN OUT: LEAVE IT -/
set_option maxRecDepth 100000 in
theorem lifted (os : Os) (started : os.Started) (H : Type) (enc : TypeId × Value → H) :
    ReturnsInHanded {} Yba.checked os 5 .any (Rows.lawS0118CHighSpec.pre6 enc Yba.prog Yba.f5 Rows.lawS0118CHighRow.domain false) (Rows.lawS0118CHighSpec.post enc Yba.prog Yba.f5 false true false false) := by
  refine returnsInHanded_of_change (C := Yba.checked) own started (by kernel_rfl) Yba.func5
    (ChangeSpec.witness6 (enc := enc) (C := Yba.checked) false ⟨#[], #[.slice none 0 0, .slice none 0 0, .bool false], []⟩ 8 (by kernel_rfl) (by kernel_rfl) (by kernel_rfl) (by kernel_rfl)) ?_
  intro W base args ds gs before hval0 hW hcnd _
  have hval : ∀ (j : Nat) t v, Yba.f5.params[j]? = some t → args[j]? = some v → Value.okWide Yba.prog W .any base t v := hval0
  have hW' := hW
  obtain ⟨p, q, hA0, hV, rfl, hfz, hnd⟩ := hW
  have hA : DataW.TrodAll enc Yba.prog W 0 (fun _ => true) true Yba.f5.params.toList args.toList ds p := hA0
  rw [Yba.params5] at hA hval
  obtain ⟨v0, vs0, d0, ds0, p0, q0, hargs, rfl, rfl, h0, r0⟩ := trodAll_cons hA
  obtain ⟨v1, vs1, d1, ds1, p1, q1, rfl, rfl, rfl, h1, r1⟩ := trodAll_cons r0
  obtain ⟨v2, vs2, d2, ds2, p2, q2, rfl, rfl, rfl, h2, r2⟩ := trodAll_cons r1
  obtain ⟨rfl, rfl, rfl⟩ := trodAll_nil r2
  obtain rfl : args = #[v0, v1, v2] := by cases args; simp_all
  obtain ⟨rfl, rfl⟩ := trodVars_none hV
  obtain ⟨a0, len0, cap0, rfl⟩ := okWide_slice Yba.underlying37 (hval 0 37 v0 rfl rfl)
  have k0 := h0
  have lt0 : ∀ x ∈ p0, x.block < W.heap.size := by obtain ⟨m, hm⟩ := k0; exact DataW.trod_lt m _ _ _ hm
  obtain ⟨c0, m0, w0⟩ : ∃ c m, Pairs W a0 len0 c m := by
    obtain ⟨fuel, hf⟩ := h0
    exact pairs_of (by simpa [Value.cells] using hf)
  obtain ⟨a1, len1, cap1, rfl⟩ := okWide_slice Yba.underlying37 (hval 1 37 v1 rfl rfl)
  have k1 := h1
  have lt1 : ∀ x ∈ p1, x.block < W.heap.size := by obtain ⟨m, hm⟩ := k1; exact DataW.trod_lt m _ _ _ hm
  obtain ⟨c1, m1, w1⟩ : ∃ c m, Pairs W a1 len1 c m := by
    obtain ⟨fuel, hf⟩ := h1
    exact pairs_of (by simpa [Value.cells] using hf)
  obtain ⟨a2, rfl, rfl, rfl⟩ := open_bool Yba.underlying4 (hval 2 4 v2 rfl rfl) h2
  clear hA0 hval0
  refine (walk a0 len0 cap0 c0 m0 a1 len1 cap1 c1 m1 a2 W w0 w1).mono fun e W' ⟨he, bel⟩ => ?_
  subst he
  exact ⟨_, rfl, _, _, _, [], _, [], hW', trodAll_mk1 (shut_bool Yba.underlying4 _), (trodAll_cons_mk (Below.trod laidOut (by kernel_rfl) (of_decide_eq_true (by kernel_rfl)) k0 bel lt0) (trodAll_cons_mk (Below.trod laidOut (by kernel_rfl) (of_decide_eq_true (by kernel_rfl)) k1 bel lt1) (trodAll_cons_mk (shut_bool Yba.underlying4 _) trodAll_mk0))), rfl, bel.frame _, fun h => by cases h⟩

theorem over : Rows.lawS0118CHighRow.holds Yba.pinned (OpenSpec.ofChange Rows.lawS0118CHighSpec) :=
  OpenClaim.holds_of_wide 5 Yba.f5 rfl rfl rfl rfl rfl rfl rfl ⟨rfl, rfl, rfl, rfl, rfl⟩ rfl rfl rfl rfl rfl (by kernel_rfl) Yba.func5 (by kernel_rfl)
    (of_decide_eq_true (by kernel_rfl)) (by unfold Func.isWrapper; first | (rw [if_pos (by decide +kernel)]; kernel_rfl) | (rw [if_neg (by decide +kernel)]; exact ⟨rfl, rfl⟩))
    (fun os started H enc _ => lifted os started H enc)

/-- ████ THE STATEMENT ████ -/
theorem proved : Rows.LawS0118CHighSaid := over
#print axioms proved
end Go.Proofs.Ybulkbko.lawS0118CHigh
