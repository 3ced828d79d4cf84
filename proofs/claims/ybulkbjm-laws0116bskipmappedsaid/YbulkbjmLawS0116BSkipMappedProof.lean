/-
  'Rows.LawS0116BSkipMappedSaid' PROVED. The frame is the shell that lay beside the statement's page; the walk is filled.
-/
import Derived.Test.YbulkbjmMapWalks
import Derived.Lib.RowBridge
import Derived.WalkKit
import Derived.ProofKit
import Derived.OpenShut
import Derived.ShutString
import Derived.ChangeOld
import Derived.Below
namespace Go.Proofs.Ybulkbjm.lawS0116BSkipMapped
open Go.ChangeShapes Go.WideShapes Go.ChangeAt Go.RowKit
open Go.ChangeMaps (open_string shut_string)
set_option linter.unusedVariables false

theorem own : ownKnob Yba.prog.godebug = none := by kernel_rfl
theorem laidOut : laidOutB Yba.prog = true := by kernel_rfl

/-- WHAT THE WALK IS TOLD OF A SLICE OF INTEGERS THAT CAME IN: it is nil; or it leads to a row of 'cap' cells, the numbers 'zs' (the first 'len' are its elements, the rest its spare room), each fitting its kind. -/
def IsRow (k : IntKind) (w : World) (a : Option Addr) (len cap : Nat) (zs : List Int) : Prop :=
  (a = none ∧ len = 0 ∧ cap = 0 ∧ zs = []) ∨
  ∃ x, a = some x ∧ len ≤ cap ∧ cap ≤ maxLen ∧ zs.length = cap ∧ (∀ i, i < zs.length → w.cell? (x.add i) = some (.int k (zs.getD i 0))) ∧ ∀ n ∈ zs, (Lit.int k n).wf = true

/-! ### STEP 1: THE WALK: the Go text returns true, AND WRITES NOTHING THAT WAS THERE: 'Below w.heap.size w w'' (Derived/Below.lean: '.refl', '.alloc', '.drew', '.setCell' at a new block, '.trans'). Open each 'IsRow' by 'rcases' AHEAD of 'go_enter'; part every test ahead of the walk. -/
set_option maxHeartbeats 800000 in
theorem walk (a0 : Option Addr) (len0 cap0 : Nat) (z0 : List Int) (a1 : Int) (w : World) (w0 : IsRow .u8 w a0 len0 cap0 z0) (w1 : (Lit.int .u16 a1).wf = true) :
    Calls Yba.prog 3 #[.slice a0 len0 cap0, .int .u16 a1] w fun e w' => e = .returned (.bool true) ∧ Below w.heap.size w w' := by
  have b1 := bounds_u16 w1
  by_cases hbig : 1024 < len0
  · go_enter Yba.func3, Yba.ntmps3
    go_wp2
    go_ret
    exact ⟨rfl, Below.refl _ _⟩
  · obtain ⟨i, hi, hmod⟩ : ∃ i : Nat, i ≤ len0 + 1 ∧ a1 % ((len0 : Int) + 2) = (i : Int) := ⟨(a1 % ((len0 : Int) + 2)).toNat, by
      have := Int.emod_nonneg a1 (b := (len0 : Int) + 2) (by omega)
      have := Int.emod_lt_of_pos a1 (b := (len0 : Int) + 2) (by omega)
      omega, by
      have := Int.emod_nonneg a1 (b := (len0 : Int) + 2) (by omega)
      omega⟩
    obtain ⟨i0, hi0, hz0, hz1, hz2⟩ := info_parts Yba.info5
    have hby : i0.bytes * len0 ≤ 281474976710656 := by rw [hz2]; omega
    have hml : len0 ≤ maxLen := by unfold maxLen; omega
    by_cases hz : len0 = 0
    · subst hz
      have hmod2 : a1 % 2 = (i : Int) := by simpa using hmod
      clear hmod
      go_enter Yba.func3, Yba.ntmps3
      go_wp2_with (at_make; refine wpList_make_full _ rfl _ _ 22 rfl w.heap.size 5 i0 (.int .u8 0) 1 Yba.underlying22 hi0 hz0 hz1 _ _ _ _ 0 rfl rfl rfl rfl hby hml (Nat.le_refl _) ?_; intro w1 hown hgrow; have hbel := (Below.refl w.heap.size w).grown hgrow (Nat.le_refl _) (by simp); clear hgrow)
      refine wp_loop_rounds 1 ?_
      rw [rounds_succ]
      go_wp2_with (go_at_call 7; refine (check_zero _ _ i _ hi).mono ?_; rintro e w' ⟨rfl, rfl⟩)
      go_ret
      exact ⟨rfl, hbel⟩
    · rcases w0 with ⟨_, h0, _⟩ | ⟨x, rfl, hlc, hcm, hzl, hcell, hwf⟩
      · exact absurd h0 hz
      · obtain ⟨b, off, spot⟩ := x
        have hspot : spot = none := by simpa [Addr.add] using World.cell?_spot (hcell 0 (by omega))
        subst hspot
        have hc : ∀ j, j < len0 → w.cell? ⟨b, off + j, none⟩ = some (.int .u8 (z0.getD j 0)) := fun j hj => by rw [← add_plain]; exact hcell j (by omega)
        have hbB : b < w.heap.size := World.block_lt_of_cell? w _ (hc 0 (by omega))
        have hrg := range_u8 hwf
        clear hcell hcm hlc hzl hwf
        have HC : Hid (∀ j, j < len0 → w.cell? ⟨b, off + j, none⟩ = some (.int .u8 (z0.getD j 0))) := hc
        have HR : Hid (∀ j : Nat, 0 ≤ z0[j]?.getD 0 ∧ z0[j]?.getD 0 ≤ 255) := hrg
        clear hc hrg
        go_enter Yba.func3, Yba.ntmps3
        go_wp2_with (at_make; refine wpList_make_full _ rfl _ _ 22 rfl w.heap.size 5 i0 (.int .u8 0) 1 Yba.underlying22 hi0 hz0 hz1 _ _ _ _ len0 rfl rfl rfl rfl hby hml (Nat.le_refl _) ?_; intro w1 hown hgrow; have hbel := (Below.refl w.heap.size w).grown hgrow (Nat.le_refl _) (by simp); clear hgrow; have hhas := HasBytes.made hown; clear hown)
        go_loopw [6] (fun t wr => ∃ k : Nat, k ≤ len0 ∧ t = .int .i64 k ∧ HasBytes wr w.heap.size len0 ∧ Below w.heap.size w wr) (fun t _ => len0 - (intOf t).toNat)
        case atStart => exact ⟨0, Nat.zero_le _, rfl, hhas, hbel⟩
        case round =>
          obtain ⟨k, hk, rfl, hh, hb⟩ := hrel
          clear hbel hhas
          by_cases hlt : k < len0
          · have hcr : wr.cell? ⟨b, off + k, none⟩ = some (.int .u8 (z0.getD k 0)) := (hb.cell (by exact hbB)).trans (HC.out k hlt)
            have hr := HR.out k
            have hzk : z0.getD k 0 = z0[k]?.getD 0 := by simp
            rw [← hzk] at hr
            obtain ⟨z, hz⟩ : ∃ z, z = z0.getD k 0 := ⟨_, rfl⟩
            rw [← hz] at hcr hr
            clear hz hzk
            obtain ⟨xs, hcs⟩ := hh.cell
            have hck := hcs k hlt
            have hfk := hh.frozen k
            have hst := hh.stored k
            clear hcs
            obtain ⟨r1, r2⟩ := hr
            go_wp2_with (go_at_call 6; refine (pick_any _ _ r1 r2).mono ?_; rintro e w' ⟨⟨y, rfl⟩, rfl⟩)
            go_roundw
            case rel => exact ⟨k + 1, by omega, by go_num, hst y, hb.setCell (by exact Nat.le_refl _) _⟩
            case measure => simp [intOf]; omega
          · obtain ⟨xs, hcs⟩ := hh.cell
            have hcs' : Hid (∀ j, j < len0 → wr.cell? ⟨w.heap.size, 0 + j, none⟩ = some (.int .u8 (xs.getD j 0))) := fun j hj => by rw [Nat.zero_add]; exact hcs j hj
            clear hcs hh
            go_wp2_with (go_at_call 7; refine (check_any w.heap.size 0 len0 len0 i xs _ (by omega) hi hcs'.out).mono ?_; rintro e w' ⟨rfl, rfl⟩)
            go_ret
            exact ⟨rfl, hb⟩

/-! ### THE ROW's STEP: WRITTEN OUT: LEAVE IT -/
set_option maxRecDepth 100000 in
theorem lifted (os : Os) (started : os.Started) (H : Type) (enc : TypeId × Value → H) :
    ReturnsInHanded {} Yba.checked os 3 .any (Rows.lawS0116BSkipMappedSpec.pre6 enc Yba.prog Yba.f3 Rows.lawS0116BSkipMappedRow.domain false) (Rows.lawS0116BSkipMappedSpec.post enc Yba.prog Yba.f3 false true false false) := by
  refine returnsInHanded_of_change (C := Yba.checked) own started (by kernel_rfl) Yba.func3
    (ChangeSpec.witness6 (enc := enc) (C := Yba.checked) false ⟨#[], #[.slice none 0 0, .int .u16 0], []⟩ 8 (by kernel_rfl) (by kernel_rfl) (by kernel_rfl) (by kernel_rfl)) ?_
  intro W base args ds gs before hval0 hW hcnd _
  have hval : ∀ (j : Nat) t v, Yba.f3.params[j]? = some t → args[j]? = some v → Value.okWide Yba.prog W .any base t v := hval0
  have hW' := hW
  obtain ⟨p, q, hA0, hV, rfl, hfz, hnd⟩ := hW
  have hA : DataW.TrodAll enc Yba.prog W 0 (fun _ => true) true Yba.f3.params.toList args.toList ds p := hA0
  rw [Yba.params3] at hA hval
  obtain ⟨v0, vs0, d0, ds0, p0, q0, hargs, rfl, rfl, h0, r0⟩ := trodAll_cons hA
  obtain ⟨v1, vs1, d1, ds1, p1, q1, rfl, rfl, rfl, h1, r1⟩ := trodAll_cons r0
  obtain ⟨rfl, rfl, rfl⟩ := trodAll_nil r1
  obtain rfl : args = #[v0, v1] := by cases args; simp_all
  obtain ⟨rfl, rfl⟩ := trodVars_none hV
  obtain ⟨a0, len0, cap0, rfl⟩ := okWide_slice Yba.underlying22 (hval 0 22 v0 rfl rfl)
  have k0 := h0
  have lt0 : ∀ x ∈ p0, x.block < W.heap.size := by obtain ⟨m, hm⟩ := k0; exact DataW.trod_lt m _ _ _ hm
  obtain ⟨z0, w0⟩ : ∃ zs, IsRow .u8 W a0 len0 cap0 zs := by
    obtain ⟨fuel, hf⟩ := h0
    rcases open_ints Yba.underlying22 Yba.underlying5 (by kernel_rfl) hf with ⟨hcs, _⟩ | ⟨x, l, c, zs, hcs, _, hl, hm, hz, _, hcell, hwz⟩
    · simp [Value.cells] at hcs
      obtain ⟨rfl, rfl, rfl⟩ := hcs
      exact ⟨[], .inl ⟨rfl, rfl, rfl, rfl⟩⟩
    · simp [Value.cells] at hcs
      obtain ⟨rfl, rfl, rfl⟩ := hcs
      exact ⟨zs, .inr ⟨_, rfl, hl, hm, by simpa using hz, hcell, hwz⟩⟩
  obtain ⟨a1, rfl, rfl, rfl, w1⟩ := open_int Yba.underlying23 (hval 1 23 v1 rfl rfl) h1
  clear hA0 hval0
  refine (walk a0 len0 cap0 z0 a1 W w0 w1).mono fun e W' ⟨he, bel⟩ => ?_
  subst he
  exact ⟨_, rfl, _, _, _, [], _, [], hW', trodAll_mk1 (shut_bool Yba.underlying4 _), (trodAll_cons_mk (Below.trod laidOut (by kernel_rfl) (of_decide_eq_true (by kernel_rfl)) k0 bel lt0) (trodAll_cons_mk (shut_int Yba.underlying23 w1) trodAll_mk0)), rfl, bel.frame _, fun h => by cases h⟩

theorem over : Rows.lawS0116BSkipMappedRow.holds Yba.pinned (OpenSpec.ofChange Rows.lawS0116BSkipMappedSpec) :=
  OpenClaim.holds_of_wide 3 Yba.f3 rfl rfl rfl rfl rfl rfl rfl ⟨rfl, rfl, rfl, rfl, rfl⟩ rfl rfl rfl rfl rfl (by kernel_rfl) Yba.func3 (by kernel_rfl)
    (of_decide_eq_true (by kernel_rfl)) (by unfold Func.isWrapper; first | (rw [if_pos (by decide +kernel)]; kernel_rfl) | (rw [if_neg (by decide +kernel)]; exact ⟨rfl, rfl⟩))
    (fun os started H enc _ => lifted os started H enc)

/-- ████ THE STATEMENT ████ -/
theorem proved : Rows.LawS0116BSkipMappedSaid := over
#print axioms proved
end Go.Proofs.Ybulkbjm.lawS0116BSkipMapped
