/-
  THE SHELL OF A PROOF OF 'Rows.LawS3274AHalfSaid' ('example.com/tendermark/tendermark/pkg/tender.LawS3274AHalf'), WRITTEN BY PROGRAM (proof-skeleton.mjs) off the guide's own print for that function.
  THE HOLE IS FILLED; all else is the tool's frame.
-/
import Derived.Test.YbulkbotyOf
import Derived.WalkKit
import Derived.ProofKit
import Derived.OpenShut
import Derived.ShutString
namespace Go.Proofs.Ybulkboty.lawS3274AHalf
open Go.ChangeShapes Go.WideShapes Go.ChangeAt Go.RowKit
open Go.ChangeMaps (open_string shut_string)
set_option linter.unusedVariables false      -- a walk need not use every 'w<i>' (that an integer argument fits its kind)

theorem own : ownKnob Yba.prog.godebug = none := by kernel_rfl

theorem half_odd (k : Int) (w : World) (k0 : 0 ≤ k) (k1 : k < 5000000000) : Calls Yba.prog 8 #[.int .i64 500000, .int .i64 (2 * k + 1)] w fun e w' => e = .returned (.int .i64 (k + 1)) ∧ w' = w := by
  refine (of_any 500000 (2 * k + 1) w (by omega) (by omega)).mono ?_
  rintro e w' ⟨rfl, rfl⟩
  exact ⟨ret_i64 (by rw [ofZ_nonneg _ (by omega)]; omega), rfl⟩

theorem half_even (k : Int) (w : World) (k0 : 0 ≤ k) (k1 : k < 5000000000) : Calls Yba.prog 8 #[.int .i64 500000, .int .i64 (2 * k)] w fun e w' => e = .returned (.int .i64 k) ∧ w' = w := by
  refine (of_any 500000 (2 * k) w (by omega) (by omega)).mono ?_
  rintro e w' ⟨rfl, rfl⟩
  exact ⟨ret_i64 (by rw [ofZ_nonneg _ (by omega)]; omega), rfl⟩

theorem of_whole (k : Int) (w : World) (k0 : 0 ≤ k) (k1 : k < 5000000000) : Calls Yba.prog 8 #[.int .i64 1000000, .int .i64 k] w fun e w' => e = .returned (.int .i64 k) ∧ w' = w := by
  refine (of_any 1000000 k w (by omega) (by omega)).mono ?_
  rintro e w' ⟨rfl, rfl⟩
  exact ⟨ret_i64 (by rw [ofZ_nonneg _ (by omega)]; omega), rfl⟩

theorem of_none (k : Int) (w : World) (k0 : 0 ≤ k) (k1 : k < 5000000000) : Calls Yba.prog 8 #[.int .i64 0, .int .i64 k] w fun e w' => e = .returned (.int .i64 0) ∧ w' = w := by
  refine (of_any 0 k w (by omega) (by omega)).mono ?_
  rintro e w' ⟨rfl, rfl⟩
  exact ⟨ret_i64 (by rw [ofZ_nonneg _ (by omega)]; omega), rfl⟩

/-! ### STEP 1: THE WALK: the Go text returns true. 'Grown w w'': the world has at most new blocks (Derived/RowKit3.lean). Part the cases AHEAD of 'go_enter' where a test parts the walk; take each callee by a contract of your own. -/
theorem walk (a0 : Int) (w0 : (Lit.int .u64 a0).wf = true) (w : World) :
    Calls Yba.prog 5 #[.int .u64 a0] w fun e w' => e = .returned (.bool true) ∧ Grown w w' := by
  have b0 := bounds_u64 w0
  obtain ⟨k, hk⟩ : ∃ k, a0 % 5000000000 = k := ⟨_, rfl⟩
  have k0 : 0 ≤ k := by omega
  have k1 : k < 5000000000 := by omega
  go_enter Yba.func5, Yba.ntmps5
  go_wp2_with fail
  refine (half_odd k _ k0 k1).mono ?_
  rintro e w' ⟨rfl, rfl⟩
  go_wp2_with fail
  refine (half_even k _ k0 k1).mono ?_
  rintro e w' ⟨rfl, rfl⟩
  go_wp2_with fail
  refine (of_whole k _ k0 k1).mono ?_
  rintro e w' ⟨rfl, rfl⟩
  go_wp2_with fail
  refine (of_none k _ k0 k1).mono ?_
  rintro e w' ⟨rfl, rfl⟩
  go_wp2
  go_ret
  exact ⟨by simp, Grown.refl _⟩

/-! ### THE ROW's STEP: WRITTEN OUT: LEAVE IT -/
set_option maxRecDepth 100000 in
theorem lifted (os : Os) (started : os.Started) (H : Type) (enc : TypeId × Value → H) :
    ReturnsInHanded {} Yba.checked os 5 .any (Rows.lawS3274AHalfSpec.pre6 enc Yba.prog Yba.f5 Rows.lawS3274AHalfRow.domain false) (Rows.lawS3274AHalfSpec.post enc Yba.prog Yba.f5 false true false false) := by
  refine returnsInHanded_of_change (C := Yba.checked) own started (by kernel_rfl) Yba.func5
    (ChangeSpec.witness6 (enc := enc) (C := Yba.checked) false ⟨#[], #[.int .u64 0], []⟩ 8 (by kernel_rfl) (by kernel_rfl) (by kernel_rfl) (by kernel_rfl)) ?_
  intro W base args ds gs before hval0 hW hcnd _
  have hval : ∀ (j : Nat) t v, Yba.f5.params[j]? = some t → args[j]? = some v → Value.okWide Yba.prog W .any base t v := hval0
  have hW' := hW
  obtain ⟨p, q, hA0, hV, rfl, hfz, hnd⟩ := hW
  have hA : DataW.TrodAll enc Yba.prog W 0 (fun _ => true) true Yba.f5.params.toList args.toList ds p := hA0
  rw [Yba.params5] at hA hval
  obtain ⟨v0, vs0, d0, ds0, p0, q0, hargs, rfl, rfl, h0, r0⟩ := trodAll_cons hA
  obtain ⟨rfl, rfl, rfl⟩ := trodAll_nil r0
  obtain rfl : args = #[v0] := by cases args; simp_all
  obtain ⟨rfl, rfl⟩ := trodVars_none hV
  obtain ⟨a0, rfl, rfl, rfl, w0⟩ := open_int Yba.underlying22 (hval 0 22 v0 rfl rfl) h0
  clear hA0 hval0
  simp only [List.append_nil] at hW'
  refine (walk a0 w0 W).mono fun e W' ⟨he, hg⟩ => ?_
  subst he
  exact ⟨_, rfl, post_of_same (pa := []) (pv := []) hW' (fun _ _ _ => (trodAll_cons_mk (shut_bool Yba.underlying4 _) trodAll_mk0)) (fun sp _ => (trodAll_cons_mk (shut_int Yba.underlying22 w0) trodAll_mk0)) (fun _ _ => rfl) rfl
    (hg.frame _) hg.2.1 (ok_one (by kernel_rfl) rfl (okWide_bool_mk Yba.underlying4 _))⟩

theorem over : Rows.lawS3274AHalfRow.holds Yba.pinned (OpenSpec.ofChange Rows.lawS3274AHalfSpec) :=
  OpenClaim.holds_of_wide 5 Yba.f5 rfl rfl rfl rfl rfl rfl rfl ⟨rfl, rfl, rfl, rfl, rfl⟩ rfl rfl rfl rfl rfl (by kernel_rfl) Yba.func5 (by kernel_rfl)
    (of_decide_eq_true (by kernel_rfl)) (by unfold Func.isWrapper; first | (rw [if_pos (by decide +kernel)]; kernel_rfl) | (rw [if_neg (by decide +kernel)]; exact ⟨rfl, rfl⟩))
    (fun os started H enc _ => lifted os started H enc)

/-- ████ THE STATEMENT ████ -/
theorem proved : Rows.LawS3274AHalfSaid :=
  over
#print axioms proved
end Go.Proofs.Ybulkboty.lawS3274AHalf
