/-
  THE SHELL OF A PROOF OF 'Rows.LawS3274ASignedSaid' ('example.com/tendermark/tendermark/pkg/tender.LawS3274ASigned'), WRITTEN BY PROGRAM (proof-skeleton.mjs) off the guide's own print for that function.
  THE HOLE IS FILLED; all else is the tool's frame.
-/
import Derived.Test.YbulkbotyOf
import Derived.WalkKit
import Derived.ProofKit
import Derived.OpenShut
import Derived.ShutString
namespace Go.Proofs.Ybulkboty.lawS3274ASigned
open Go.ChangeShapes Go.WideShapes Go.ChangeAt Go.RowKit
open Go.ChangeMaps (open_string shut_string)
set_option linter.unusedVariables false      -- a walk need not use every 'w<i>' (that an integer argument fits its kind)

theorem own : ownKnob Yba.prog.godebug = none := by kernel_rfl

theorem prod_bd (p a : Int) (h1 : -1000000 ≤ p) (h2 : p ≤ 1000000) (h3 : -10000000000 ≤ a) (h4 : a ≤ 10000000000) : -10000000000000000 ≤ p * a ∧ p * a ≤ 10000000000000000 := by
  have k1 : p.natAbs ≤ 1000000 := by omega
  have k2 : a.natAbs ≤ 10000000000 := by omega
  have k3 : (p * a).natAbs ≤ 1000000 * 10000000000 := by rw [Int.natAbs_mul]; exact Nat.mul_le_mul k1 k2
  omega

/-- 'zzs3274amodel' where the product is not negative. -/
theorem model_pos (p a : Int) (w : World) (h0 : 0 ≤ p * a) (h1 : p * a ≤ 10000000000000000) :
    Calls Yba.prog 9 #[.int .i64 p, .int .i64 a] w fun e w' => e = .returned (.int .i64 ((p * a + 500000) / 1000000)) ∧ w' = w := by
  go_enter Yba.func9, Yba.ntmps9
  go_wp2
  go_ret
  exact ⟨rfl, rfl⟩

/-- 'zzs3274amodel' where the product is negative. -/
theorem model_neg (p a : Int) (w : World) (h0 : p * a < 0) (h1 : -10000000000000000 ≤ p * a) :
    Calls Yba.prog 9 #[.int .i64 p, .int .i64 a] w fun e w' => e = .returned (.int .i64 (-(-(p * a) / 1000000))) ∧ w' = w := by
  have d : Hid (wrap64 (-wrap64 (-(p * a).tdiv 1000000)) = -(-(p * a) / 1000000)) := by
    have e : (p * a).tdiv 1000000 = -(-(p * a) / 1000000) := by
      have := Int.neg_tdiv (-(p * a)) 1000000
      rw [Int.neg_neg] at this
      rw [this, Int.tdiv_eq_ediv_of_nonneg (by omega)]
    show _ = _
    rw [e]; unfold wrap64; omega
  go_enter Yba.func9, Yba.ntmps9
  go_wp2
  go_ret
  exact ⟨ret_i64 d.out, rfl⟩

/-! ### STEP 1: THE WALK: the Go text returns true. 'Grown w w'': the world has at most new blocks (Derived/RowKit3.lean). Part the cases AHEAD of 'go_enter' where a test parts the walk; take each callee by a contract of your own. -/
theorem walk (a0 : Int) (a1 : Int) (w0 : (Lit.int .i64 a0).wf = true) (w1 : (Lit.int .i64 a1).wf = true) (w : World) :
    Calls Yba.prog 4 #[.int .i64 a0, .int .i64 a1] w fun e w' => e = .returned (.bool true) ∧ Grown w w' := by
  have b0 := bounds_i64 w0
  have b1 := bounds_i64 w1
  by_cases c1 : a0 < -1000000
  · go_enter Yba.func4, Yba.ntmps4
    go_wp2
    all_goals (go_ret; exact ⟨rfl, Grown.refl _⟩)
  by_cases c2 : 1000000 < a0
  · go_enter Yba.func4, Yba.ntmps4
    go_wp2
    all_goals (go_ret; exact ⟨rfl, Grown.refl _⟩)
  by_cases c3 : a1 ≤ -10000000000
  · go_enter Yba.func4, Yba.ntmps4
    go_wp2
    all_goals (go_ret; exact ⟨rfl, Grown.refl _⟩)
  by_cases c4 : 10000000000 ≤ a1
  · go_enter Yba.func4, Yba.ntmps4
    go_wp2
    all_goals (go_ret; exact ⟨rfl, Grown.refl _⟩)
  have nb := prod_bd a0 a1 (by omega) (by omega) (by omega) (by omega)
  obtain ⟨n1, n2⟩ := nb
  by_cases c5 : 0 ≤ a0 * a1
  · go_enter Yba.func4, Yba.ntmps4
    go_wp2_with (first | (go_at_call 8; refine (of_any a0 a1 _ (by omega) (by omega)).mono ?_; rintro e w' ⟨rfl, rfl⟩; rw [ofZ_nonneg _ c5]) | (go_at_call 9; refine (model_pos a0 a1 _ c5 n2).mono ?_; rintro e w' ⟨rfl, rfl⟩))
    all_goals (go_ret; exact ⟨by simp, Grown.refl _⟩)
  · go_enter Yba.func4, Yba.ntmps4
    go_wp2_with (first | (go_at_call 8; refine (of_any a0 a1 _ (by omega) (by omega)).mono ?_; rintro e w' ⟨rfl, rfl⟩; rw [ofZ_neg _ (by omega)]) | (go_at_call 9; refine (model_neg a0 a1 _ (by omega) n1).mono ?_; rintro e w' ⟨rfl, rfl⟩))
    all_goals (go_ret; exact ⟨by simp, Grown.refl _⟩)

/-! ### THE ROW's STEP: WRITTEN OUT: LEAVE IT -/
set_option maxRecDepth 100000 in
theorem lifted (os : Os) (started : os.Started) (H : Type) (enc : TypeId × Value → H) :
    ReturnsInHanded {} Yba.checked os 4 .any (Rows.lawS3274ASignedSpec.pre6 enc Yba.prog Yba.f4 Rows.lawS3274ASignedRow.domain false) (Rows.lawS3274ASignedSpec.post enc Yba.prog Yba.f4 false true false false) := by
  refine returnsInHanded_of_change (C := Yba.checked) own started (by kernel_rfl) Yba.func4
    (ChangeSpec.witness6 (enc := enc) (C := Yba.checked) false ⟨#[], #[.int .i64 0, .int .i64 0], []⟩ 8 (by kernel_rfl) (by kernel_rfl) (by kernel_rfl) (by kernel_rfl)) ?_
  intro W base args ds gs before hval0 hW hcnd _
  have hval : ∀ (j : Nat) t v, Yba.f4.params[j]? = some t → args[j]? = some v → Value.okWide Yba.prog W .any base t v := hval0
  have hW' := hW
  obtain ⟨p, q, hA0, hV, rfl, hfz, hnd⟩ := hW
  have hA : DataW.TrodAll enc Yba.prog W 0 (fun _ => true) true Yba.f4.params.toList args.toList ds p := hA0
  rw [Yba.params4] at hA hval
  obtain ⟨v0, vs0, d0, ds0, p0, q0, hargs, rfl, rfl, h0, r0⟩ := trodAll_cons hA
  obtain ⟨v1, vs1, d1, ds1, p1, q1, rfl, rfl, rfl, h1, r1⟩ := trodAll_cons r0
  obtain ⟨rfl, rfl, rfl⟩ := trodAll_nil r1
  obtain rfl : args = #[v0, v1] := by cases args; simp_all
  obtain ⟨rfl, rfl⟩ := trodVars_none hV
  obtain ⟨a0, rfl, rfl, rfl, w0⟩ := open_int Yba.underlying2 (hval 0 2 v0 rfl rfl) h0
  obtain ⟨a1, rfl, rfl, rfl, w1⟩ := open_int Yba.underlying2 (hval 1 2 v1 rfl rfl) h1
  clear hA0 hval0
  simp only [List.append_nil] at hW'
  refine (walk a0 a1 w0 w1 W).mono fun e W' ⟨he, hg⟩ => ?_
  subst he
  exact ⟨_, rfl, post_of_same (pa := []) (pv := []) hW' (fun _ _ _ => (trodAll_cons_mk (shut_bool Yba.underlying4 _) trodAll_mk0)) (fun sp _ => (trodAll_cons_mk (shut_int Yba.underlying2 w0) (trodAll_cons_mk (shut_int Yba.underlying2 w1) trodAll_mk0))) (fun _ _ => rfl) rfl
    (hg.frame _) hg.2.1 (ok_one (by kernel_rfl) rfl (okWide_bool_mk Yba.underlying4 _))⟩

theorem over : Rows.lawS3274ASignedRow.holds Yba.pinned (OpenSpec.ofChange Rows.lawS3274ASignedSpec) :=
  OpenClaim.holds_of_wide 4 Yba.f4 rfl rfl rfl rfl rfl rfl rfl ⟨rfl, rfl, rfl, rfl, rfl⟩ rfl rfl rfl rfl rfl (by kernel_rfl) Yba.func4 (by kernel_rfl)
    (of_decide_eq_true (by kernel_rfl)) (by unfold Func.isWrapper; first | (rw [if_pos (by decide +kernel)]; kernel_rfl) | (rw [if_neg (by decide +kernel)]; exact ⟨rfl, rfl⟩))
    (fun os started H enc _ => lifted os started H enc)

/-- ████ THE STATEMENT ████ -/
theorem proved : Rows.LawS3274ASignedSaid :=
  over
#print axioms proved
end Go.Proofs.Ybulkboty.lawS3274ASigned
