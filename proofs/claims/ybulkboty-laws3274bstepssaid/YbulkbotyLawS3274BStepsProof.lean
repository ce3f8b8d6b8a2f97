/-
  THE PROOF OF 'Rows.LawS3274BStepsSaid'. The frame follows the guide's shells.
-/
import Derived.Test.YbulkbotySteps
import Derived.Test.YbulkbotyArgs
import Derived.WalkKit
import Derived.ProofKit
namespace Go.Proofs.Ybulkboty.lawS3274BSteps
open Go.ChangeShapes Go.WideShapes Go.ChangeAt Go.RowKit

theorem own : ownKnob Yba.prog.godebug = none := by kernel_rfl

set_option maxRecDepth 100000 in
set_option maxHeartbeats 4000000 in
theorem walk (obj : Bool) (tick bmin bmax span : Int) (hsp : Bool) (cap : Int) (hc : Bool) (comp : Int) (sa ra ta : Option Addr) (ns sc n rc m tc : Nat) (sf mf lf af tf : Nat → Int) (w : World)
    (hsf : ∀ i, 0 ≤ sf i ∧ sf i ≤ 255) (hmf : ∀ i, 0 ≤ mf i ∧ mf i ≤ 255) (hlf : ∀ i, 0 ≤ lf i ∧ lf i ≤ 4294967295) (haf : ∀ i, -2147483648 ≤ af i ∧ af i ≤ 2147483647) (htf : ∀ i, 0 ≤ tf i ∧ tf i ≤ 255)
    (htick : 0 ≤ tick ∧ tick ≤ 65535) (hbmin : -32768 ≤ bmin ∧ bmin ≤ 32767) (hbmax : -32768 ≤ bmax ∧ bmax ≤ 32767) (hspan : 0 ≤ span ∧ span ≤ 255)
    (hcomp : -2147483648 ≤ comp ∧ comp ≤ 2147483647) (hcap : 0 ≤ cap ∧ cap ≤ 4294967295) (hS : ArgU8 w sa ns sf) (hR : ArgRaw w ra n mf lf af) (hT : ArgU8 w ta m tf) :
    Calls Yba.prog 6 #[.bool obj, .int .u16 tick, .int .i16 bmin, .int .i16 bmax, .int .u8 span, .bool hsp, .int .u32 cap, .bool hc, .int .i32 comp, .slice sa ns sc, .slice ra n rc, .slice ta m tc] w fun r w' => r = .returned (.bool true) ∧ Below w.heap.size w w' := by
  by_cases h1 : n ≤ 300
  · by_cases h2 : m ≤ 1024
    · by_cases h3 : ns ≤ 300
      · exact steps_main obj tick bmin bmax span hsp cap hc comp sa ra ta ns sc n rc m tc sf mf lf af tf w h1 h2 h3 hsf hmf hlf haf htf htick hbmin hbmax hspan hcomp hcap hS hR hT
      · clear hsf hmf hlf haf htf htick hbmin hbmax hspan hcomp hcap hS hR hT
        go_enter Yba.func6, Yba.ntmps6
        go_wp2
        go_ret
        exact ⟨rfl, Below.refl _ _⟩
    · clear hsf hmf hlf haf htf htick hbmin hbmax hspan hcomp hcap hS hR hT
      go_enter Yba.func6, Yba.ntmps6
      go_wp2
      go_ret
      exact ⟨rfl, Below.refl _ _⟩
  · clear hsf hmf hlf haf htf htick hbmin hbmax hspan hcomp hcap hS hR hT
    go_enter Yba.func6, Yba.ntmps6
    go_wp2
    go_ret
    exact ⟨rfl, Below.refl _ _⟩

set_option maxRecDepth 100000 in
theorem lifted (os : Os) (started : os.Started) (H : Type) (enc : TypeId × Value → H) :
    ReturnsInHanded {} Yba.checked os 6 .any (Rows.lawS3274BStepsSpec.pre6 enc Yba.prog Yba.f6 Rows.lawS3274BStepsRow.domain false) (Rows.lawS3274BStepsSpec.post enc Yba.prog Yba.f6 false true false false) := by
  refine returnsInHanded_of_change (C := Yba.checked) own started (by kernel_rfl) Yba.func6
    (ChangeSpec.witness6 (enc := enc) (C := Yba.checked) false ⟨#[], #[.bool false, .int .u16 0, .int .i16 0, .int .i16 0, .int .u8 0, .bool false, .int .u32 0, .bool false, .int .i32 0, .slice none 0 0, .slice none 0 0, .slice none 0 0], []⟩ 8 (by kernel_rfl) (by kernel_rfl) (by kernel_rfl) (by kernel_rfl)) ?_
  intro W base args ds gs before hval0 hW hcnd _
  have hval : ∀ (j : Nat) t v, Yba.f6.params[j]? = some t → args[j]? = some v → Value.okWide Yba.prog W .any base t v := hval0
  have hW' := hW
  obtain ⟨p, q, hA0, hV, rfl, hfz, hnd⟩ := hW
  have hA : DataW.TrodAll enc Yba.prog W 0 (fun _ => true) true Yba.f6.params.toList args.toList ds p := hA0
  rw [Yba.params6] at hA hval
  have hAk := hA
  obtain ⟨v0, vs0, d0, ds0, p0, q0, hargs, rfl, rfl, h0, r0⟩ := trodAll_cons hA
  obtain ⟨v1, vs1, d1, ds1, p1, q1, rfl, rfl, rfl, h1, r1⟩ := trodAll_cons r0
  obtain ⟨v2, vs2, d2, ds2, p2, q2, rfl, rfl, rfl, h2, r2⟩ := trodAll_cons r1
  obtain ⟨v3, vs3, d3, ds3, p3, q3, rfl, rfl, rfl, h3, r3⟩ := trodAll_cons r2
  obtain ⟨v4, vs4, d4, ds4, p4, q4, rfl, rfl, rfl, h4, r4⟩ := trodAll_cons r3
  obtain ⟨v5, vs5, d5, ds5, p5, q5, rfl, rfl, rfl, h5, r5⟩ := trodAll_cons r4
  obtain ⟨v6, vs6, d6, ds6, p6, q6, rfl, rfl, rfl, h6, r6⟩ := trodAll_cons r5
  obtain ⟨v7, vs7, d7, ds7, p7, q7, rfl, rfl, rfl, h7, r7⟩ := trodAll_cons r6
  obtain ⟨v8, vs8, d8, ds8, p8, q8, rfl, rfl, rfl, h8, r8⟩ := trodAll_cons r7
  obtain ⟨v9, vs9, d9, ds9, p9, q9, rfl, rfl, rfl, h9, r9⟩ := trodAll_cons r8
  obtain ⟨v10, vs10, d10, ds10, p10, q10, rfl, rfl, rfl, h10, r10⟩ := trodAll_cons r9
  obtain ⟨v11, vs11, d11, ds11, p11, q11, rfl, rfl, rfl, h11, r11⟩ := trodAll_cons r10
  obtain ⟨rfl, rfl, rfl⟩ := trodAll_nil r11
  obtain rfl : args = #[v0, v1, v2, v3, v4, v5, v6, v7, v8, v9, v10, v11] := by cases args; simp_all
  obtain ⟨rfl, rfl⟩ := trodVars_none hV
  obtain ⟨obj, rfl, rfl, rfl⟩ := open_bool Yba.underlying4 (hval 0 4 v0 rfl rfl) h0
  obtain ⟨tick, rfl, rfl, rfl, g1⟩ := open_int Yba.underlying30 (hval 1 30 v1 rfl rfl) h1
  obtain ⟨bmin, rfl, rfl, rfl, g2⟩ := open_int Yba.underlying31 (hval 2 31 v2 rfl rfl) h2
  obtain ⟨bmax, rfl, rfl, rfl, g3⟩ := open_int Yba.underlying31 (hval 3 31 v3 rfl rfl) h3
  obtain ⟨span, rfl, rfl, rfl, g4⟩ := open_int Yba.underlying5 (hval 4 5 v4 rfl rfl) h4
  obtain ⟨hsp, rfl, rfl, rfl⟩ := open_bool Yba.underlying4 (hval 5 4 v5 rfl rfl) h5
  obtain ⟨cap, rfl, rfl, rfl, g6⟩ := open_int Yba.underlying32 (hval 6 32 v6 rfl rfl) h6
  obtain ⟨hc, rfl, rfl, rfl⟩ := open_bool Yba.underlying4 (hval 7 4 v7 rfl rfl) h7
  obtain ⟨comp, rfl, rfl, rfl, g8⟩ := open_int Yba.underlying21 (hval 8 21 v8 rfl rfl) h8
  obtain ⟨sa, ns, sc, sf, rfl, hsf, hS, _⟩ := open_u8 (hval 9 33 v9 rfl rfl) h9
  obtain ⟨ra, n, rc, mf, lf, af, rfl, hmf, hlf, haf, hR⟩ := open_raw (hval 10 34 v10 rfl rfl) h10
  obtain ⟨ta, m, tc, tf, rfl, htf, hT, _⟩ := open_u8 (hval 11 33 v11 rfl rfl) h11
  clear hA0 hval0
  simp only [List.append_nil] at hW'
  have hlt : ∀ x ∈ [] ++ ([] ++ ([] ++ ([] ++ ([] ++ ([] ++ ([] ++ ([] ++ ([] ++ (p9 ++ (p10 ++ (p11 ++ []))))))))))), x.block < W.heap.size := fun x hx => by simpa using hW'.lt x (by simpa using hx)
  refine (walk obj tick bmin bmax span hsp cap hc comp sa ra ta ns sc n rc m tc sf mf lf af tf W hsf hmf hlf haf htf (bounds_u16 g1) (bounds_i16 g2) (bounds_i16 g3) (bounds_u8 g4) (bounds_i32 g8) (bounds_u32 g6) hS hR hT).mono fun e W' ⟨he, hb⟩ => ?_
  subst he
  refine ⟨_, rfl, _, _, _, [], [] ++ ([] ++ ([] ++ ([] ++ ([] ++ ([] ++ ([] ++ ([] ++ ([] ++ (p9 ++ (p10 ++ (p11 ++ []))))))))))), [], hW', trodAll_cons_mk (shut_bool Yba.underlying4 _) trodAll_mk0, ?_, rfl, hb.frame _, fun h => by cases h⟩
  exact Below.trodAll hb (by rw [Yba.params6]; decide) hAk hlt (fun x hx => by simpa using hlt x hx)

theorem over : Rows.lawS3274BStepsRow.holds Yba.pinned (OpenSpec.ofChange Rows.lawS3274BStepsSpec) :=
  OpenClaim.holds_of_wide 6 Yba.f6 rfl rfl rfl rfl rfl rfl rfl ⟨rfl, rfl, rfl, rfl, rfl⟩ rfl rfl rfl rfl rfl (by kernel_rfl) Yba.func6 (by kernel_rfl)
    (of_decide_eq_true (by kernel_rfl)) (by unfold Func.isWrapper; first | (rw [if_pos (by decide +kernel)]; kernel_rfl) | (rw [if_neg (by decide +kernel)]; exact ⟨rfl, rfl⟩))
    (fun os started H enc _ => lifted os started H enc)

theorem proved : Rows.LawS3274BStepsSaid :=
  over
end Go.Proofs.Ybulkboty.lawS3274BSteps
