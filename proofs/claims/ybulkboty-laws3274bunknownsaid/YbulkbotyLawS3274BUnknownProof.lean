/-
  THE PROOF OF 'Rows.LawS3274BUnknownSaid'. The frame follows the guide's shells.
-/
import Derived.Test.YbulkbotyUnknown
import Derived.Test.YbulkbotyArgs
import Derived.WalkKit
import Derived.ProofKit
namespace Go.Proofs.Ybulkboty.lawS3274BUnknown
open Go.ChangeShapes Go.WideShapes Go.ChangeAt Go.RowKit

theorem own : ownKnob Yba.prog.godebug = none := by kernel_rfl

set_option maxRecDepth 100000 in
set_option maxHeartbeats 4000000 in
theorem walk (sa ra ta : Option Addr) (ns sc n rc m tc : Nat) (sf mf lf af tf : Nat → Int) (comp cap : Int) (hc : Bool) (w : World)
    (hsf : ∀ i, 0 ≤ sf i ∧ sf i ≤ 255) (hmf : ∀ i, 0 ≤ mf i ∧ mf i ≤ 255) (hlf : ∀ i, 0 ≤ lf i ∧ lf i ≤ 4294967295) (haf : ∀ i, -2147483648 ≤ af i ∧ af i ≤ 2147483647) (htf : ∀ i, 0 ≤ tf i ∧ tf i ≤ 255)
    (hcomp : -2147483648 ≤ comp ∧ comp ≤ 2147483647) (hcap : 0 ≤ cap ∧ cap ≤ 4294967295) (hS : ArgU8 w sa ns sf) (hR : ArgRaw w ra n mf lf af) (hT : ArgU8 w ta m tf) :
    Calls Yba.prog 7 #[.slice sa ns sc, .slice ra n rc, .slice ta m tc, .int .i32 comp, .int .u32 cap, .bool hc] w fun r w' => r = .returned (.bool true) ∧ Below w.heap.size w w' := by
  by_cases h1 : n ≤ 300
  · by_cases h2 : m ≤ 1024
    · by_cases h3 : ns ≤ 300
      · exact unknown_main sa ra ta ns sc n rc m tc sf mf lf af tf comp cap hc w h1 h2 h3 hsf hmf hlf haf htf hcomp hcap hS hR hT
      · clear hsf hmf hlf haf htf hcomp hcap hS hR hT
        go_enter Yba.func7, Yba.ntmps7
        go_wp2
        go_ret
        exact ⟨rfl, Below.refl _ _⟩
    · clear hsf hmf hlf haf htf hcomp hcap hS hR hT
      go_enter Yba.func7, Yba.ntmps7
      go_wp2
      go_ret
      exact ⟨rfl, Below.refl _ _⟩
  · clear hsf hmf hlf haf htf hcomp hcap hS hR hT
    go_enter Yba.func7, Yba.ntmps7
    go_wp2
    go_ret
    exact ⟨rfl, Below.refl _ _⟩

set_option maxRecDepth 100000 in
theorem lifted (os : Os) (started : os.Started) (H : Type) (enc : TypeId × Value → H) :
    ReturnsInHanded {} Yba.checked os 7 .any (Rows.lawS3274BUnknownSpec.pre6 enc Yba.prog Yba.f7 Rows.lawS3274BUnknownRow.domain false) (Rows.lawS3274BUnknownSpec.post enc Yba.prog Yba.f7 false true false false) := by
  refine returnsInHanded_of_change (C := Yba.checked) own started (by kernel_rfl) Yba.func7
    (ChangeSpec.witness6 (enc := enc) (C := Yba.checked) false ⟨#[], #[.slice none 0 0, .slice none 0 0, .slice none 0 0, .int .i32 0, .int .u32 0, .bool false], []⟩ 8 (by kernel_rfl) (by kernel_rfl) (by kernel_rfl) (by kernel_rfl)) ?_
  intro W base args ds gs before hval0 hW hcnd _
  have hval : ∀ (j : Nat) t v, Yba.f7.params[j]? = some t → args[j]? = some v → Value.okWide Yba.prog W .any base t v := hval0
  have hW' := hW
  obtain ⟨p, q, hA0, hV, rfl, hfz, hnd⟩ := hW
  have hA : DataW.TrodAll enc Yba.prog W 0 (fun _ => true) true Yba.f7.params.toList args.toList ds p := hA0
  rw [Yba.params7] at hA hval
  have hAk := hA
  obtain ⟨v0, vs0, d0, ds0, p0, q0, hargs, rfl, rfl, h0, r0⟩ := trodAll_cons hA
  obtain ⟨v1, vs1, d1, ds1, p1, q1, rfl, rfl, rfl, h1, r1⟩ := trodAll_cons r0
  obtain ⟨v2, vs2, d2, ds2, p2, q2, rfl, rfl, rfl, h2, r2⟩ := trodAll_cons r1
  obtain ⟨v3, vs3, d3, ds3, p3, q3, rfl, rfl, rfl, h3, r3⟩ := trodAll_cons r2
  obtain ⟨v4, vs4, d4, ds4, p4, q4, rfl, rfl, rfl, h4, r4⟩ := trodAll_cons r3
  obtain ⟨v5, vs5, d5, ds5, p5, q5, rfl, rfl, rfl, h5, r5⟩ := trodAll_cons r4
  obtain ⟨rfl, rfl, rfl⟩ := trodAll_nil r5
  obtain rfl : args = #[v0, v1, v2, v3, v4, v5] := by cases args; simp_all
  obtain ⟨rfl, rfl⟩ := trodVars_none hV
  obtain ⟨sa, ns, sc, sf, rfl, hsf, hS, _⟩ := open_u8 (hval 0 33 v0 rfl rfl) h0
  obtain ⟨ra, n, rc, mf, lf, af, rfl, hmf, hlf, haf, hR⟩ := open_raw (hval 1 34 v1 rfl rfl) h1
  obtain ⟨ta, m, tc, tf, rfl, htf, hT, _⟩ := open_u8 (hval 2 33 v2 rfl rfl) h2
  obtain ⟨comp, rfl, rfl, rfl, w3⟩ := open_int Yba.underlying21 (hval 3 21 v3 rfl rfl) h3
  obtain ⟨cap, rfl, rfl, rfl, w4⟩ := open_int Yba.underlying32 (hval 4 32 v4 rfl rfl) h4
  obtain ⟨hc, rfl, rfl, rfl⟩ := open_bool Yba.underlying4 (hval 5 4 v5 rfl rfl) h5
  clear hA0 hval0
  simp only [List.append_nil] at hW'
  have hlt : ∀ x ∈ p0 ++ (p1 ++ (p2 ++ ([] ++ ([] ++ ([] ++ []))))), x.block < W.heap.size := fun x hx => by simpa using hW'.lt x (by simpa using hx)
  refine (walk sa ra ta ns sc n rc m tc sf mf lf af tf comp cap hc W hsf hmf hlf haf htf (bounds_i32 w3) (bounds_u32 w4) hS hR hT).mono fun e W' ⟨he, hb⟩ => ?_
  subst he
  refine ⟨_, rfl, _, _, _, [], p0 ++ (p1 ++ (p2 ++ ([] ++ ([] ++ ([] ++ []))))), [], hW', trodAll_cons_mk (shut_bool Yba.underlying4 _) trodAll_mk0, ?_, rfl, hb.frame _, fun h => by cases h⟩
  exact Below.trodAll hb (by rw [Yba.params7]; decide) hAk hlt (fun x hx => by simpa using hlt x hx)

theorem over : Rows.lawS3274BUnknownRow.holds Yba.pinned (OpenSpec.ofChange Rows.lawS3274BUnknownSpec) :=
  OpenClaim.holds_of_wide 7 Yba.f7 rfl rfl rfl rfl rfl rfl rfl ⟨rfl, rfl, rfl, rfl, rfl⟩ rfl rfl rfl rfl rfl (by kernel_rfl) Yba.func7 (by kernel_rfl)
    (of_decide_eq_true (by kernel_rfl)) (by unfold Func.isWrapper; first | (rw [if_pos (by decide +kernel)]; kernel_rfl) | (rw [if_neg (by decide +kernel)]; exact ⟨rfl, rfl⟩))
    (fun os started H enc _ => lifted os started H enc)

theorem proved : Rows.LawS3274BUnknownSaid :=
  over
end Go.Proofs.Ybulkboty.lawS3274BUnknown
