/-
  THE PROOF OF 'Rows.LawS3277BOrderSaid'. The frame follows the guide's shells.
-/
import Derived.Test.YbulkbovoOrder
import Derived.OpenShut
import Derived.SliceStrings
namespace Go.Proofs.Ybulkbovo.lawS3277BOrder
open Go.ChangeShapes Go.WideShapes Go.ChangeAt Go.RowKit

theorem own : ownKnob Yba.prog.godebug = none := by kernel_rfl
theorem laidOut : laidOutB Yba.prog = true := by kernel_rfl
theorem cells9 : Yba.prog.cellsOf 9 = 1 := by kernel_rfl

section
variable {H : Type} {enc : TypeId × Value → H}

set_option maxRecDepth 100000 in
theorem open_str {W : World} {sp : Nat → Bool} {r : Reach} {b0 : Nat} {v : Value} {d : DataW H} {ps : List MemPlace} (hval : Value.okWide Yba.prog W r b0 22 v) (h : DataW.Trod enc Yba.prog W 0 sp true 22 v d ps) :
    ∃ (a : Option Addr) (n c : Nat) (f : Nat → ByteArray), v = .slice a n c ∧ ArgStr W a n f ∧ (a = none → n = 0 ∧ c = 0) := by
  obtain ⟨a, n, c, rfl⟩ := okWide_slice Yba.underlying22 hval
  obtain ⟨fuel, hf⟩ := h
  rcases open_strings Yba.underlying22 Yba.underlying9 cells9 hf with ⟨hcs, _⟩ | ⟨a', n', c', ss, hcs, _, hl, _, hz, _, hcell, _⟩
  · simp [Value.cells] at hcs
    obtain ⟨rfl, rfl, rfl⟩ := hcs
    exact ⟨none, 0, 0, fun _ => ByteArray.empty, rfl, fun h => absurd h (by omega), fun _ => ⟨rfl, rfl⟩⟩
  · simp [Value.cells] at hcs
    obtain ⟨rfl, rfl, rfl⟩ := hcs
    have hlen : n ≤ ss.length := by rw [hz]; split <;> omega
    refine ⟨_, n, c, fun i => ss.getD i ByteArray.empty, rfl, fun hn => ?_, fun h => by cases h⟩
    obtain ⟨b, off, spot⟩ := a'
    have hspot : spot = none := by simpa [Addr.add] using World.cell?_spot (hcell 0 (by omega))
    subst hspot
    have hc : ∀ j, j < n → W.cell? ⟨b, off + j, none⟩ = some (.string (ss.getD j ByteArray.empty)) := fun j hj => by rw [← Addr.add_mid]; exact hcell j (by omega)
    exact ⟨b, off, rfl, World.block_lt_of_cell? W _ (hc 0 hn), hc⟩

/-- All arguments are handed back: below the heap's old size nothing has turned. -/
theorem trodAll_below {W W' : World} (hb : Below W.heap.size W W') {sp : Nat → Bool} : ∀ {ts : List TypeId} {vs : List Value} {ds : List (DataW H)} {ps : List MemPlace}, (∀ t ∈ ts, Yba.prog.readableRec t = true ∧ t < Yba.prog.types.size) →
    DataW.TrodAll enc Yba.prog W 0 (fun _ => true) true ts vs ds ps → (∀ x ∈ ps, x.block < W.heap.size) → (∀ x ∈ ps, sp x.block = true) → DataW.TrodAll enc Yba.prog W' 0 sp true ts vs ds ps
  | [], [], [], _, _, h, _, _ => h
  | t :: ts, v :: vs, d :: ds, _, hT, ⟨p, q, h1, h2, e⟩, hlt, hsp => by
    subst e
    obtain ⟨a1, a2⟩ := hT t List.mem_cons_self
    exact ⟨p, q, WideElems.Trod_stays laidOut a1 a2 h1 (fun x hx => hb.same (hlt x (List.mem_append_left _ hx))) (fun x hx => hsp x (List.mem_append_left _ hx)),
      trodAll_below hb (fun t ht => hT t (List.mem_cons_of_mem _ ht)) h2 (fun x hx => hlt x (List.mem_append_right _ hx)) (fun x hx => hsp x (List.mem_append_right _ hx)), rfl⟩
  | [], [], _ :: _, _, _, h, _, _ => by simp [DataW.TrodAll] at h
  | [], _ :: _, _, _, _, h, _, _ => by simp [DataW.TrodAll] at h
  | _ :: _, [], _, _, _, h, _, _ => by simp [DataW.TrodAll] at h
  | _ :: _, _ :: _, [], _, _, h, _, _ => by simp [DataW.TrodAll] at h

end

theorem walk (a1 : Option Addr) (n1 c1 : Nat) (f1 : Nat → ByteArray) (a2 : Option Addr) (n2 c2 : Nat) (f2 : Nat → ByteArray) (w : World)
    (hA1 : ArgStr w a1 n1 f1) (hA2 : ArgStr w a2 n2 f2) (z1 : a1 = none → n1 = 0 ∧ c1 = 0) (z2 : a2 = none → n2 = 0 ∧ c2 = 0) :
    Calls Yba.prog 3 #[.slice a1 n1 c1, .slice a2 n2 c2] w fun r w' => r = .returned (.bool true) ∧ Below w.heap.size w w' := by
  by_cases h1 : n1 ≤ 1024
  · by_cases h2 : n2 ≤ 1024
    · exact order_main a1 n1 c1 f1 a2 n2 c2 f2 w h1 h2 hA1 hA2 z1 z2
    · clear hA1 hA2 z1 z2
      go_enter Yba.func3, Yba.ntmps3
      go_wp2
      go_ret
      exact ⟨rfl, Below.refl _ _⟩
  · clear hA1 hA2 z1 z2
    go_enter Yba.func3, Yba.ntmps3
    go_wp2
    go_ret
    exact ⟨rfl, Below.refl _ _⟩

set_option maxRecDepth 100000 in
theorem lifted (os : Os) (started : os.Started) (H : Type) (enc : TypeId × Value → H) :
    ReturnsInHanded {} Yba.checked os 3 .any (Rows.lawS3277BOrderSpec.pre6 enc Yba.prog Yba.f3 Rows.lawS3277BOrderRow.domain false) (Rows.lawS3277BOrderSpec.post enc Yba.prog Yba.f3 false true false false) := by
  refine returnsInHanded_of_change (C := Yba.checked) own started (by kernel_rfl) Yba.func3
    (ChangeSpec.witness6 (enc := enc) (C := Yba.checked) false ⟨#[], #[.slice none 0 0, .slice none 0 0], []⟩ 8 (by kernel_rfl) (by kernel_rfl) (by kernel_rfl) (by kernel_rfl)) ?_
  intro W base args ds gs before hval0 hW hcnd _
  have hval : ∀ (j : Nat) t v, Yba.f3.params[j]? = some t → args[j]? = some v → Value.okWide Yba.prog W .any base t v := hval0
  have hW' := hW
  obtain ⟨p, q, hA0, hV, rfl, hfz, hnd⟩ := hW
  have hA : DataW.TrodAll enc Yba.prog W 0 (fun _ => true) true Yba.f3.params.toList args.toList ds p := hA0
  rw [Yba.params3] at hA hval
  have hAk := hA
  obtain ⟨v0, vs0, d0, ds0, p0, q0, hargs, rfl, rfl, h0, r0⟩ := trodAll_cons hA
  obtain ⟨v1, vs1, d1, ds1, p1, q1, rfl, rfl, rfl, h1, r1⟩ := trodAll_cons r0
  obtain ⟨rfl, rfl, rfl⟩ := trodAll_nil r1
  obtain rfl : args = #[v0, v1] := by cases args; simp_all
  obtain ⟨rfl, rfl⟩ := trodVars_none hV
  obtain ⟨a1, n1, c1, f1, rfl, hA1, z1⟩ := open_str (hval 0 22 v0 rfl rfl) h0
  obtain ⟨a2, n2, c2, f2, rfl, hA2, z2⟩ := open_str (hval 1 22 v1 rfl rfl) h1
  clear hA0 hval0
  simp only [List.append_nil] at hW'
  have hlt : ∀ x ∈ p0 ++ (p1 ++ []), x.block < W.heap.size := fun x hx => by simpa using hW'.lt x (by simpa using hx)
  refine (walk a1 n1 c1 f1 a2 n2 c2 f2 W hA1 hA2 z1 z2).mono fun e W' ⟨he, hb⟩ => ?_
  subst he
  refine ⟨_, rfl, _, _, _, [], p0 ++ (p1 ++ []), [], hW', trodAll_cons_mk (shut_bool Yba.underlying4 _) trodAll_mk0, ?_, rfl, hb.frame _, fun h => by cases h⟩
  exact trodAll_below hb (by rw [Yba.params3]; decide) hAk hlt (fun x hx => by simpa using hlt x hx)

theorem over : Rows.lawS3277BOrderRow.holds Yba.pinned (OpenSpec.ofChange Rows.lawS3277BOrderSpec) :=
  OpenClaim.holds_of_wide 3 Yba.f3 rfl rfl rfl rfl rfl rfl rfl ⟨rfl, rfl, rfl, rfl, rfl⟩ rfl rfl rfl rfl rfl (by kernel_rfl) Yba.func3 (by kernel_rfl)
    (of_decide_eq_true (by kernel_rfl)) (by unfold Func.isWrapper; first | (rw [if_pos (by decide +kernel)]; kernel_rfl) | (rw [if_neg (by decide +kernel)]; exact ⟨rfl, rfl⟩))
    (fun os started H enc _ => lifted os started H enc)

theorem proved : Rows.LawS3277BOrderSaid :=
  over
end Go.Proofs.Ybulkbovo.lawS3277BOrder
