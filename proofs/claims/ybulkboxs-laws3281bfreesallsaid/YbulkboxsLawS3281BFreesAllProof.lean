/-
  THE PROOF OF 'Rows.LawS3281BFreesAllSaid'. The frame follows the guide's shells.
-/
import Derived.Test.YbulkboxsLaw
import Derived.OpenShut
import Derived.ChangeArms
namespace Go.Proofs.Ybulkboxs.lawS3281BFreesAll
open Go.ChangeShapes Go.WideShapes Go.ChangeAt Go.RowKit

theorem own : ownKnob Yba.prog.godebug = none := by kernel_rfl
theorem laidOut : laidOutB Yba.prog = true := by kernel_rfl
theorem cells22 : Yba.prog.cellsOf 22 = 1 := by kernel_rfl
theorem cells23 : Yba.prog.cellsOf 23 = 1 := by kernel_rfl
theorem cells3 : Yba.prog.cellsOf 3 = 1 := by kernel_rfl
theorem cells24 : Yba.prog.cellsOf 24 = 1 := by kernel_rfl
theorem cells5 : Yba.prog.cellsOf 5 = 1 := by kernel_rfl
theorem cells26 : Yba.prog.cellsOf 26 = 5 := by kernel_rfl

section
variable {H : Type} {enc : TypeId × Value → H}

set_option maxRecDepth 100000 in
theorem open_in {W : World} {sp : Nat → Bool} {r : Reach} {b0 : Nat} {v : Value} {d : DataW H} {ps : List MemPlace} (hval : Value.okWide Yba.prog W r b0 26 v) (h : DataW.Trod enc Yba.prog W 0 sp true 26 v d ps) :
    ∃ (nn head off seq ret : Int), v = .agg #[.int .u16 nn, .int .u32 head, .int .i64 off, .int .u64 seq, .int .u8 ret] ∧ (0 ≤ nn ∧ nn ≤ 65535) ∧ (0 ≤ head ∧ head ≤ 4294967295) ∧ (-9223372036854775808 ≤ off ∧ off ≤ 9223372036854775807) ∧ (0 ≤ seq ∧ seq ≤ 18446744073709551615) ∧ (0 ≤ ret ∧ ret ≤ 255) := by
  obtain ⟨cs, rfl, hsz⟩ := okWide_struct Yba.underlying26 hval
  obtain ⟨fuel, hf⟩ := h
  obtain ⟨xs, n, _, hx, hl, hlen, hfs⟩ := DataW.trod_struct Yba.underlying26 hf
  rw [cells26] at hsz
  match cs, hsz with
  | ⟨[v0, v1, v2, v3, v4]⟩, _ =>
    match xs, hlen with
    | [y0, y1, y2, y3, y4], _ =>
      have u0 := hfs 0 _ rfl
      have u1 := hfs 1 _ rfl
      have u2 := hfs 2 _ rfl
      have u3 := hfs 3 _ rfl
      have u4 := hfs 4 _ rfl
      simp only [List.getElem_toArray, List.getElem_cons_zero, List.getElem_cons_succ, Value.cells, cells22, cells23, cells3, cells24, cells5, List.drop, List.take] at u0 u1 u2 u3 u4
      obtain ⟨a0, e0, _, g0⟩ := DataW.trod_int Yba.underlying22 u0
      obtain ⟨a1, e1, _, g1⟩ := DataW.trod_int Yba.underlying23 u1
      obtain ⟨a2, e2, _, g2⟩ := DataW.trod_int Yba.underlying3 u2
      obtain ⟨a3, e3, _, g3⟩ := DataW.trod_int Yba.underlying24 u3
      obtain ⟨a4, e4, _, g4⟩ := DataW.trod_int Yba.underlying5 u4
      simp only [List.cons.injEq, and_true] at e0 e1 e2 e3 e4
      subst e0; subst e1; subst e2; subst e3; subst e4
      exact ⟨a0, a1, a2, a3, a4, rfl, bounds_u16 g0, bounds_u32 g1, bounds_i64 g2, bounds_u64 g3, bounds_u8 g4⟩

/-- All arguments are handed back: below the heap's old size nothing has turned. -/
theorem trodAll_below {W W' : World} (hb : Below W.heap.size W W') {sp : Nat → Bool} : ∀ {ts : List TypeId} {vs : List Value} {ds : List (DataW H)} {ps : List MemPlace}, (∀ t ∈ ts, Yba.prog.readableRec t = true ∧ t < Yba.prog.types.size) →
    DataW.TrodAll enc Yba.prog W 0 (fun _ => true) true ts vs ds ps → (∀ x ∈ ps, x.block < W.heap.size) → (∀ x ∈ ps, sp x.block = true) → DataW.TrodAll enc Yba.prog W' 0 sp true ts vs ds ps
  | [], [], [], _, _, h, _, _ => h
  | t :: ts, v :: vs, d :: ds, _, hT, ⟨p, q, h1, h2, e⟩, hlt, hsp => by
    subst e
    obtain ⟨a1, a2⟩ := hT t List.mem_cons_self
    exact ⟨p, q, WideElems.Trod_stays laidOut a1 a2 h1 (fun x hx => hb.same (hlt x (List.mem_append_left _ hx))) (fun x hx => hsp x (List.mem_append_left _ hx)),
      trodAll_below hb (fun t ht => hT t (List.mem_cons_of_mem _ ht)) h2 (fun x hx => hlt x (List.mem_append_right _ hx)) (fun x hx => hsp x (List.mem_append_right _ hx)), rfl⟩
  | [], [], _ :: _, _, _, h, _, _ => by simp [DataW.TrodAll] at h
  | [], _ :: _, _, _, _, h, _, _ => by simp [DataW.TrodAll] at h
  | _ :: _, [], _, _, _, h, _, _ => by simp [DataW.TrodAll] at h
  | _ :: _, _ :: _, [], _, _, h, _, _ => by simp [DataW.TrodAll] at h

end

set_option maxRecDepth 100000 in
theorem walk (nn head off seq ret : Int) (w : World) (h0 : 0 ≤ nn ∧ nn ≤ 65535) (h1 : 0 ≤ head ∧ head ≤ 4294967295) (h2 : -9223372036854775808 ≤ off ∧ off ≤ 9223372036854775807) (h3 : 0 ≤ seq ∧ seq ≤ 18446744073709551615) (h4 : 0 ≤ ret ∧ ret ≤ 255) :
    Calls Yba.prog 3 #[.agg #[.int .u16 nn, .int .u32 head, .int .i64 off, .int .u64 seq, .int .u8 ret]] w fun r w' => r = .returned (.bool true) ∧ Below w.heap.size w w' := by
  obtain ⟨n, rfl⟩ : ∃ n : Nat, nn = (n : Int) := ⟨nn.toNat, by omega⟩
  by_cases hn : n ≤ 3000
  · exact law_main n head off seq ret w hn h1.1 h1.2 h2.1 h2.2 h3.1 h3.2 h4.1 h4.2
  · have hn' : (3000 : Int) < (n : Int) := by omega
    obtain ⟨g0, g1⟩ := h0
    clear h1 h2 h3 h4 hn
    go_enter Yba.func3, Yba.ntmps3
    go_wp2
    go_ret
    exact ⟨rfl, (Below.refl _ w).alloc (Nat.le_refl _) _⟩

set_option maxRecDepth 100000 in
theorem lifted (os : Os) (started : os.Started) (H : Type) (enc : TypeId × Value → H) :
    ReturnsInHanded {} Yba.checked os 3 .any (Rows.lawS3281BFreesAllSpec.pre6 enc Yba.prog Yba.f3 Rows.lawS3281BFreesAllRow.domain false) (Rows.lawS3281BFreesAllSpec.post enc Yba.prog Yba.f3 false true false false) := by
  refine returnsInHanded_of_change (C := Yba.checked) own started (by kernel_rfl) Yba.func3
    (ChangeSpec.witness6 (enc := enc) (C := Yba.checked) false ⟨#[], #[.agg #[.int .u16 0, .int .u32 0, .int .i64 0, .int .u64 0, .int .u8 0]], []⟩ 8 (by kernel_rfl) (by kernel_rfl) (by kernel_rfl) (by kernel_rfl)) ?_
  intro W base args ds gs before hval0 hW hcnd _
  have hval : ∀ (j : Nat) t v, Yba.f3.params[j]? = some t → args[j]? = some v → Value.okWide Yba.prog W .any base t v := hval0
  have hW' := hW
  obtain ⟨p, q, hA0, hV, rfl, hfz, hnd⟩ := hW
  have hA : DataW.TrodAll enc Yba.prog W 0 (fun _ => true) true Yba.f3.params.toList args.toList ds p := hA0
  rw [Yba.params3] at hA hval
  have hAk := hA
  obtain ⟨v0, vs0, d0, ds0, p0, q0, hargs, rfl, rfl, h0, r0⟩ := trodAll_cons hA
  obtain ⟨rfl, rfl, rfl⟩ := trodAll_nil r0
  obtain rfl : args = #[v0] := by cases args; simp_all
  obtain ⟨rfl, rfl⟩ := trodVars_none hV
  obtain ⟨nn, head, off, seq, ret, rfl, b0, b1, b2, b3, b4⟩ := open_in (hval 0 26 v0 rfl rfl) h0
  clear hA0 hval0
  simp only [List.append_nil] at hW'
  have hlt : ∀ x ∈ p0 ++ [], x.block < W.heap.size := fun x hx => by simpa using hW'.lt x (by simpa using hx)
  refine (walk nn head off seq ret W b0 b1 b2 b3 b4).mono fun e W' ⟨he, hb⟩ => ?_
  subst he
  refine ⟨_, rfl, _, _, _, [], p0 ++ [], [], hW', trodAll_cons_mk (shut_bool Yba.underlying4 _) trodAll_mk0, ?_, rfl, hb.frame _, fun h => by cases h⟩
  exact trodAll_below hb (by rw [Yba.params3]; decide) hAk hlt (fun x hx => by simpa using hlt x hx)

theorem over : Rows.lawS3281BFreesAllRow.holds Yba.pinned (OpenSpec.ofChange Rows.lawS3281BFreesAllSpec) :=
  OpenClaim.holds_of_wide 3 Yba.f3 rfl rfl rfl rfl rfl rfl rfl ⟨rfl, rfl, rfl, rfl, rfl⟩ rfl rfl rfl rfl rfl (by kernel_rfl) Yba.func3 (by kernel_rfl)
    (of_decide_eq_true (by kernel_rfl)) (by unfold Func.isWrapper; first | (rw [if_pos (by decide +kernel)]; kernel_rfl) | (rw [if_neg (by decide +kernel)]; exact ⟨rfl, rfl⟩))
    (fun os started H enc _ => lifted os started H enc)

theorem proved : Rows.LawS3281BFreesAllSaid :=
  over
end Go.Proofs.Ybulkboxs.lawS3281BFreesAll
