/-
  The arguments of the two B-laws, opened. Of this seat's own.
-/
import Derived.Test.YbulkbotyPrep
import Derived.Test.YbulkbotyRows
import Derived.OpenShut
import Derived.Carry
import Derived.Deep.Slices
import Derived.Deep.Strs
namespace Go.Proofs.Ybulkboty
open Go.ChangeShapes Go.WideShapes Go.ChangeAt Go.RowKit Go.Deep

theorem Yba.laidOut : laidOutB Yba.prog = true := by kernel_rfl
theorem Yba.cells5 : Yba.prog.cellsOf 5 = 1 := by kernel_rfl
theorem Yba.cells75 : Yba.prog.cellsOf 75 = 3 := by kernel_rfl
theorem Yba.cells32 : Yba.prog.cellsOf 32 = 1 := by kernel_rfl
theorem Yba.cells21 : Yba.prog.cellsOf 21 = 1 := by kernel_rfl

section
variable {H : Type} {enc : TypeId × Value → H}

set_option maxRecDepth 100000 in
theorem open_u8 {W : World} {sp : Nat → Bool} {r : Reach} {b0 : Nat} {v : Value} {d : DataW H} {ps : List MemPlace} (hval : Value.okWide Yba.prog W r b0 33 v) (h : DataW.Trod enc Yba.prog W 0 sp true 33 v d ps) :
    ∃ (a : Option Addr) (n c : Nat) (f : Nat → Int), v = .slice a n c ∧ (∀ i, 0 ≤ f i ∧ f i ≤ 255) ∧ ArgU8 W a n f ∧ (a = none → n = 0 ∧ c = 0) := by
  obtain ⟨a, n, c, rfl⟩ := okWide_slice Yba.underlying33 hval
  obtain ⟨fuel, hf⟩ := h
  rcases open_ints Yba.underlying33 Yba.underlying5 Yba.cells5 hf with ⟨hcs, _⟩ | ⟨a', n', c', zs, hcs, _, hl, _, hz, _, hcell, hwz⟩
  · simp [Value.cells] at hcs
    obtain ⟨rfl, rfl, rfl⟩ := hcs
    exact ⟨none, 0, 0, fun _ => 0, rfl, fun _ => by simp, fun h => absurd h (by omega), fun _ => ⟨rfl, rfl⟩⟩
  · simp [Value.cells] at hcs
    obtain ⟨rfl, rfl, rfl⟩ := hcs
    have hlen : n ≤ zs.length := by rw [hz]; split <;> omega
    refine ⟨_, n, c, fun i => zs.getD i 0, rfl, fun i => ?_, fun hn => ?_, fun h => by cases h⟩
    · by_cases hi : i < zs.length
      · have : zs.getD i 0 ∈ zs := by simp [List.getD, hi]
        exact bounds_u8 (hwz _ this)
      · simp [List.getD, hi]
    · obtain ⟨b, off, spot⟩ := a'
      have hspot : spot = none := by simpa [Addr.add] using World.cell?_spot (hcell 0 (by omega))
      subst hspot
      have hc : ∀ j, j < n → W.cell? ⟨b, off + j, none⟩ = some (.int .u8 (zs.getD j 0)) := fun j hj => by rw [← Addr.add_mid]; exact hcell j (by omega)
      exact ⟨b, off, rfl, World.block_lt_of_cell? W _ (hc 0 hn), hc⟩

set_option maxRecDepth 100000 in
theorem open_raw {W : World} {sp : Nat → Bool} {r : Reach} {b0 : Nat} {v : Value} {d : DataW H} {ps : List MemPlace} (hval : Value.okWide Yba.prog W r b0 34 v) (h : DataW.Trod enc Yba.prog W 0 sp true 34 v d ps) :
    ∃ (a : Option Addr) (n c : Nat) (mf lf af : Nat → Int), v = .slice a n c ∧ (∀ i, 0 ≤ mf i ∧ mf i ≤ 255) ∧ (∀ i, 0 ≤ lf i ∧ lf i ≤ 4294967295) ∧ (∀ i, -2147483648 ≤ af i ∧ af i ≤ 2147483647) ∧ ArgRaw W a n mf lf af := by
  obtain ⟨a, n, c, rfl⟩ := okWide_slice Yba.underlying34 hval
  obtain ⟨fuel, hf⟩ := h
  rcases open_slice Yba.underlying34 hf with ⟨hcs, _⟩ | ⟨a', n', c', m, k, D, Pl, hcs, _, hl, _, hmm, _, hx⟩
  · simp [Value.cells] at hcs
    obtain ⟨rfl, rfl, rfl⟩ := hcs
    exact ⟨none, 0, 0, fun _ => 0, fun _ => 0, fun _ => 0, rfl, fun _ => by simp, fun _ => by simp, fun _ => by simp, fun h => absurd h (by omega)⟩
  · simp [Value.cells] at hcs
    obtain ⟨rfl, rfl, rfl⟩ := hcs
    have hlm : n ≤ m := by rw [hmm]; split <;> omega
    have each : ∀ i, i < n → ∃ q : Int × Int × Int, W.cell? (a'.add (i * 3)) = some (.int .u8 q.1) ∧ W.cell? (a'.add (i * 3 + 1)) = some (.int .u32 q.2.1) ∧ W.cell? (a'.add (i * 3 + 2)) = some (.int .i32 q.2.2) ∧
        (0 ≤ q.1 ∧ q.1 ≤ 255) ∧ (0 ≤ q.2.1 ∧ q.2.1 ≤ 4294967295) ∧ (-2147483648 ≤ q.2.2 ∧ q.2.2 ≤ 2147483647) := by
      intro i hi
      obtain ⟨cs', h1, h2⟩ := hx i (by omega)
      rw [Yba.cells75] at h1
      obtain ⟨_, hlen, hcell⟩ := World.cells?_some h1
      obtain ⟨y0, y1, y2, k, hxy, _, u0, u1, u2⟩ := trod_struct3 Yba.underlying75 h2
      match cs', hlen with
      | [v0, v1, v2], _ =>
        simp only [Yba.cells5, Yba.cells32, Yba.cells21, List.drop, List.take] at u0 u1 u2
        obtain ⟨x, e0, _, w0⟩ := DataW.trod_int Yba.underlying5 u0
        obtain ⟨y, e1, _, w1⟩ := DataW.trod_int Yba.underlying32 u1
        obtain ⟨z, e2, _, w2⟩ := DataW.trod_int Yba.underlying21 u2
        simp only [List.cons.injEq, and_true] at e0 e1 e2
        subst e0; subst e1; subst e2
        have c0 := hcell 0 (by omega)
        have c1 := hcell 1 (by omega)
        have c2 := hcell 2 (by omega)
        rw [add_add] at c0 c1 c2
        exact ⟨(x, y, z), by simpa using c0, by simpa using c1, by simpa using c2, bounds_u8 w0, bounds_u32 w1, bounds_i32 w2⟩
    obtain ⟨q, hq⟩ := choose_lt each
    refine ⟨_, n, c, fun i => if i < n then (q i).1 else 0, fun i => if i < n then (q i).2.1 else 0, fun i => if i < n then (q i).2.2 else 0, rfl, fun i => ?_, fun i => ?_, fun i => ?_, fun hn => ?_⟩
    · by_cases hi : i < n
      · simp only [hi, if_true]; exact (hq i hi).2.2.2.1
      · simp [hi]
    · by_cases hi : i < n
      · simp only [hi, if_true]; exact (hq i hi).2.2.2.2.1
      · simp [hi]
    · by_cases hi : i < n
      · simp only [hi, if_true]; exact (hq i hi).2.2.2.2.2
      · simp [hi]
    · obtain ⟨b, off, spot⟩ := a'
      have hspot : spot = none := by simpa [Addr.add] using World.cell?_spot (hq 0 hn).1
      subst hspot
      have hc : ∀ j, j < n → W.cell? ⟨b, off + j * 3, none⟩ = some (.int .u8 (if j < n then (q j).1 else 0)) ∧ W.cell? ⟨b, off + j * 3 + 1, none⟩ = some (.int .u32 (if j < n then (q j).2.1 else 0)) ∧ W.cell? ⟨b, off + j * 3 + 2, none⟩ = some (.int .i32 (if j < n then (q j).2.2 else 0)) := fun j hj => by
        obtain ⟨c0, c1, c2, _⟩ := hq j hj
        rw [Addr.add_mid] at c0 c1 c2
        simp only [hj, if_true]
        exact ⟨c0, c1, c2⟩
      exact ⟨b, off, rfl, World.block_lt_of_cell? W _ (hc 0 hn).1, hc⟩

/-- All arguments are handed back: below the heap's old size nothing has turned. -/
theorem Below.trodAll {W W' : World} (hb : Below W.heap.size W W') {sp : Nat → Bool} : ∀ {ts : List TypeId} {vs : List Value} {ds : List (DataW H)} {ps : List MemPlace}, (∀ t ∈ ts, Yba.prog.readableRec t = true ∧ t < Yba.prog.types.size) →
    DataW.TrodAll enc Yba.prog W 0 (fun _ => true) true ts vs ds ps → (∀ x ∈ ps, x.block < W.heap.size) → (∀ x ∈ ps, sp x.block = true) → DataW.TrodAll enc Yba.prog W' 0 sp true ts vs ds ps
  | [], [], [], _, _, h, _, _ => h
  | t :: ts, v :: vs, d :: ds, _, hT, ⟨p, q, h1, h2, e⟩, hlt, hsp => by
    subst e
    obtain ⟨a1, a2⟩ := hT t List.mem_cons_self
    exact ⟨p, q, WideElems.Trod_stays Yba.laidOut a1 a2 h1 (fun x hx => hb.same (hlt x (List.mem_append_left _ hx))) (fun x hx => hsp x (List.mem_append_left _ hx)),
      Below.trodAll hb (fun t ht => hT t (List.mem_cons_of_mem _ ht)) h2 (fun x hx => hlt x (List.mem_append_right _ hx)) (fun x hx => hsp x (List.mem_append_right _ hx)), rfl⟩
  | [], [], _ :: _, _, _, h, _, _ => by simp [DataW.TrodAll] at h
  | [], _ :: _, _, _, _, h, _, _ => by simp [DataW.TrodAll] at h
  | _ :: _, [], _, _, _, h, _, _ => by simp [DataW.TrodAll] at h
  | _ :: _, _ :: _, [], _, _, h, _, _ => by simp [DataW.TrodAll] at h

end
end Go.Proofs.Ybulkboty
