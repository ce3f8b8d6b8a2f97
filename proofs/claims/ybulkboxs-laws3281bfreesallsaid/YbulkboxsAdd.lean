/-
  (*blockSet).add. Of this seat's own.
-/
import Derived.Test.YbulkboxsSet
namespace Go.Proofs.Ybulkboxs
open Go.RowKit

def wds (ws : List Int) : List Value := ws.map (.int .u64)

/-- The free set within the space: its words, its count, its low. -/
structure Fs (N : Nat) (W : World) (ub : Nat) (C : Array Value) (ws : List Int) (nn low : Int) : Prop where
  cell : W.heap[ub]? = some (.cells C 46 (0, 0))
  size : C.size = 10
  own : ∃ wv, C[1]? = some wv ∧ W.ownsRow N 24 1 wv ws.length (wds ws)
  cn : C[2]? = some (.int .i64 nn)
  cl : C[3]? = some (.int .i64 low)

/-- One bit more. -/
def orW (x : Int) (j : Nat) : Int := bits BinOp.or IntKind.u64 x (IntKind.u64.wrap (2 ^ j))
def padW (ws : List Int) (p : Nat) : List Int := ws ++ List.replicate (p + 1 - ws.length) 0
def addW (ws : List Int) (i : Nat) : List Int := (padW ws (i / 64)).set (i / 64) (orW ((padW ws (i / 64)).getD (i / 64) 0) (i % 64))
/-- The cells that are not the free set's. -/
def Rest (C C' : Array Value) : Prop := ∀ k, (k = 0 ∨ 4 ≤ k) → C'[k]? = C[k]?
theorem Rest.refl (C : Array Value) : Rest C C := fun _ _ => rfl
theorem Rest.trans {A B C : Array Value} (h : Rest A B) (k : Rest B C) : Rest A C := fun i hi => (k i hi).trans (h i hi)
theorem Rest.set {A B : Array Value} (h : Rest A B) (k : Nat) (hk : k = 1 ∨ k = 2 ∨ k = 3) (v : Value) : Rest A (B.setIfInBounds k v) := fun i hi => by
  rw [Array.getElem?_setIfInBounds, if_neg (by omega)]
  exact h i hi

theorem Fs.mark {N : Nat} {W : World} {ub : Nat} {C : Array Value} {ws : List Int} {nn low : Int} {g l c : Nat} (h : Fs N W ub C ws nn low) (hNu : N ≤ ub) (hE : C[1]? = some (.slice (some ⟨g, 0, none⟩) l c)) (hl : ws.length = l) {p : Nat} (y nn' low' : Int) :
    let w2 := W.setCell ⟨g, p, none⟩ (.int .u64 y)
    w2.cell? ⟨ub, 2, none⟩ = some (.int .i64 nn) ∧ w2.cell? ⟨ub, 3, none⟩ = some (.int .i64 low) ∧ w2.frozen? ⟨ub, 2, none⟩ = false ∧ w2.frozen? ⟨ub, 3, none⟩ = false ∧
    Fs N ((w2.setCell ⟨ub, 2, none⟩ (.int .i64 nn')).setCell ⟨ub, 3, none⟩ (.int .i64 low')) ub ((C.setIfInBounds 2 (.int .i64 nn')).setIfInBounds 3 (.int .i64 low')) (ws.set p y) nn' low' ∧ Fr N [46, 24] W ((w2.setCell ⟨ub, 2, none⟩ (.int .i64 nn')).setCell ⟨ub, 3, none⟩ (.int .i64 low')) := by
  intro w2
  obtain ⟨wv, e1, ho⟩ := h.own
  rw [hE] at e1
  obtain rfl := Option.some.inj e1
  obtain ⟨ho2, hg2⟩ := World.ownsRow.stored (by rw [hl] at ho; exact ho) p (.int .u64 y)
  have hNb := ho.lt g rfl
  have f2 : Fr N [46, 24] W w2 := (Fr.refl N [46, 24] W).grown (v := .slice (some ⟨g, 0, none⟩) l c) (by rw [hl] at ho; exact ho) (by simp) (Nat.le_trans hNb.1 (Nat.le_of_lt hNb.2)) hg2
  have hne : ub ≠ g := fun e => own_ne ho h.cell (by decide) (by simp [Value.ownBlock, e])
  have e2 : w2.heap[ub]? = some (.cells C 46 (0, 0)) := (heap_set_other _ hne _ _ _).trans h.cell
  have hC := h.size
  have e3 := heap_set_at e2 2 (.int .i64 nn')
  have e4 := heap_set_at e3 3 (.int .i64 low')
  have f4 : Fr N [46, 24] W ((w2.setCell ⟨ub, 2, none⟩ (.int .i64 nn')).setCell ⟨ub, 3, none⟩ (.int .i64 low')) := (f2.setCell e2 (by simp) hNu _ _).setCell e3 (by simp) hNu _ _
  have f42 : Fr N [46] w2 ((w2.setCell ⟨ub, 2, none⟩ (.int .i64 nn')).setCell ⟨ub, 3, none⟩ (.int .i64 low')) := ((Fr.refl N [46] w2).setCell e2 (by simp) hNu _ _).setCell e3 (by simp) hNu _ _
  refine ⟨by rw [cell_of e2]; exact h.cn, by rw [cell_of e2]; exact h.cl, thawed_of e2 _ _, thawed_of e2 _ _, ⟨e4, by simp [hC], ⟨.slice (some ⟨g, 0, none⟩) l c, ?_, ?_⟩, ?_, ?_⟩, f4⟩
  · rw [Array.getElem?_setIfInBounds, if_neg (by omega), Array.getElem?_setIfInBounds, if_neg (by omega)]; exact hE
  · have : wds (ws.set p y) = (wds ws).set p (.int .u64 y) := by unfold wds; rw [List.map_set]
    rw [this, List.length_set, hl]
    exact f42.own ho2 (by decide)
  · rw [Array.getElem?_setIfInBounds, if_neg (by omega), Array.getElem?_setIfInBounds, if_pos rfl, if_pos (by omega)]
  · rw [Array.getElem?_setIfInBounds, if_pos rfl, if_pos (by simp; omega)]

theorem info24 : Yba.prog.info? 24 = some Yba.t24 := by kernel_rfl

theorem Fs.push {N : Nat} {W w3 : World} {ub : Nat} {C : Array Value} {ws : List Int} {nn low : Int} {wv v3 : Value} {o : Obj} (h : W.heap[ub]? = some (.cells C 46 (0, 0))) (hC : C.size = 10) (ho : W.ownsRow N 24 1 wv ws.length (wds ws)) (hn : C[2]? = some (.int .i64 nn)) (hl : C[3]? = some (.int .i64 low)) (hN : N ≤ W.heap.size) (hNu : N ≤ ub)
    (ho3 : w3.ownsRow N 24 1 v3 (ws.length + 1) (wds ws ++ [.int .u64 0])) (hg : (W.alloc o).grownBy w3 wv.ownBlock) :
    (∃ u, w3.cell? ⟨ub, 1, none⟩ = some u) ∧ w3.frozen? ⟨ub, 1, none⟩ = false ∧ Fs N (w3.setCell ⟨ub, 1, none⟩ v3) ub (C.setIfInBounds 1 v3) (ws ++ [0]) nn low ∧ Fr N [46, 24] W (w3.setCell ⟨ub, 1, none⟩ v3) := by
  have e0 : (W.alloc o).heap[ub]? = some (.cells C 46 (0, 0)) := (heap_alloc_lt _ _ (lt_of_heap h)).trans h
  have e3 : w3.heap[ub]? = some (.cells C 46 (0, 0)) := (hg.block ub (lt_of_heap e0) (own_ne ho h (by decide))).trans e0
  have f3 : Fr N [46, 24] W w3 := ((Fr.refl N [46, 24] W).alloc hN o).grown (ho.alloc o) (by simp) (by simp; omega) hg
  refine ⟨⟨_, by rw [cell_of e3]; exact Array.getElem?_eq_getElem (by omega)⟩, thawed_of e3 _ _, ⟨heap_set_at e3 1 v3, by simp [hC], ⟨v3, ?_, ?_⟩, ?_, ?_⟩, f3.setCell e3 (by simp) hNu _ _⟩
  · rw [Array.getElem?_setIfInBounds, if_pos rfl, if_pos (by omega)]
  · have : wds (ws ++ [0]) = wds ws ++ [.int .u64 0] := by simp [wds]
    rw [this, List.length_append, List.length_singleton]
    refine ho3.kept (row := some ub) ⟨rfl, rfl, rfl, by simp, fun k _ hk => heap_set_other _ (fun e1 => hk (by rw [e1])) _ _ _⟩ ?_
    right
    intro e2
    exact own_ne ho3 e3 (by decide) e2.symm
  · rw [Array.getElem?_setIfInBounds, if_neg (by omega)]; exact hn
  · rw [Array.getElem?_setIfInBounds, if_neg (by omega)]; exact hl

set_option maxRecDepth 100000 in
set_option maxHeartbeats 1000000 in
theorem add_any {N : Nat} {W : World} {ub : Nat} {C : Array Value} {ws : List Int} {nn low : Int} (h : Fs N W ub C ws nn low) (hN : N ≤ W.heap.size) (hNu : N ≤ ub) (i : Nat) (hi : i ≤ 10000) (hw : ws.length ≤ 1000) (_n0 : 0 ≤ nn) (_n1 : nn ≤ 100000) :
    Calls Yba.prog 6 #[.pointer (some ⟨ub, 1, none⟩), .int .i64 (i : Int)] W fun r w' => r = .returned (.tuple #[]) ∧ ∃ C', Fs N w' ub C' (addW ws i) (nn + 1) (min low i) ∧ Rest C C' ∧ Fr N [46, 24] W w' := by
  obtain ⟨p, hp⟩ : ∃ p : Nat, i / 64 = p := ⟨_, rfl⟩
  obtain ⟨j, hj⟩ : ∃ j : Nat, i % 64 = j := ⟨_, rfl⟩
  have hj5 : j < 64 := by omega
  have hq : (i : Int) / 64 = (p : Int) := by omega
  have hr : (i : Int) % 64 = (j : Int) := by omega
  have hp2 : p ≤ 200 := by omega
  have HF0 : Hid (Fs N W ub C ws nn low) := h
  have HN : Hid (N ≤ W.heap.size ∧ N ≤ ub) := ⟨hN, hNu⟩
  have HW : Hid (ws.length ≤ 1000) := hw
  have HPJ : Hid (i / 64 = p ∧ i % 64 = j) := ⟨hp, hj⟩
  clear h hp hj hN hNu hw
  go_enter Yba.func6, Yba.ntmps6
  go_wp2
  go_loopg [] (p + 1 - ws.length) (fun k wr => ∃ C' q, k = p + 1 - (ws.length + q) ∧ Rest C C' ∧ (q = 0 ∨ ws.length + q ≤ p + 1) ∧ Fs N wr ub C' (ws ++ List.replicate q 0) nn low ∧ Fr N [46, 24] W wr)
  case atStart => exact ⟨C, 0, rfl, Rest.refl _, .inl rfl, by simpa using HF0.out, Fr.refl _ _ _⟩
  case round =>
    obtain ⟨C', q, hk, hrs, hq1, hF0, hFr⟩ := hrel
    have HRS : Hid (Rest C C') := hrs
    clear hrs
    obtain ⟨ws', hws⟩ : ∃ ws', ws ++ List.replicate q 0 = ws' := ⟨_, rfl⟩
    have HWS : Hid (ws ++ List.replicate q 0 = ws') := hws
    have HLN : Hid (ws'.length = ws.length + q) := by show _ = _; rw [← hws]; simp
    rw [hws] at hF0
    have hF := hF0
    have HK : Hid (gk = p + 1 - (ws.length + q) ∧ (q = 0 ∨ ws.length + q ≤ p + 1)) := ⟨hk, hq1⟩
    have HF : Hid (Fs N wr ub C' ws' nn low) := hF
    have HFR : Hid (Fr N [46, 24] W wr) := hFr
    obtain ⟨wv, e1, ho⟩ := hF.own
    obtain ⟨a1, c1, hv⟩ := own_form ho
    subst hv
    have hl1 : ws'.length ≤ 1300 := by have := HLN.out; have := HW.out; rcases hq1 with h | h <;> omega
    obtain ⟨l, hll⟩ : ∃ l, ws'.length = l := ⟨_, rfl⟩
    have HLL : Hid (ws'.length = l) := hll
    rw [hll] at ho hl1
    have HO : Hid (wr.ownsRow N 24 1 (.slice a1 l c1) l (wds ws')) := ho
    have c0 : wr.cell? ⟨ub, 1, none⟩ = some (.slice a1 l c1) := by rw [cell_of hF.cell, e1, hll]
    have HE1 : Hid (C'[1]? = some (.slice a1 l c1)) := by show _ = _; rw [e1, hll]
    clear hk hq1 hF hF0 hFr ho hll e1 hws
    by_cases hpl : l ≤ p
    · have HC : Hid (∀ (q : Nat) (u : Value), [Value.int .u64 0][q]? = some u → (wr.alloc (.cells #[.int .u64 0] 24)).cell? ((⟨wr.heap.size, 0, none⟩ : Addr).add q) = some u) := fun q u hu => by
        rw [Addr.add_mid, Nat.zero_add, cell_of (heap_alloc_at wr _)]
        simpa using hu
      have HNR : Hid (N ≤ wr.heap.size) := Nat.le_trans HN.out.1 HFR.out.size
      go_wp2_with (at_builtin; refine wpList_append_own _ rfl (.tmp 16) (.tmp 17) 32 rfl N 24 Yba.t24 _ 1 8 Yba.underlying32 info24 rfl rfl rfl rfl (by omega) _ l (wds ws') rfl (HO.out.alloc _) ⟨wr.heap.size, 0, none⟩ 1 1 [.int .u64 0] rfl rfl HC.out (by simp [Value.oneCell']) (by unfold maxLen; omega) (by omega) (by have := HNR.out; simp; omega) ?_; intro v3 w3 ho3 hg3 _; obtain ⟨⟨u3, c3⟩, f3, hF3, hFr3⟩ := Fs.push HF.out.cell HF.out.size (by rw [HLL.out]; exact HO.out) HF.out.cn HF.out.cl HNR.out HN.out.2 (by rw [HLL.out]; exact ho3) hg3; obtain ⟨a3, cap3, hv3⟩ := own_form ho3; subst hv3; have HF3 : Hid _ := hF3; have HFR3 : Hid _ := HFR.out.trans hFr3; clear hF3 hFr3 ho3 hg3)
      go_roundg (p + 1 - (ws.length + (q + 1)))
      case measure => have h1 := HK.out.1; have h2 := HLN.out; have h3 := HLL.out; omega
      case rel =>
        refine ⟨C'.setIfInBounds 1 (.slice a3 (l + 1) cap3), q + 1, rfl, HRS.out.set 1 (.inl rfl) _, .inr (by have h2 := HLN.out; have h3 := HLL.out; omega), ?_, HFR3.out⟩
        rw [List.replicate_succ', ← List.append_assoc, HWS.out]
        exact HF3.out
    · have hpl2 : p < l := by omega
      obtain ⟨g, hg⟩ : ∃ g, a1 = some ⟨g, 0, none⟩ := by
        rcases HO.out.2 with ⟨_, h0⟩ | ⟨g, cap, cur, e, _⟩
        · omega
        · simp only [Value.slice.injEq] at e
          exact ⟨g, e.1⟩
      subst hg
      obtain ⟨x, hx⟩ : ∃ x : Int, ws'[p]? = some x := ⟨ws'[p]'(by rw [HLL.out]; exact hpl2), by simp⟩
      have HX : Hid (ws'[p]? = some x) := hx
      have c2 : wr.cell? ⟨g, p, none⟩ = some (.int .u64 x) := by rw [HO.out.cellAt p (by omega)]; simp [wds, hx]
      have f2 := HO.out.frozenAt p
      clear hx
      obtain ⟨m1, m2, m3, m4, _, _⟩ := HF.out.mark HN.out.2 HE1.out HLL.out (p := p) (orW x j) (nn + 1) (min low i)
      have HADD : Hid (addW ws i = ws'.set p (orW x j)) := by
        show _ = _
        unfold addW
        rw [HPJ.out.1, HPJ.out.2]
        have hpad : padW ws p = ws' := by
          unfold padW
          rw [← HWS.out]
          have h1 := HLN.out
          have h2 := HLL.out
          congr 2
          rcases HK.out.2 with h3 | h3 <;> omega
        rw [hpad]
        have : ws'.getD p 0 = x := by simp [List.getD, HX.out]
        rw [this]
      unfold orW at m1 m2 m3 m4
      go_upto_region 2 with fail
      go_region
      go_wp2
      all_goals
        go_end0
        obtain ⟨_, _, _, _, m5, m6⟩ := HF.out.mark HN.out.2 HE1.out HLL.out (p := p) (orW x j) (nn + 1) (i : Int)
        obtain ⟨_, _, _, _, m7, m8⟩ := HF.out.mark HN.out.2 HE1.out HLL.out (p := p) (orW x j) (nn + 1) low
        rw [HADD.out]
        first
          | (rw [show min low (i : Int) = (i : Int) by omega]
             exact ⟨rfl, _, ⟨m5.cell, m5.size, m5.own, m5.cn, m5.cl⟩, (HRS.out.set 2 (by simp) _).set 3 (by simp) _, (HFR.out.trans m6).drew⟩)
          | (rw [show min low (i : Int) = low by omega]
             exact ⟨rfl, _, ⟨m7.cell, m7.size, m7.own, m7.cn, m7.cl⟩, (HRS.out.set 2 (by simp) _).set 3 (by simp) _, (HFR.out.trans m8).drew⟩)
end Go.Proofs.Ybulkboxs
