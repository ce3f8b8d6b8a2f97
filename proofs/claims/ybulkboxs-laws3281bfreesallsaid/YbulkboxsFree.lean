/-
  freeAll; the words of a full set. Of this seat's own.
-/
import Derived.Test.YbulkboxsSp
namespace Go.Proofs.Ybulkboxs
open Go.RowKit

/-- The bits of word j where the blocks below t are in the set. -/
def wbits (t j : Nat) : Nat := min 64 (t - 64 * j)
def fullW (t : Nat) : List Int := (List.range ((t + 63) / 64)).map fun j => ((2 ^ wbits t j - 1 : Nat) : Int)

theorem orW_step : ∀ r : Fin 64, orW ((2 ^ r.val - 1 : Nat) : Int) r.val = ((2 ^ (r.val + 1) - 1 : Nat) : Int) := by decide +kernel

theorem fullW_len (t : Nat) : (fullW t).length = (t + 63) / 64 := by simp [fullW]
theorem fullW_get (t j : Nat) (hj : j < (t + 63) / 64) : (fullW t)[j]? = some ((2 ^ wbits t j - 1 : Nat) : Int) := by simp [fullW, hj]

theorem addW_full (t : Nat) : addW (fullW t) t = fullW (t + 1) := by
  have hl := fullW_len t
  have hpl : (padW (fullW t) (t / 64)).length = (t + 1 + 63) / 64 := by
    unfold padW
    rw [List.length_append, List.length_replicate, hl]
    omega
  have hpg : ∀ k, k < (t + 1 + 63) / 64 → (padW (fullW t) (t / 64))[k]? = some ((2 ^ wbits t k - 1 : Nat) : Int) := by
    intro k hk
    unfold padW
    by_cases h : k < (t + 63) / 64
    · rw [List.getElem?_append_left (by rw [hl]; exact h)]
      exact fullW_get t k h
    · rw [List.getElem?_append_right (by rw [hl]; omega), List.getElem?_replicate, if_pos (by rw [hl]; omega)]
      have : wbits t k = 0 := by unfold wbits; omega
      rw [this]
      rfl
  apply List.ext_getElem?
  intro k
  unfold addW
  rw [List.getElem?_set]
  by_cases hk : k < (t + 1 + 63) / 64
  · rw [fullW_get _ _ hk]
    by_cases e : t / 64 = k
    · subst e
      rw [if_pos rfl, if_pos (by rw [hpl]; exact hk)]
      have hg : (padW (fullW t) (t / 64)).getD (t / 64) 0 = ((2 ^ wbits t (t / 64) - 1 : Nat) : Int) := by
        rw [List.getD, hpg _ hk]
        rfl
      rw [hg]
      have h1 : wbits t (t / 64) = t % 64 := by unfold wbits; omega
      have h2 : wbits (t + 1) (t / 64) = t % 64 + 1 := by unfold wbits; omega
      rw [h1, h2]
      exact congrArg some (orW_step ⟨t % 64, by omega⟩)
    · rw [if_neg e, hpg k hk]
      have : wbits t k = wbits (t + 1) k := by unfold wbits; omega
      rw [this]
  · have : (fullW (t + 1))[k]? = none := by rw [List.getElem?_eq_none]; rw [fullW_len]; omega
    rw [this]
    by_cases e : t / 64 = k
    · omega
    · rw [if_neg e, List.getElem?_eq_none (by rw [hpl]; omega)]

/-- The free set is emptied. -/
theorem Sp.reset {N : Nat} {w W : World} {ub bb n : Nat} {C : Array Value} {h : Nat → Int} {ws : List Int} {nn low : Int} {np : Nat} {m : Nat → Int} {rk : Nat} (s : Sp N w W ub bb n C h ws nn low np m rk) :
    Sp N w (((W.setCell ⟨ub, 1, none⟩ (.slice none 0 0)).setCell ⟨ub, 2, none⟩ (.int .i64 0)).setCell ⟨ub, 3, none⟩ (.int .i64 0)) ub bb n (((C.setIfInBounds 1 (.slice none 0 0)).setIfInBounds 2 (.int .i64 0)).setIfInBounds 3 (.int .i64 0)) h [] 0 0 np m rk := by
  have hC := s.fs.size
  have e1 := heap_set_at s.fs.cell 1 (.slice none 0 0)
  have e2 := heap_set_at e1 2 (.int .i64 0)
  have e3 := heap_set_at e2 3 (.int .i64 0)
  have f : Fr N [46] W (((W.setCell ⟨ub, 1, none⟩ (.slice none 0 0)).setCell ⟨ub, 2, none⟩ (.int .i64 0)).setCell ⟨ub, 3, none⟩ (.int .i64 0)) := (((Fr.refl N [46] W).setCell s.fs.cell (by simp) s.hub _ _).setCell e1 (by simp) s.hub _ _).setCell e2 (by simp) s.hub _ _
  obtain ⟨d, pg, e4, hm⟩ := s.mks
  obtain ⟨rv, xs, e9, hr⟩ := s.ret
  have g : Rest C (((C.setIfInBounds 1 (.slice none 0 0)).setIfInBounds 2 (.int .i64 0)).setIfInBounds 3 (.int .i64 0)) := (((Rest.refl C).set 1 (by simp) _).set 2 (by simp) _).set 3 (by simp) _
  refine ⟨⟨e3, by simp [hC], ⟨.slice none 0 0, ?_, World.ownsRow_nil _ _ _ _⟩, ?_, ?_⟩, (g 0 (by omega)).trans s.b0, s.row.fr f (by decide), ⟨d, pg, (g 4 (by omega)).trans e4, hm.fr f (by decide) (by decide) (by decide)⟩, ⟨rv, xs, (g 9 (by omega)).trans e9, f.own hr (by decide)⟩, f.below s.below, s.hub, s.hbb, s.hN⟩
  · rw [Array.getElem?_setIfInBounds, if_neg (by omega), Array.getElem?_setIfInBounds, if_neg (by omega), Array.getElem?_setIfInBounds, if_pos rfl, if_pos (by omega)]
  · rw [Array.getElem?_setIfInBounds, if_neg (by omega), Array.getElem?_setIfInBounds, if_pos rfl, if_pos (by simp; omega)]
  · rw [Array.getElem?_setIfInBounds, if_pos rfl, if_pos (by simp; omega)]

/-- What freeAll leaves. -/
structure Freed (N : Nat) (w W : World) (ub bb n : Nat) (C C0 : Array Value) (np : Nat) : Prop where
  sp : ∃ h m, Sp N w W ub bb n C h (fullW n) n 0 np m 0 ∧ (∀ i, i < n → h i = 0) ∧ ∀ i, i < n → m i = 0
  head : C[5]? = some (.int .u32 0)
  ret : C[9]? = some (.slice none 0 0)
  tail : ∀ k, 6 ≤ k → k ≤ 8 → C[k]? = C0[k]?

theorem Sp.close {N : Nat} {w W : World} {ub bb n : Nat} {C C0 : Array Value} {h : Nat → Int} {np : Nat} {m : Nat → Int} {rk : Nat} (s : Sp N w W ub bb n C h (fullW n) n 0 np m rk) (hh : ∀ i, i < n → h i = 0) (hm : ∀ i, i < n → m i = 0) (ht : Tail C0 C) :
    (∃ u, W.cell? ⟨ub, 5, none⟩ = some u) ∧ W.frozen? ⟨ub, 5, none⟩ = false ∧ (∃ u, W.cell? ⟨ub, 9, none⟩ = some u) ∧ W.frozen? ⟨ub, 9, none⟩ = false ∧
    Freed N w ((W.setCell ⟨ub, 5, none⟩ (.int .u32 0)).setCell ⟨ub, 9, none⟩ (.slice none 0 0)) ub bb n ((C.setIfInBounds 5 (.int .u32 0)).setIfInBounds 9 (.slice none 0 0)) C0 np := by
  have hC := s.fs.size
  have e1 := heap_set_at s.fs.cell 5 (.int .u32 0)
  have e2 := heap_set_at e1 9 (.slice none 0 0)
  have f : Fr N [46] W ((W.setCell ⟨ub, 5, none⟩ (.int .u32 0)).setCell ⟨ub, 9, none⟩ (.slice none 0 0)) := ((Fr.refl N [46] W).setCell s.fs.cell (by simp) s.hub _ _).setCell e1 (by simp) s.hub _ _
  obtain ⟨d, pg, e4, hmk⟩ := s.mks
  obtain ⟨wv, e, ho⟩ := s.fs.own
  have g : ∀ q, q ≠ 5 → q ≠ 9 → ((C.setIfInBounds 5 (.int .u32 0)).setIfInBounds 9 (.slice none 0 0))[q]? = C[q]? := fun q h5 h9 => by
    rw [Array.getElem?_setIfInBounds, if_neg (fun e => h9 e.symm), Array.getElem?_setIfInBounds, if_neg (fun e => h5 e.symm)]
  have g9 : ((C.setIfInBounds 5 (.int .u32 0)).setIfInBounds 9 (.slice none 0 0))[9]? = some (.slice none 0 0) := by rw [Array.getElem?_setIfInBounds, if_pos rfl, if_pos (by simp; omega)]
  refine ⟨⟨_, by rw [cell_of s.fs.cell]; exact Array.getElem?_eq_getElem (by omega)⟩, thawed_of s.fs.cell _ _, ⟨_, by rw [cell_of s.fs.cell]; exact Array.getElem?_eq_getElem (by omega)⟩, thawed_of s.fs.cell _ _, ⟨⟨h, m, ?_, hh, hm⟩, ?_, g9, fun k h1 h2 => ?_⟩⟩
  · exact ⟨⟨e2, by simp [hC], ⟨wv, (g 1 (by omega) (by omega)).trans e, f.own ho (by decide)⟩, (g 2 (by omega) (by omega)).trans s.fs.cn, (g 3 (by omega) (by omega)).trans s.fs.cl⟩, (g 0 (by omega) (by omega)).trans s.b0, s.row.fr f (by decide), ⟨d, pg, (g 4 (by omega) (by omega)).trans e4, hmk.fr f (by decide) (by decide) (by decide)⟩, ⟨_, [], g9, World.ownsRow_nil _ _ _ _⟩, f.below s.below, s.hub, s.hbb, s.hN⟩
  · rw [Array.getElem?_setIfInBounds, if_neg (by omega), Array.getElem?_setIfInBounds, if_pos rfl, if_pos (by omega)]
  · rw [g k (by omega) (by omega)]; exact ht k (by omega) h2

set_option maxRecDepth 100000 in
set_option maxHeartbeats 1000000 in
theorem free_any {N : Nat} {w W : World} {ub bb n : Nat} {C : Array Value} {h : Nat → Int} {ws : List Int} {nn low : Int} {np : Nat} {m : Nat → Int} {rk : Nat} (s : Sp N w W ub bb n C h ws nn low np m rk) (hn : n ≤ 3000) (hnp : n ≤ np * 512) :
    Calls Yba.prog 8 #[.pointer (some ⟨ub, 0, none⟩)] W fun r w' => r = .returned (.tuple #[]) ∧ ∃ C', Freed N w w' ub bb n C' C np := by
  have hC := s.fs.size
  have c1 : ∃ u, W.cell? ⟨ub, 1, none⟩ = some u := ⟨_, by rw [cell_of s.fs.cell]; exact Array.getElem?_eq_getElem (by omega)⟩
  have c2 : W.cell? ⟨ub, 2, none⟩ = some (.int .i64 nn) := by rw [cell_of s.fs.cell]; exact s.fs.cn
  have c3 : W.cell? ⟨ub, 3, none⟩ = some (.int .i64 low) := by rw [cell_of s.fs.cell]; exact s.fs.cl
  have c0 : W.cell? ⟨ub, 0, none⟩ = some (.slice (some ⟨bb, 0, none⟩) n n) := by rw [cell_of s.fs.cell]; exact s.b0
  obtain ⟨u1, c1⟩ := c1
  have fz := fun o => thawed_of s.fs.cell o none
  have HS0 : Hid _ := s.reset
  have HT0 : Hid (Tail C (((C.setIfInBounds 1 (.slice none 0 0)).setIfInBounds 2 (.int .i64 0)).setIfInBounds 3 (.int .i64 0))) := fun k h1 h2 => ((((Rest.refl C).set 1 (by simp) _).set 2 (by simp) _).set 3 (by simp) _) k (by omega)
  clear s hC
  go_enter Yba.func8, Yba.ntmps8
  go_wp2
  go_loopg [12] n (fun k i wr => ∃ (t : Nat) (C' : Array Value) (h' m' : Nat → Int), t ≤ n ∧ k = n - t ∧ i = .int .i64 (t : Int) ∧ Sp N w wr ub bb n C' h' (fullW t) t 0 np m' rk ∧ (∀ q, q < t → h' q = 0) ∧ (∀ q, q < t → m' q = 0) ∧ Tail C C')
  case atStart => exact ⟨0, _, _, _, Nat.zero_le _, rfl, rfl, HS0.out, fun q hq => absurd hq (by omega), fun q hq => absurd hq (by omega), HT0.out⟩
  case round =>
    clear HS0 HT0 c0 c1 c2 c3 fz
    obtain ⟨t, C', h', m', htn, hgk, rfl, hS, hh, hm, hT⟩ := hrel
    have HGK : Hid (gk = n - t) := hgk
    have HS : Hid (Sp N w wr ub bb n C' h' (fullW t) t 0 np m' rk) := hS
    have HH : Hid ((∀ q, q < t → h' q = 0) ∧ (∀ q, q < t → m' q = 0) ∧ Tail C C') := ⟨hh, hm, hT⟩
    have b0 : wr.cell? ⟨ub, 0, none⟩ = some (.slice (some ⟨bb, 0, none⟩) n n) := by rw [cell_of hS.fs.cell]; exact hS.b0
    clear hgk hh hm hT
    by_cases hti : t < n
    · obtain ⟨r1, r2⟩ := hS.row.cell hti
      have HS1 : Hid (Sp N w (wr.setCell ⟨bb, t, none⟩ (.int .i64 0)) ub bb n C' (updI h' t 0) (fullW t) t 0 np m' rk) := hS.hold hti 0
      have HADD : Hid (Calls Yba.prog 6 _ _ _) := HS1.out.add t (by omega) (by rw [fullW_len]; omega) (by omega) (by omega)
      clear hS
      go_wp2_with (first
        | (go_at_call 6; refine HADD.out.mono ?_; rintro r w3 ⟨rfl, C3, hR3, hS3⟩; have HS3 : Hid (Sp N w w3 ub bb n C3 (updI h' t 0) (fullW (t + 1)) (t + 1) 0 np m' rk) := (by rw [addW_full, show min (0 : Int) (t : Int) = 0 by omega] at hS3; exact hS3); have HR3 : Hid (Rest C' C3) := hR3; have HSET : Hid (Calls Yba.prog 5 _ w3 _) := hS3.set t (by omega) (by omega) 0; clear hS3 hR3)
        | (go_at_call 5; refine HSET.out.mono ?_; rintro r w4 ⟨rfl, hS4⟩; have HS4 : Hid _ := hS4; clear hS4))
      go_roundg (n - (t + 1))
      case measure => have := HGK.out; omega
      case rel =>
        have h4 := HS4.out
        rw [addW_full, show min (0 : Int) (t : Int) = 0 by omega] at h4
        refine ⟨t + 1, C3, _, _, by omega, rfl, by go_num, h4, fun q hq => ?_, fun q hq => ?_, fun k h1 h2 => (HR3.out k (by omega)).trans (HH.out.2.2 k h1 h2)⟩
        · unfold updI
          split
          · rfl
          · exact HH.out.1 q (by omega)
        · unfold updI
          split
          · rfl
          · exact HH.out.2.1 q (by omega)
    · have hte : t = n := by omega
      subst hte
      obtain ⟨⟨u5, d1⟩, d2, ⟨u9, d3⟩, d4, hF⟩ := hS.close HH.out.1 HH.out.2.1 HH.out.2.2
      have HF : Hid _ := hF
      clear hS hF
      go_wp2
      go_end0
      exact ⟨rfl, _, HF.out⟩
end Go.Proofs.Ybulkboxs
