/-
  slices.Reverse at nodes. Of this seat's own.
-/
import Derived.Test.YbulkbovoNodes
namespace Go.Proofs.Ybulkbovo
open Go.RowKit

/-- w' is w but for block b. -/
structure SameBut (b : Nat) (w w' : World) : Prop where
  os : w'.os = w.os
  tape : w'.tape = w.tape
  output : w'.output = w.output
  size : w'.heap.size = w.heap.size
  block : ∀ k, k ≠ b → w'.heap[k]? = w.heap[k]?

def swapF (f : Nat → ByteArray) (n t : Nat) : Nat → ByteArray := fun k => if k < t ∨ n - 1 - t < k then f (n - 1 - k) else f k

set_option maxRecDepth 100000 in
set_option maxHeartbeats 1000000 in
theorem reverse_any (b n c : Nat) (f : Nat → ByteArray) (w : World) (hn : n ≤ 1024) (hA : NodeRow w b n f) :
    Calls Yba.prog 10 #[.slice (some ⟨b, 0, none⟩) n c] w fun r w' => r = .returned (.tuple #[]) ∧ NodeRow w' b n (fun i => f (n - 1 - i)) ∧ SameBut b w w' := by
  have HA : Hid (NodeRow w b n f) := hA
  clear hA
  go_enter Yba.func10, Yba.ntmps10
  go_wp2
  go_loopg [2, 3] n (fun k x y wr => ∃ t : Nat, k = n - t ∧ x = .int .i64 (t : Int) ∧ y = .int .i64 ((n : Int) - 1 - t) ∧ 2 * t ≤ n ∧ NodeRow wr b n (swapF f n t) ∧ SameBut b w wr)
  case atStart =>
    refine ⟨0, rfl, rfl, by go_num, by omega, HA.out.congr (fun i hi => ?_), ⟨rfl, rfl, rfl, rfl, fun _ _ => rfl⟩⟩
    unfold swapF
    rw [if_neg (by omega)]
  case round =>
    obtain ⟨t, hgk, rfl, rfl, ht2, hN, hS⟩ := hrel
    have HGK : Hid (gk = n - t) := hgk
    have HS : Hid _ := hS
    have HN : Hid _ := hN
    by_cases hlt : 2 * t + 1 < n
    · obtain ⟨j, hj⟩ : ∃ j : Nat, (n : Int) - 1 - t = (j : Int) := ⟨n - 1 - t, by omega⟩
      have hjn : j < n := by omega
      have htn : t < n := by omega
      have HJ : Hid (j = n - 1 - t) := by show _ = _; omega
      have sj : swapF f n t j = f j := by unfold swapF; rw [if_neg (by omega)]
      have st : swapF f n t t = f t := by unfold swapF; rw [if_neg (by omega)]
      have HRJ : Hid (wr.drew.rangeAt b (j * 3) (nodeC (f j))) := by have := hN.range hjn; rw [sj] at this; exact this
      have HRT : Hid (wr.drew.rangeAt b (t * 3) (nodeC (f t))) := by have := hN.range htn; rw [st] at this; exact this
      have HTT : Hid (wr.drew.there b (t * 3) 3) := hN.there htn
      have HTJ : Hid ((wr.drew.setCells b (t * 3) (nodeC (f j))).there b (j * 3) 3) := World.there_setCells (w := wr.drew) (hN.there hjn) _ _ _
      have HNN : Hid (NodeRow ((wr.drew.setCells b (t * 3) (nodeC (f j))).setCells b (j * 3) (nodeC (f t))) b n (swapF f n (t + 1))) := by
        have h1 : NodeRow wr.drew b n (swapF f n t) := hN
        have hjj := HJ.out
        refine ((h1.set htn (f j)).set hjn (f t)).congr (fun k hk => ?_)
        unfold swapF
        by_cases e1 : k = j
        · subst e1
          rw [if_pos rfl, if_pos (by omega)]
          congr 1
          omega
        · rw [if_neg e1]
          by_cases e2 : k = t
          · subst e2
            rw [if_pos rfl, if_pos (by omega)]
            congr 1
          · rw [if_neg e2]
            by_cases e3 : k < t ∨ n - 1 - t < k
            · rw [if_pos e3, if_pos (by omega)]
            · rw [if_neg e3, if_neg (by omega)]
      have HSS : Hid (SameBut b w ((wr.drew.setCells b (t * 3) (nodeC (f j))).setCells b (j * 3) (nodeC (f t)))) := by
        obtain ⟨a1, a2, a3, a4⟩ := setCells_same b (nodeC (f t)) (j * 3) (wr.drew.setCells b (t * 3) (nodeC (f j)))
        obtain ⟨b1, b2, b3, b4⟩ := setCells_same b (nodeC (f j)) (t * 3) wr.drew
        exact ⟨(a1.trans b1).trans hS.os, (a2.trans b2).trans hS.tape, (a3.trans b3).trans hS.output, (a4.trans b4).trans hS.size, fun k hk => by
          rw [heap_setCells_other hk, heap_setCells_other hk]; exact hS.block k hk⟩
      rw [hj]
      clear hN hS hgk sj st
      go_upto_region 3 with fail
      refine wp_region_held_drew (S := fun _ => True) (by kernel_rfl) trivial (fun hHeld => ?_)
      refine wpAnyH_take (i := 0) (v := .slice (some ⟨b, 0, none⟩) n c) rfl (by kernel_rfl) (by kernel_rfl) (by kernel_rfl) (fun _ _ _ h => h) (Or.inl ⟨by rfl, fun W hW => by rfl⟩) hHeld ?_
      simp only [List.getElem_toArray, List.getElem_cons_zero, Act.put, List.setIfInBounds_toArray, List.set_cons_zero, List.set_cons_succ]
      refine wpAnyH_take (i := 1) (v := .int .i64 (t : Int)) rfl (by kernel_rfl) (by kernel_rfl) (by kernel_rfl) (fun _ _ _ h => h) (Or.inl ⟨by rfl, fun W hW => by rfl⟩) hHeld ?_
      simp only [List.getElem_toArray, List.getElem_cons_zero, List.getElem_cons_succ, Act.put, List.setIfInBounds_toArray, List.set_cons_zero, List.set_cons_succ]
      refine wpAnyH_take (i := 2) (v := .slice (some ⟨b, 0, none⟩) n c) rfl (by kernel_rfl) (by kernel_rfl) (by kernel_rfl) (fun _ _ _ h => h) (Or.inl ⟨by rfl, fun W hW => by rfl⟩) hHeld ?_
      simp only [List.getElem_toArray, List.getElem_cons_zero, List.getElem_cons_succ, Act.put, List.setIfInBounds_toArray, List.set_cons_zero, List.set_cons_succ]
      refine wpAnyH_take (i := 3) (v := .int .i64 (j : Int)) rfl (by kernel_rfl) (by kernel_rfl) (by kernel_rfl) (fun _ _ _ h => h) (Or.inl ⟨by rfl, fun W hW => by rfl⟩) hHeld ?_
      simp only [List.getElem_toArray, List.getElem_cons_zero, List.getElem_cons_succ, Act.put, List.setIfInBounds_toArray, List.set_cons_zero, List.set_cons_succ]
      refine wpAnyH_take (i := 4) (v := .slice (some ⟨b, 0, none⟩) n c) rfl (by kernel_rfl) (by kernel_rfl) (by kernel_rfl) (fun _ _ _ h => h) (Or.inl ⟨by rfl, fun W hW => by rfl⟩) hHeld ?_
      simp only [List.getElem_toArray, List.getElem_cons_zero, List.getElem_cons_succ, Act.put, List.setIfInBounds_toArray, List.set_cons_zero, List.set_cons_succ]
      refine wpAnyH_take (i := 5) (v := .int .i64 (j : Int)) rfl (by kernel_rfl) (by kernel_rfl) (by kernel_rfl) (fun _ _ _ h => h) (Or.inl ⟨by rfl, fun W hW => by rfl⟩) hHeld ?_
      simp only [List.getElem_toArray, List.getElem_cons_zero, List.getElem_cons_succ, Act.put, List.setIfInBounds_toArray, List.set_cons_zero, List.set_cons_succ]
      refine wpAnyH_take (i := 6) (v := .pointer (some ⟨b, j * 3, none⟩)) rfl (by kernel_rfl) (by kernel_rfl) (by kernel_rfl) (fun _ _ _ h => h) (yi_index (by rfl) 24 (.tmp 18) (.tmp 19) rfl rfl rfl hjn Yba.underlying24 size30) hHeld ?_
      simp only [List.getElem_toArray, List.getElem_cons_zero, List.getElem_cons_succ, Act.put, List.setIfInBounds_toArray, List.set_cons_zero, List.set_cons_succ]
      refine wpAnyH_take (i := 8) (v := .slice (some ⟨b, 0, none⟩) n c) rfl (by kernel_rfl) (by kernel_rfl) (by kernel_rfl) (fun _ _ _ h => h) (Or.inl ⟨by rfl, fun W hW => by rfl⟩) hHeld ?_
      simp only [List.getElem_toArray, List.getElem_cons_zero, List.getElem_cons_succ, Act.put, List.setIfInBounds_toArray, List.set_cons_zero, List.set_cons_succ]
      refine wpAnyH_take (i := 9) (v := .int .i64 (t : Int)) rfl (by kernel_rfl) (by kernel_rfl) (by kernel_rfl) (fun _ _ _ h => h) (Or.inl ⟨by rfl, fun W hW => by rfl⟩) hHeld ?_
      simp only [List.getElem_toArray, List.getElem_cons_zero, List.getElem_cons_succ, Act.put, List.setIfInBounds_toArray, List.set_cons_zero, List.set_cons_succ]
      refine wpAnyH_take (i := 10) (v := .pointer (some ⟨b, t * 3, none⟩)) rfl (by kernel_rfl) (by kernel_rfl) (by kernel_rfl) (fun _ _ _ h => h) (yi_index (by rfl) 24 (.tmp 22) (.tmp 23) rfl rfl rfl htn Yba.underlying24 size30) hHeld ?_
      simp only [List.getElem_toArray, List.getElem_cons_zero, List.getElem_cons_succ, Act.put, List.setIfInBounds_toArray, List.set_cons_zero, List.set_cons_succ]
      refine wpAnyH_ready (rs := [7, 11]) (by kernel_rfl) (by simp) ?_
      refine AllReadyH.cons rfl (fun K hK => ?_) (AllReadyH.cons rfl (fun K hK => ?_) AllReadyH.nil)
      · rw [if_pos (by rfl)]
        refine wp_load_mid 30 (.tmp 20) rfl b (j * 3) rfl (nodeC (f j)) _ HRJ.out Yba.underlying30 rfl size30 ?_
        refine hK.out _ _ trivial (fun _ => ?_)
        clear hK K
        simp only [List.getElem_toArray, List.getElem_cons_zero, List.getElem_cons_succ, Act.put, List.setIfInBounds_toArray, List.set_cons_zero, List.set_cons_succ]
        refine wpAnyH_ready (rs := [11]) (by kernel_rfl) (by simp) ?_
        refine AllReadyH.cons rfl (fun K hK => ?_) AllReadyH.nil
        rw [if_pos (by rfl)]
        refine wp_load_mid 30 (.tmp 24) rfl b (t * 3) rfl (nodeC (f t)) _ HRT.out Yba.underlying30 rfl size30 ?_
        refine hK.out _ _ trivial (fun _ => ?_)
        clear hK K
        simp only [List.getElem_toArray, List.getElem_cons_zero, List.getElem_cons_succ, Act.put, List.setIfInBounds_toArray, List.set_cons_zero, List.set_cons_succ]
        refine wpAnyH_take (i := 12) (v := .pointer (some ⟨b, t * 3, none⟩)) rfl (by kernel_rfl) (by kernel_rfl) (by kernel_rfl) (fun _ _ _ h => h) (yi_index (by rfl) 24 (.tmp 14) (.tmp 15) rfl rfl rfl htn Yba.underlying24 size30) hHeld ?_
        simp only [List.getElem_toArray, List.getElem_cons_zero, List.getElem_cons_succ, Act.put, List.setIfInBounds_toArray, List.set_cons_zero, List.set_cons_succ]
        refine wpAnyH_ready (rs := [13]) (by kernel_rfl) (by simp) ?_
        refine AllReadyH.cons rfl (fun K hK => ?_) AllReadyH.nil
        rw [if_pos (by rfl)]
        refine wp_store_mid 30 (.tmp 26) (.tmp 21) rfl b (t * 3) _ rfl rfl HTT.out size30 (node_one _) ?_
        refine hK.out _ _ trivial (fun _ => ?_)
        clear hK K
        simp only [List.getElem_toArray, List.getElem_cons_zero, List.getElem_cons_succ, Act.put]
        refine wpAnyH_take (i := 14) (v := .pointer (some ⟨b, j * 3, none⟩)) rfl (by kernel_rfl) (by kernel_rfl) (by kernel_rfl) (fun _ _ _ h => h) (yi_index (by rfl) 24 (.tmp 16) (.tmp 17) rfl rfl rfl hjn Yba.underlying24 size30) hHeld ?_
        simp only [List.getElem_toArray, List.getElem_cons_zero, List.getElem_cons_succ, Act.put, List.setIfInBounds_toArray, List.set_cons_zero, List.set_cons_succ]
        refine wpAnyH_ready (rs := [15]) (by kernel_rfl) (by simp) ?_
        refine AllReadyH.cons rfl (fun K hK => ?_) AllReadyH.nil
        rw [if_pos (by rfl)]
        refine wp_store_mid 30 (.tmp 27) (.tmp 25) rfl b (j * 3) _ rfl rfl HTJ.out size30 (node_one _) ?_
        refine hK.out _ _ trivial (fun _ => ?_)
        clear hK K
        simp only [List.getElem_toArray, List.getElem_cons_zero, List.getElem_cons_succ, Act.put]
        refine wpAnyH_done (by kernel_rfl) ?_ _
        go_wp2
        go_roundg (n - (t + 1))
        case measure => have := HGK.out; omega
        case rel => exact ⟨t + 1, rfl, by go_num, by have := HJ.out; go_num, by omega, HNN.out, HSS.out⟩
      · rw [if_pos (by rfl)]
        refine wp_load_mid 30 (.tmp 24) rfl b (t * 3) rfl (nodeC (f t)) _ HRT.out Yba.underlying30 rfl size30 ?_
        refine hK.out _ _ trivial (fun _ => ?_)
        clear hK K
        simp only [List.getElem_toArray, List.getElem_cons_zero, List.getElem_cons_succ, Act.put, List.setIfInBounds_toArray, List.set_cons_zero, List.set_cons_succ]
        refine wpAnyH_ready (rs := [7]) (by kernel_rfl) (by simp) ?_
        refine AllReadyH.cons rfl (fun K hK => ?_) AllReadyH.nil
        rw [if_pos (by rfl)]
        refine wp_load_mid 30 (.tmp 20) rfl b (j * 3) rfl (nodeC (f j)) _ HRJ.out Yba.underlying30 rfl size30 ?_
        refine hK.out _ _ trivial (fun _ => ?_)
        clear hK K
        simp only [List.getElem_toArray, List.getElem_cons_zero, List.getElem_cons_succ, Act.put, List.setIfInBounds_toArray, List.set_cons_zero, List.set_cons_succ]
        refine wpAnyH_take (i := 12) (v := .pointer (some ⟨b, t * 3, none⟩)) rfl (by kernel_rfl) (by kernel_rfl) (by kernel_rfl) (fun _ _ _ h => h) (yi_index (by rfl) 24 (.tmp 14) (.tmp 15) rfl rfl rfl htn Yba.underlying24 size30) hHeld ?_
        simp only [List.getElem_toArray, List.getElem_cons_zero, List.getElem_cons_succ, Act.put, List.setIfInBounds_toArray, List.set_cons_zero, List.set_cons_succ]
        refine wpAnyH_ready (rs := [13]) (by kernel_rfl) (by simp) ?_
        refine AllReadyH.cons rfl (fun K hK => ?_) AllReadyH.nil
        rw [if_pos (by rfl)]
        refine wp_store_mid 30 (.tmp 26) (.tmp 21) rfl b (t * 3) _ rfl rfl HTT.out size30 (node_one _) ?_
        refine hK.out _ _ trivial (fun _ => ?_)
        clear hK K
        simp only [List.getElem_toArray, List.getElem_cons_zero, List.getElem_cons_succ, Act.put]
        refine wpAnyH_take (i := 14) (v := .pointer (some ⟨b, j * 3, none⟩)) rfl (by kernel_rfl) (by kernel_rfl) (by kernel_rfl) (fun _ _ _ h => h) (yi_index (by rfl) 24 (.tmp 16) (.tmp 17) rfl rfl rfl hjn Yba.underlying24 size30) hHeld ?_
        simp only [List.getElem_toArray, List.getElem_cons_zero, List.getElem_cons_succ, Act.put, List.setIfInBounds_toArray, List.set_cons_zero, List.set_cons_succ]
        refine wpAnyH_ready (rs := [15]) (by kernel_rfl) (by simp) ?_
        refine AllReadyH.cons rfl (fun K hK => ?_) AllReadyH.nil
        rw [if_pos (by rfl)]
        refine wp_store_mid 30 (.tmp 27) (.tmp 25) rfl b (j * 3) _ rfl rfl HTJ.out size30 (node_one _) ?_
        refine hK.out _ _ trivial (fun _ => ?_)
        clear hK K
        simp only [List.getElem_toArray, List.getElem_cons_zero, List.getElem_cons_succ, Act.put]
        refine wpAnyH_done (by kernel_rfl) ?_ _
        go_wp2
        go_roundg (n - (t + 1))
        case measure => have := HGK.out; omega
        case rel => exact ⟨t + 1, rfl, by go_num, by have := HJ.out; go_num, by omega, HNN.out, HSS.out⟩
    · have htt : ¬ ((t : Int) < (n : Int) - 1 - t) := by omega
      have HN' : Hid (NodeRow wr b n (fun i => f (n - 1 - i))) := hN.congr (fun i hi => by
        unfold swapF
        by_cases h : i < t ∨ n - 1 - t < i
        · rw [if_pos h]
        · rw [if_neg h, show n - 1 - i = i by omega])
      clear hN hS hgk
      go_wp2
      go_end0
      exact ⟨rfl, HN'.out, HS.out⟩
end Go.Proofs.Ybulkbovo
