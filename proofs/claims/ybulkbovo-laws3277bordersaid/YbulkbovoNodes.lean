/-
  zzs3277bnodes, slices.Clone, slices.Reverse at nodes. Of this seat's own.
-/
import Derived.Test.YbulkbovoParts
import Derived.Lib.SliceRun
namespace Go.Proofs.Ybulkbovo
open Go.RowKit

theorem NodeRow.push {W : World} {b t : Nat} {f : Nat → ByteArray} (h : NodeRow W b t f) (ht : W.there b (t * 3) 3) : NodeRow (W.setCells b (t * 3) (nodeC (f t))) b (t + 1) f := by
  obtain ⟨c, h1, h2, h3⟩ := h
  have hs : t * 3 + 3 ≤ c.size := by
    have := (ht 2 (by omega)).1
    rw [cell_of h1] at this
    simp at this
    omega
  obtain ⟨c', d1, d2, d3, d4⟩ := heap_setCells_at (nodeC (f t)) (t * 3) h1 hs
  refine ⟨c', d1, by omega, fun k hk j hj => ?_⟩
  by_cases e : k = t
  · subst e
    exact d3 j hj
  · rw [d4 _ (by show k * 3 + j < t * 3 ∨ t * 3 + 3 ≤ k * 3 + j; omega), h3 k (by omega) j hj]

theorem nodes_nil (w : World) : Calls Yba.prog 5 #[.slice none 0 0] w fun r w' => r = .returned (.slice none 0 0) ∧ w' = w := by
  have heq := fun W => Go.Lib.run_eql_slice_nil (P := Yba.prog) W 22 9 none 0 0 0 0 Yba.underlying22
  go_enter Yba.func5, Yba.ntmps5
  go_wp2
  go_ret
  exact ⟨rfl, rfl⟩

set_option maxRecDepth 100000 in
set_option maxHeartbeats 1000000 in
theorem nodes_some (a : Addr) (n c : Nat) (f : Nat → ByteArray) (w : World) (hn : n ≤ 1024) (hA : ArgStr w (some a) n f) :
    Calls Yba.prog 5 #[.slice (some a) n c] w fun r w' => r = .returned (.slice (some ⟨w.heap.size, 0, none⟩) n n) ∧ NodeRow w' w.heap.size n f ∧ Below w.heap.size w w' := by
  have mk1 := fun W => run_make (P := Yba.prog) W 24 30 Yba.t30 _ Yba.underlying24 info30 rfl .i64 .i64 (n : Int) (n : Int) (by omega) (by omega) (by show (32 : Int) * _ ≤ _; omega) (by omega)
  simp only [Int.toNat_natCast] at mk1
  obtain ⟨A1, hA1⟩ : ∃ A1, madeCells (Value.agg #[.int .u64 0, .int .u64 0, .string ⟨#[]⟩]).cells (n * 3) = A1 := ⟨_, rfl⟩
  have mk1' : ∀ w, (Instr.makeSlice 24 (.int .i64 (n : Int)) (.int .i64 (n : Int))).run Yba.prog w = .ok (.slice (some ⟨w.heap.size, 0, none⟩) n n) (w.alloc (.cells A1 30)) := fun w => by rw [← hA1]; exact mk1 w
  have HS1 : Hid (A1.size = n * 3) := by show _ = _; rw [← hA1]; simp [madeCells]
  have HA : Hid (ArgStr w (some a) n f) := hA
  have heq := fun W => Go.Lib.run_eql_slice_nil (P := Yba.prog) W 22 9 (some a) n c 0 0 Yba.underlying22
  clear mk1 hA1 hA
  go_enter Yba.func5, Yba.ntmps5
  go_wp2
  go_loopg [4] n (fun k i wr => ∃ t : Nat, t ≤ n ∧ k = n - t ∧ i = .int .i64 (t : Int) ∧ NodeRow wr w.heap.size t f ∧ wr.there w.heap.size 0 (n * 3) ∧ Below w.heap.size w wr)
  case atStart =>
    refine ⟨0, Nat.zero_le _, rfl, rfl, ⟨A1, heap_alloc_at w _, by omega, fun i hi => absurd hi (by omega)⟩, fun j hj => ⟨?_, thawed_of (heap_alloc_at w _) _ _⟩, (Below.refl _ w).alloc (Nat.le_refl _) _⟩
    rw [cell_of (heap_alloc_at w _)]
    have := HS1.out
    simp
    omega
  case round =>
    obtain ⟨t, htn, hgk, rfl, hN, hth, hB⟩ := hrel
    have HGK : Hid (gk = n - t) := hgk
    have HN : Hid _ := hN
    have HTH : Hid _ := hth
    have HB : Hid _ := hB
    by_cases hti : t < n
    · obtain ⟨b, o, hab, h2, h3⟩ := HA.out (by omega)
      cases hab
      have hc := (hB.cell (p := ⟨b, o + t, none⟩) h2).trans (h3 t hti)
      have HT : Hid (wr.there w.heap.size (t * 3) 3) := fun j hj => by
        have := hth (t * 3 + j) (by omega)
        rwa [Nat.zero_add] at this
      have HN' : Hid (NodeRow (wr.setCells w.heap.size (t * 3) (nodeC (f t))) w.heap.size (t + 1) f) := hN.push HT.out
      have HTH' : Hid ((wr.setCells w.heap.size (t * 3) (nodeC (f t))).there w.heap.size 0 (n * 3)) := World.there_setCells hth _ _ _
      have HB' : Hid (Below w.heap.size w (wr.setCells w.heap.size (t * 3) (nodeC (f t)))) := Below.setCells hB (Nat.le_refl _) _ _
      clear h3 hN hth hB hgk
      go_wp2_with (refine wpList_store_mid rfl 30 (.tmp 23) (.tmp 22) rfl _ _ _ rfl rfl HT.out size30 (node_one _) ?_)
      go_roundg (n - (t + 1))
      case measure => have := HGK.out; omega
      case rel => exact ⟨t + 1, by omega, rfl, by go_num, HN'.out, HTH'.out, HB'.out⟩
    · have hte : t = n := by omega
      rw [hte] at hN
      have HN' : Hid (NodeRow wr w.heap.size n f) := hN
      clear hN hth hgk hte
      go_wp2
      go_ret
      exact ⟨rfl, HN'.out, HB.out⟩

theorem clone_nil (w : World) : Calls Yba.prog 9 #[.slice none 0 0] w fun r w' => r = .returned (.slice none 0 0) ∧ w' = w := by
  have heq := fun W => Go.Lib.run_eql_slice_nil (P := Yba.prog) W 24 30 none 0 0 0 0 Yba.underlying24
  go_enter Yba.func9, Yba.ntmps9
  go_wp2
  go_ret
  exact ⟨rfl, rfl⟩

set_option maxRecDepth 100000 in
set_option maxHeartbeats 1000000 in
theorem clone_some (b n c : Nat) (f : Nat → ByteArray) (w : World) (hn : n ≤ 1024) (hA : NodeRow w b n f) :
    Calls Yba.prog 9 #[.slice (some ⟨b, 0, none⟩) n c] w fun r w' => ∃ b' cap, r = .returned (.slice (some ⟨b', 0, none⟩) n cap) ∧ NodeRow w' b' n f ∧ w.heap.size ≤ b' ∧ Below w.heap.size w w' := by
  have heq := fun W => Go.Lib.run_eql_slice_nil (P := Yba.prog) W 24 30 (some ⟨b, 0, none⟩) n c 0 0 Yba.underlying24
  obtain ⟨cc, h1, h2, h3⟩ := hA
  have hlt := lt_of_heap h1
  have HL : Hid ((cc.toList.take (n * 3)).length = n * 3) := by show _ = _; simp; omega
  have HNW : Hid (∀ j u, (cc.toList.take (n * 3))[j]? = some u → (w.alloc (.cells #[] 30)).cell? ((⟨b, 0, none⟩ : Addr).add j) = some u) := fun j u hu => by
    rw [Addr.add_mid, Nat.zero_add, cell_of ((heap_alloc_lt w _ hlt).trans h1)]
    rw [List.getElem?_take] at hu
    split at hu
    · simpa using hu
    · cases hu
  have HON : Hid (∀ u ∈ cc.toList.take (n * 3), u.oneCell' = true) := fun u hu => by
    obtain ⟨j, hj⟩ := List.mem_iff_getElem?.1 hu
    have hj3 : j < n * 3 := by have := (List.getElem?_eq_some_iff.1 hj).1; rwa [HL.out] at this
    rw [List.getElem?_take, if_pos hj3, Array.getElem?_toList] at hj
    have e := h3 (j / 3) (by omega) (j % 3) (Nat.mod_lt _ (by omega))
    rw [show j / 3 * 3 + j % 3 = j by omega, hj] at e
    have : j % 3 = 0 ∨ j % 3 = 1 ∨ j % 3 = 2 := by omega
    rcases this with h | h | h <;> (rw [h] at e; simp [nodeC] at e; subst e; rfl)
  have HOW : Hid ((w.alloc (.cells #[] 30)).ownsRow w.heap.size 30 3 (.slice (some ⟨w.heap.size, 0, none⟩) 0 0) 0 []) := World.ownsRow_made w #[] 0 (Nat.le_refl _) (by unfold maxLen; omega) rfl
  have HF : Hid (∀ i, i < n → ∀ j, j < 3 → (cc.toList.take (n * 3))[i * 3 + j]? = (nodeC (f i))[j]?) := fun i hi j hj => by
    rw [List.getElem?_take, if_pos (by omega), Array.getElem?_toList]
    exact h3 i hi j hj
  generalize cc.toList.take (n * 3) = news at HL HNW HON HF
  clear h1 h2 h3 hlt
  go_enter Yba.func9, Yba.ntmps9
  go_wp2_with (at_builtin; refine wpList_append_own _ rfl (.tmp 5) (.tmp 6) 24 rfl w.heap.size 30 Yba.t30 _ 3 32 Yba.underlying24 info30 rfl rfl rfl rfl (by omega) _ 0 [] rfl HOW.out ⟨b, 0, none⟩ n c news rfl HL.out HNW.out HON.out (by unfold maxLen; omega) (by omega) (by simp) ?_; intro v' w2 hown hgr hnil)
  go_ret
  rcases hown.2 with ⟨e, _⟩ | ⟨g, cap, cur, rfl, hb, hg, _, _, hs, htk⟩
  · have := (hnil.1 e).1
    cases this
  refine ⟨g, cap, by rw [Nat.zero_add]; rfl, ⟨cur, hg, by omega, fun i hi j hj => ?_⟩, hb, ((Below.refl _ w).alloc (Nat.le_refl _) _).grown hgr (by simp) (fun k hk => by cases hk; exact Nat.le_refl _)⟩
  rw [← HF.out i hi j hj]
  have e2 : cur.toList.take (n * 3) = news := by simpa using htk
  rw [← e2, List.getElem?_take, if_pos (by omega), Array.getElem?_toList]
end Go.Proofs.Ybulkbovo
