/-
  (*blockMarks).set. Of this seat's own.
-/
import Derived.Test.YbulkboxsParts
namespace Go.Proofs.Ybulkboxs
open Go.RowKit

def ptrs (pg : Nat → Nat) (np : Nat) : List Value := (List.range np).map fun p => .pointer (some ⟨pg p, 0, none⟩)
def updI (m : Nat → Int) (i : Nat) (x : Int) : Nat → Int := fun k => if k = i then x else m k

def PageAt (W : World) (b p : Nat) (m : Nat → Int) : Prop := ∃ c, W.heap[b]? = some (.cells c 61 (0, 0)) ∧ c.size = 512 ∧ ∀ j, j < 512 → c[j]? = some (.int .u64 (m (p * 512 + j)))

/-- THE MARKS: the directory's pointer d, np pages. -/
structure Mk (N : Nat) (W : World) (d : Value) (np : Nat) (pg : Nat → Nat) (m : Nat → Int) : Prop where
  dir : (np = 0 ∧ d = .pointer none) ∨ ∃ db gb cap, d = .pointer (some ⟨db, 0, none⟩) ∧ W.heap[db]? = some (.cells #[.slice (some ⟨gb, 0, none⟩) np cap] 52 (0, 0)) ∧ W.ownsRow N 56 1 (.slice (some ⟨gb, 0, none⟩) np cap) np (ptrs pg np)
  page : ∀ p, p < np → N ≤ pg p ∧ PageAt W (pg p) p m
  inj : ∀ p q, p < np → q < np → p ≠ q → pg p ≠ pg q
  zero : ∀ i, np * 512 ≤ i → m i = 0

theorem Mk.fr {N : Nat} {W W' : World} {d : Value} {np : Nat} {pg : Nat → Nat} {m : Nat → Int} {ts : List TypeId} (h : Mk N W d np pg m) (hf : Fr N ts W W') (h52 : 52 ∉ ts) (h56 : 56 ∉ ts) (h61 : 61 ∉ ts) : Mk N W' d np pg m := by
  refine ⟨?_, fun p hp => ?_, h.inj, h.zero⟩
  · rcases h.dir with h0 | ⟨db, gb, cap, e, h1, h2⟩
    · exact .inl h0
    · exact .inr ⟨db, gb, cap, e, hf.blk h1 h52, hf.own h2 h56⟩
  · obtain ⟨h1, c, h2, h3⟩ := h.page p hp
    exact ⟨h1, c, hf.blk h2 h61, h3⟩

/-- One mark is stored. -/
theorem Mk.put {N : Nat} {W : World} {d : Value} {np : Nat} {pg : Nat → Nat} {m : Nat → Int} (h : Mk N W d np pg m) {p j : Nat} (hp : p < np) (hj : j < 512) (x : Int) :
    (∃ u, W.cell? ⟨pg p, j, none⟩ = some u) ∧ W.frozen? ⟨pg p, j, none⟩ = false ∧ Mk N (W.setCell ⟨pg p, j, none⟩ (.int .u64 x)) d np pg (updI m (p * 512 + j) x) ∧ Fr N [61] W (W.setCell ⟨pg p, j, none⟩ (.int .u64 x)) := by
  obtain ⟨hN, c, h1, h2, h3⟩ := h.page p hp
  refine ⟨⟨_, by rw [cell_of h1]; exact h3 j hj⟩, thawed_of h1 _ _, ⟨?_, fun q hq => ?_, h.inj, fun i hi => ?_⟩, (Fr.refl N [61] W).setCell h1 (by simp) hN _ _⟩
  · rcases h.dir with h0 | ⟨db, gb, cap, e, d1, d2⟩
    · exact .inl h0
    · have hf : Fr N [61] W (W.setCell ⟨pg p, j, none⟩ (.int .u64 x)) := (Fr.refl N [61] W).setCell h1 (by simp) hN _ _
      exact .inr ⟨db, gb, cap, e, hf.blk d1 (by decide), hf.own d2 (by decide)⟩
  · obtain ⟨hN', c', e1, e2, e3⟩ := h.page q hq
    refine ⟨hN', ?_⟩
    by_cases e : q = p
    · subst e
      refine ⟨_, heap_set_at h1 j _, by simp [h2], fun k hk => ?_⟩
      rw [Array.getElem?_setIfInBounds]
      unfold updI
      by_cases ek : j = k
      · subst ek
        rw [if_pos rfl, if_pos (by omega), if_pos rfl]
      · rw [if_neg ek, if_neg (by omega), h3 k hk]
    · refine ⟨c', by rw [heap_set_other _ (h.inj q p hq hp e)]; exact e1, e2, fun k hk => ?_⟩
      unfold updI
      rw [if_neg (by omega)]
      exact e3 k hk
  · unfold updI
    rw [if_neg (by omega)]
    exact h.zero i hi

set_option maxRecDepth 100000 in
set_option maxHeartbeats 1000000 in
theorem set_in (ub : Nat) (C : Array Value) (d : Value) {N : Nat} {W : World} {np : Nat} {pg : Nat → Nat} {m : Nat → Int} (hu : W.heap[ub]? = some (.cells C 46 (0, 0))) (hd : C[4]? = some d) (h : Mk N W d np pg m) (i : Nat) (hi : i < np * 512) (hi2 : i ≤ 100000) (x : Int) :
    Calls Yba.prog 5 #[.pointer (some ⟨ub, 4, none⟩), .int .i64 (i : Int), .int .u64 x] W fun r w' => r = .returned (.tuple #[]) ∧ Mk N w' d np pg (updI m i x) ∧ Fr N [61] W w' := by
  rcases h.dir with ⟨h0, _⟩ | ⟨db, gb, cap, rfl, h1, h2⟩
  · omega
  obtain ⟨p, hp⟩ : ∃ p : Nat, i / 512 = p := ⟨_, rfl⟩
  obtain ⟨j, hj⟩ : ∃ j : Nat, i % 512 = j := ⟨_, rfl⟩
  have hpn : p < np := by omega
  have hj5 : j < 512 := by omega
  have hq : (i : Int) / 512 = (p : Int) := by omega
  have hr : (i : Int) % 512 = (j : Int) := by omega
  have hij : p * 512 + j = i := by omega
  obtain ⟨⟨u, hcu⟩, hfu, hM, hF⟩ := h.put hpn hj5 x
  rw [hij] at hM
  have HM : Hid _ := hM
  have HF : Hid _ := hF
  have HLD : Hid (Calls Yba.prog 9 _ W _) := loadP_some ub db _ W (by rw [cell_of hu]; exact hd) h1
  have c0 : W.cell? ⟨db, 0, none⟩ = some (.slice (some ⟨gb, 0, none⟩) np cap) := by rw [cell_of h1]; rfl
  have c1 : W.cell? ⟨gb, p, none⟩ = some (.pointer (some ⟨pg p, 0, none⟩)) := by
    rw [h2.cellAt p (by omega)]
    simp [ptrs, hpn]
  have HST : Hid (Calls Yba.prog 12 _ W _) := storeU (pg p) j x u W hcu hfu
  clear hu hd h h1 h2 hM hF hcu hfu hij hp hj
  go_enter Yba.func5, Yba.ntmps5
  go_wp2_with (first | (go_at_call 9; refine HLD.out.mono ?_; rintro r w' ⟨rfl, hw'⟩; obtain rfl : W = w' := hw'.symm) | (go_at_call 12; refine HST.out.mono ?_; rintro r w' ⟨rfl, rfl⟩))
  go_end0
  exact ⟨rfl, HM.out, HF.out⟩

theorem zero61 (w : World) : (zeroValue 61).run Yba.prog w = .ok (.agg (Array.replicate 512 (.int .u64 0))) w := by kernel_rfl
theorem info56 : Yba.prog.info? 56 = some Yba.t56 := by kernel_rfl

/-- The directory, one page longer, in new memory. -/
structure Dr (W W2 : World) (db pn np : Nat) (pg : Nat → Nat) (v : Value) : Prop where
  dir : W2.heap[db]? = some (.cells #[v] 52 (0, 0))
  own : W2.ownsRow W.heap.size 56 1 v (np + 1) (ptrs pg np ++ [.pointer (some ⟨pn, 0, none⟩)])
  page : ∃ Z, W2.heap[pn]? = some (.cells Z 61 (0, 0)) ∧ Z.size = 512 ∧ ∀ k, k < 512 → Z[k]? = some (.int .u64 0)
  below : Below W.heap.size W W2
  hpn : W.heap.size ≤ pn
  hdb : W.heap.size ≤ db

theorem own_form {W : World} {b : Nat} {e : TypeId} {v : Value} {n : Nat} {xs : List Value} (h : W.ownsRow b e 1 v n xs) : ∃ a c, v = .slice a n c := by
  rcases h.2 with ⟨rfl, rfl⟩ | ⟨g, cap, cur, rfl, _⟩
  · exact ⟨none, 0, rfl⟩
  · exact ⟨_, cap, rfl⟩
/-- A block of another type is not the row's. -/
theorem own_ne {W : World} {b : Nat} {e : TypeId} {v : Value} {n : Nat} {xs : List Value} (h : W.ownsRow b e 1 v n xs) {k : Nat} {a : Array Value} {t : TypeId} (hk : W.heap[k]? = some (.cells a t (0, 0))) (ht : t ≠ e) : some k ≠ v.ownBlock := by
  intro e1
  rcases h.2 with ⟨rfl, _⟩ | ⟨g, cap, cur, rfl, _, hg, _⟩
  · cases e1
  · have e2 : k = g := by simpa [Value.ownBlock] using e1
    subst e2
    rw [hk] at hg
    simp at hg
    exact ht hg.2

theorem Dr.make {W w1 w3 : World} {db np : Nat} {pg : Nat → Nat} {v1 v3 : Value} {Z : Array Value} {o : Obj} (hd : w1.heap[db]? = some (.cells #[v1] 52 (0, 0))) (ho1 : w1.ownsRow W.heap.size 56 1 v1 np (ptrs pg np)) (hB : Below W.heap.size W w1) (hdb : W.heap.size ≤ db)
    (hZ : Z.size = 512 ∧ ∀ k, k < 512 → Z[k]? = some (.int .u64 0)) (ho3 : w3.ownsRow W.heap.size 56 1 v3 (np + 1) (ptrs pg np ++ [.pointer (some ⟨w1.heap.size, 0, none⟩)])) (hg : ((w1.alloc (.cells Z 61)).alloc o).grownBy w3 v1.ownBlock) :
    (∃ u, w3.cell? ⟨db, 0, none⟩ = some u) ∧ w3.frozen? ⟨db, 0, none⟩ = false ∧ Dr W (w3.setCell ⟨db, 0, none⟩ v3) db w1.heap.size np pg v3 := by
  have hdl := lt_of_heap hd
  have hs := hB.size
  have e0 : ((w1.alloc (.cells Z 61)).alloc o).heap[db]? = some (.cells #[v1] 52 (0, 0)) := (heap_alloc_lt _ _ (by simp; omega)).trans ((heap_alloc_lt _ _ hdl).trans hd)
  have e1 : w3.heap[db]? = some (.cells #[v1] 52 (0, 0)) := (hg.block db (by simp; omega) (own_ne ho1 hd (by decide))).trans e0
  have p0 : ((w1.alloc (.cells Z 61)).alloc o).heap[w1.heap.size]? = some (.cells Z 61 (0, 0)) := (heap_alloc_lt _ _ (by simp)).trans (heap_alloc_at w1 _)
  have p1 : w3.heap[w1.heap.size]? = some (.cells Z 61 (0, 0)) := by
    refine (hg.block _ (by simp; omega) ?_).trans p0
    intro e2
    have := (ho1.lt _ e2.symm).2
    omega
  have hB3 : Below W.heap.size W w3 := ((hB.alloc hs _).alloc (by simp; omega) o).grown hg (by simp; omega) (fun k hk => (ho1.lt k hk).1)
  refine ⟨⟨v1, by rw [cell_of e1]; rfl⟩, thawed_of e1 _ _, ⟨heap_set_at e1 0 v3, ?_, ⟨Z, ?_, hZ⟩, hB3.setCell hdb _, hs, hdb⟩⟩
  · refine ho3.kept (row := some db) ⟨rfl, rfl, rfl, by simp, fun k _ hk => heap_set_other _ (fun e1 => hk (by rw [e1])) _ _ _⟩ ?_
    right
    intro e2
    exact own_ne ho3 e1 (by decide) e2.symm
  · rw [heap_set_other _ (by omega)]
    exact p1

theorem Dr.finish {N : Nat} {W wr : World} {db pn np : Nat} {pg : Nat → Nat} {v d : Value} {m : Nat → Int} {ub : Nat} {C : Array Value} (hD : Dr W wr db pn np pg v) (hM : Mk N W d np pg m) (hu : W.heap[ub]? = some (.cells C 46 (0, 0))) (hN : N ≤ ub) (_hNW : N ≤ W.heap.size)
    (h4 : C[4]? = some d) {j : Nat} (hj : j < 512) (x : Int) :
    wr.cell? ⟨ub, 4, none⟩ = some d ∧ wr.frozen? ⟨ub, 4, none⟩ = false ∧ wr.cell? ⟨db, 0, none⟩ = some v ∧ (∃ g c, v = .slice (some ⟨g, 0, none⟩) (np + 1) c ∧ (wr.setCell ⟨ub, 4, none⟩ (.pointer (some ⟨db, 0, none⟩))).cell? ⟨g, np, none⟩ = some (.pointer (some ⟨pn, 0, none⟩))) ∧
    (wr.setCell ⟨ub, 4, none⟩ (.pointer (some ⟨db, 0, none⟩))).cell? ⟨db, 0, none⟩ = some v ∧
    (∃ u, (wr.setCell ⟨ub, 4, none⟩ (.pointer (some ⟨db, 0, none⟩))).cell? ⟨pn, j, none⟩ = some u) ∧ (wr.setCell ⟨ub, 4, none⟩ (.pointer (some ⟨db, 0, none⟩))).frozen? ⟨pn, j, none⟩ = false ∧
    ∃ pg', ((wr.setCell ⟨ub, 4, none⟩ (.pointer (some ⟨db, 0, none⟩))).setCell ⟨pn, j, none⟩ (.int .u64 x)).heap[ub]? = some (.cells (C.setIfInBounds 4 (.pointer (some ⟨db, 0, none⟩))) 46 (0, 0)) ∧
      Mk N ((wr.setCell ⟨ub, 4, none⟩ (.pointer (some ⟨db, 0, none⟩))).setCell ⟨pn, j, none⟩ (.int .u64 x)) (.pointer (some ⟨db, 0, none⟩)) (np + 1) pg' (updI m (np * 512 + j) x) ∧
      Fr N [46, 61] W ((wr.setCell ⟨ub, 4, none⟩ (.pointer (some ⟨db, 0, none⟩))).setCell ⟨pn, j, none⟩ (.int .u64 x)) := by
  obtain ⟨Z, z1, z2, z3⟩ := hD.page
  have hub := lt_of_heap hu
  have eu : wr.heap[ub]? = some (.cells C 46 (0, 0)) := (hD.below.block ub hub).trans hu
  have hpn := hD.hpn
  have hdb := hD.hdb
  obtain ⟨W5, hW5⟩ : ∃ W5, wr.setCell ⟨ub, 4, none⟩ (.pointer (some ⟨db, 0, none⟩)) = W5 := ⟨_, rfl⟩
  have eo : ∀ k, k ≠ ub → W5.heap[k]? = wr.heap[k]? := fun k hk => by rw [← hW5]; exact heap_set_other _ hk _ _ _
  have e5 : W5.heap[ub]? = some (.cells (C.setIfInBounds 4 (.pointer (some ⟨db, 0, none⟩))) 46 (0, 0)) := by rw [← hW5]; exact heap_set_at eu 4 _
  have d5 : W5.heap[db]? = some (.cells #[v] 52 (0, 0)) := (eo db (by omega)).trans hD.dir
  have p5 : W5.heap[pn]? = some (.cells Z 61 (0, 0)) := (eo pn (by omega)).trans z1
  have o5 : W5.ownsRow W.heap.size 56 1 v (np + 1) (ptrs pg np ++ [.pointer (some ⟨pn, 0, none⟩)]) := by
    refine ⟨hD.own.1, ?_⟩
    rcases hD.own.2 with hn | ⟨g, cap, cur, rfl, hb, hgg, rest⟩
    · exact .inl hn
    · exact .inr ⟨g, cap, cur, rfl, hb, (eo g (by omega)).trans hgg, rest⟩
  have f0 : Fr N [46, 61] W wr := ⟨hD.below.os, hD.below.tape, hD.below.output, hD.below.size, fun k hk => hD.below.block k (by omega), fun k a t e _ => hD.below.block k (lt_of_heap e)⟩
  have f5 : Fr N [46, 61] W W5 := by rw [← hW5]; exact f0.setCell eu (by simp) hN _ _
  have hpt : ptrs (fun p => if p = np then pn else pg p) (np + 1) = ptrs pg np ++ [.pointer (some ⟨pn, 0, none⟩)] := by
    unfold ptrs
    rw [List.range_succ, List.map_append, List.map_singleton]
    have e1 : (List.range np).map (fun p => Value.pointer (some ⟨(fun p => if p = np then pn else pg p) p, 0, none⟩)) = (List.range np).map (fun p => Value.pointer (some ⟨pg p, 0, none⟩)) := List.map_congr_left (fun p hp => by
      have : p ≠ np := by have := List.mem_range.1 hp; omega
      simp [this])
    rw [e1]
    simp
  have oform : ∃ g c, v = .slice (some ⟨g, 0, none⟩) (np + 1) c := by
    rcases hD.own.2 with ⟨_, h0⟩ | ⟨g, cap, cur, rfl, _⟩
    · omega
    · exact ⟨g, cap, rfl⟩
  obtain ⟨g, c, rfl⟩ := oform
  have M5 : Mk N W5 (.pointer (some ⟨db, 0, none⟩)) (np + 1) (fun p => if p = np then pn else pg p) m := by
    refine ⟨.inr ⟨db, g, c, rfl, d5, ?_⟩, fun p hp => ?_, fun p q hp hq hne => ?_, fun i hi => hM.zero i (Nat.le_trans (Nat.mul_le_mul_right 512 (Nat.le_succ np)) hi)⟩
    · rw [hpt]
      refine ⟨o5.1, ?_⟩
      rcases o5.2 with hn | ⟨g', cap', cur, e, hb, rest⟩
      · exact .inl hn
      · exact .inr ⟨g', cap', cur, e, by omega, rest⟩
    · by_cases e : p = np
      · subst e
        rw [if_pos rfl]
        refine ⟨by omega, Z, p5, z2, fun k hk => ?_⟩
        rw [z3 k hk, hM.zero _ (by omega)]
      · rw [if_neg e]
        obtain ⟨a1, c', a2, a3⟩ := hM.page p (by omega)
        have hl := lt_of_heap a2
        refine ⟨a1, c', ?_, a3⟩
        rw [eo (pg p) (by rintro rfl; rw [hu] at a2; simp at a2), hD.below.block _ hl]
        exact a2
    · have lt : ∀ r, r < np → pg r < W.heap.size := fun r hr => by obtain ⟨_, c', a2, _⟩ := hM.page r hr; exact lt_of_heap a2
      by_cases e1 : p = np
      · by_cases e2 : q = np
        · omega
        · rw [if_pos e1, if_neg e2]
          have := lt q (by omega)
          omega
      · by_cases e2 : q = np
        · rw [if_neg e1, if_pos e2]
          have := lt p (by omega)
          omega
        · rw [if_neg e1, if_neg e2]
          exact hM.inj p q (by omega) (by omega) hne
  obtain ⟨q1, q2, q3, q4⟩ := M5.put (p := np) (by omega) hj x
  rw [if_pos rfl] at q1 q2 q3 q4
  rw [hW5]
  refine ⟨by rw [cell_of eu]; exact h4, thawed_of eu _ _, by rw [cell_of hD.dir]; rfl, ⟨g, c, rfl, ?_⟩, by rw [cell_of d5]; rfl, q1, q2, _, ?_, q3, f5.trans (q4.weaken (by simp))⟩
  · rw [o5.cellAt np (by omega)]
    simp [ptrs]
  · rw [heap_set_other _ (by rintro rfl; rw [p5] at e5; simp at e5)]
    exact e5

theorem ptrs_one (pg : Nat → Nat) (np : Nat) : ∀ u ∈ ptrs pg np, u.oneCell' = true := fun u hu => by
  obtain ⟨p, _, rfl⟩ := List.mem_map.1 hu
  rfl

set_option maxRecDepth 100000 in
set_option maxHeartbeats 1000000 in
theorem set_grow (ub : Nat) (C : Array Value) (d : Value) {N : Nat} {W : World} {np : Nat} {pg : Nat → Nat} {m : Nat → Int} (hu : W.heap[ub]? = some (.cells C 46 (0, 0))) (hC : C.size = 10) (hd : C[4]? = some d) (h : Mk N W d np pg m) (hNu : N ≤ ub) (hN : N ≤ W.heap.size) (i : Nat) (hi : i / 512 = np) (hn : np ≤ 100) (x : Int) :
    Calls Yba.prog 5 #[.pointer (some ⟨ub, 4, none⟩), .int .i64 (i : Int), .int .u64 x] W fun r w' => r = .returned (.tuple #[]) ∧ ∃ d' pg', w'.heap[ub]? = some (.cells (C.setIfInBounds 4 d') 46 (0, 0)) ∧ Mk N w' d' (np + 1) pg' (updI m i x) ∧ Fr N [46, 61] W w' := by
  obtain ⟨j, hj⟩ : ∃ j : Nat, i % 512 = j := ⟨_, rfl⟩
  have hj5 : j < 512 := by omega
  have hq : (i : Int) / 512 = (np : Int) := by omega
  have hr : (i : Int) % 512 = (j : Int) := by omega
  obtain ⟨Z, hZ⟩ : ∃ Z, Array.replicate 512 (Value.int .u64 0) = Z := ⟨_, rfl⟩
  have hal : ∀ w, (zeroValue 61).run Yba.prog w = .ok (.agg Z) w := fun w => by rw [← hZ]; exact zero61 w
  have HZ : Hid (Z.size = 512 ∧ ∀ k, k < 512 → Z[k]? = some (.int .u64 0)) := by
    rw [← hZ]
    exact ⟨by simp, fun k hk => by simp [hk]⟩
  clear hZ
  have HU : Hid (W.heap[ub]? = some (.cells C 46 (0, 0))) := hu
  have HCD : Hid (C[4]? = some d) := hd
  have HMK : Hid (Mk N W d np pg m) := h
  have HIJ : Hid (i = np * 512 + j) := by show _ = _; omega
  have HNN : Hid (N ≤ ub ∧ N ≤ W.heap.size ∧ C.size = 10) := ⟨hNu, hN, hC⟩
  have HO0 : Hid (W.ownsRow W.heap.size 56 1 (.slice none 0 0) 0 []) := World.ownsRow_nil _ _ _ _
  have HLD : Hid (Calls Yba.prog 9 #[.pointer (some ⟨ub, 4, none⟩)] W fun r w' => r = .returned d ∧ w' = W) := by
    rcases h.dir with ⟨h0, rfl⟩ | ⟨db, gb, cap, rfl, h1, h2⟩
    · exact loadP_nil _ W (by rw [cell_of hu]; exact hd)
    · exact loadP_some ub db _ W (by rw [cell_of hu]; exact hd) h1
  clear hu hd hj hi hNu hN hC h
  go_enter Yba.func5, Yba.ntmps5
  go_upto_if 14 with (go_at_call 9; refine HLD.out.mono ?_; rintro r w' ⟨rfl, hw'⟩; obtain rfl : W = w' := hw'.symm; rcases HMK.out.dir with ⟨h0, hd0⟩ | ⟨db, gb, cap, hd0, h1, h2⟩)
  all_goals
    first
      | (have H0 : Hid (np = 0) := h0
         clear h0)
      | (have H1 : Hid (W.cell? ⟨db, 0, none⟩ = some (.slice (some ⟨gb, 0, none⟩) np cap) ∧ W.ownsRow N 56 1 (.slice (some ⟨gb, 0, none⟩) np cap) np (ptrs pg np)) := ⟨by rw [cell_of h1]; rfl, h2⟩
         clear h1 h2)
    go_cut [6] (fun v wx => wx = W ∧ ∃ ga cap, v = .slice ga np cap ∧ ((ga = none ∧ np = 0 ∧ cap = 0) ∨ ∃ gb, ga = some ⟨gb, 0, none⟩ ∧ W.ownsRow N 56 1 (.slice (some ⟨gb, 0, none⟩) np cap) np (ptrs pg np)))
    case first =>
      first
        | (have c0 := H1.out.1
           go_wp2
           go_meet
           case rel => exact ⟨rfl, _, cap, rfl, .inr ⟨gb, rfl, H1.out.2⟩⟩)
        | (go_wp2
           go_meet
           case rel => exact ⟨rfl, none, 0, by rw [H0.out], .inl ⟨rfl, H0.out, rfl⟩⟩)
    case rest =>
      obtain ⟨hwc, ga, cap, rfl, hga⟩ := hcut
      obtain rfl : W = wc := hwc.symm
      clear HLD
      go_upto_region 5 with fail
      go_cut [8] (fun v wx => ∃ db v1, v = .pointer (some ⟨db, 0, none⟩) ∧ wx.heap[db]? = some (.cells #[v1] 52 (0, 0)) ∧ wx.ownsRow W.heap.size 56 1 v1 np (ptrs pg np) ∧ Below W.heap.size W wx ∧ W.heap.size ≤ db)
      case first =>
        rcases hga with ⟨rfl, h0, rfl⟩ | ⟨gb, rfl, h2⟩
        · subst h0
          go_wp2_with (at_builtin; refine wpList_append_own_none rfl _ (.tmp 23) 52 rfl W.heap.size 56 Yba.t56 1 Yba.underlying52 info56 _ 0 [] rfl HO0.out rfl ?_)
          go_meet
          case rel => exact ⟨_, _, rfl, heap_alloc_at _ _, HO0.out.alloc _, (Below.refl _ W).alloc (Nat.le_refl _) _, Nat.le_refl _⟩
        · have HNW : Hid (∀ (q : Nat) (u : Value), (ptrs pg np)[q]? = some u → W.cell? ((⟨gb, 0, none⟩ : Addr).add q) = some u) := fun q u hu => h2.cells (g := gb) rfl q u hu
          have HL : Hid ((ptrs pg np).length = np * 1) := by show _ = _; simp [ptrs]
          clear h2
          go_wp2_with (at_builtin; refine wpList_append_own _ rfl _ (.tmp 23) 52 rfl W.heap.size 56 Yba.t56 _ 1 8 Yba.underlying52 info56 rfl rfl rfl rfl (by omega) _ 0 [] rfl HO0.out ⟨gb, 0, none⟩ np cap (ptrs pg np) rfl HL.out HNW.out (ptrs_one _ _) (by unfold maxLen; omega) (by omega) (Nat.le_refl _) ?_; intro v3 w3 ho3 hg3 _; have HO3 : Hid (w3.ownsRow W.heap.size 56 1 v3 np (ptrs pg np)) := (by show World.ownsRow _ _ _ _ _ _ _; simpa using ho3); have HB3 : Hid (Below W.heap.size W w3) := (Below.refl _ W).grown hg3 (Nat.le_refl _) (fun k hk => by cases hk); obtain ⟨a', n', cap', hv'⟩ : ∃ a' n' cap', v3 = .slice a' n' cap' := (by rcases ho3.2 with ⟨rfl, _⟩ | ⟨g, cap, cur, rfl, _⟩ <;> exact ⟨_, _, _, rfl⟩); subst hv'; clear ho3 hg3)
          go_meet
          case rel => exact ⟨_, _, rfl, heap_alloc_at _ _, HO3.out.alloc _, HB3.out.alloc HB3.out.size _, HB3.out.size⟩
      case rest =>
        obtain ⟨db, v1, rfl, hd1, ho1, hB1, hdb⟩ := hcut
        have HD1 : Hid (wc.heap[db]? = some (.cells #[v1] 52 (0, 0)) ∧ wc.ownsRow W.heap.size 56 1 v1 np (ptrs pg np) ∧ Below W.heap.size W wc ∧ W.heap.size ≤ db) := ⟨hd1, ho1, hB1, hdb⟩
        clear hd1 ho1 hB1 hdb hga
        obtain ⟨w1, hw1⟩ : ∃ w1, w1 = wc := ⟨_, rfl⟩
        subst hw1
        go_wp2
        go_loopg [] 1 (fun k wr => (k = 1 ∧ wr = w1) ∨ (k = 0 ∧ ∃ pn v, Dr W wr db pn np pg v))
        case atStart => exact .inl ⟨rfl, rfl⟩
        case round =>
          rcases hrel with ⟨hk, hwr⟩ | ⟨hk, pn, v, hD⟩
          · have HK : Hid (gk = 1) := hk
            obtain rfl : w1 = wr := hwr.symm
            clear hk
            obtain ⟨a1, c1, hv1⟩ := own_form HD1.out.2.1
            subst hv1
            have c0 : w1.cell? ⟨db, 0, none⟩ = some (.slice a1 np c1) := by rw [cell_of HD1.out.1]; rfl
            have HC : Hid (∀ (q : Nat) (u : Value), [Value.pointer (some (⟨w1.heap.size, 0, none⟩ : Addr))][q]? = some u → ((w1.alloc (.cells Z 61)).alloc (.cells #[.pointer (some ⟨w1.heap.size, 0, none⟩)] 56)).cell? ((⟨w1.heap.size + 1, 0, none⟩ : Addr).add q) = some u) := fun q u hu => by
              have e := heap_alloc_at (w1.alloc (.cells Z 61)) (.cells #[.pointer (some ⟨w1.heap.size, 0, none⟩)] 56)
              rw [World.size_alloc] at e
              rw [Addr.add_mid, Nat.zero_add, cell_of e]
              simpa using hu
            have HSZ : Hid (W.heap.size ≤ w1.heap.size) := HD1.out.2.2.1.size
            go_wp2_with (at_builtin; refine wpList_append_own _ rfl (.tmp 30) (.tmp 32) 52 rfl W.heap.size 56 Yba.t56 _ 1 8 Yba.underlying52 info56 rfl rfl rfl rfl (by omega) _ np (ptrs pg np) rfl ((HD1.out.2.1.alloc _).alloc _) ⟨w1.heap.size + 1, 0, none⟩ 1 1 [.pointer (some ⟨w1.heap.size, 0, none⟩)] rfl rfl HC.out (by simp [Value.oneCell']) (by unfold maxLen; omega) (by omega) (by have := HSZ.out; simp; omega) ?_; intro v3 w3 ho3 hg3 _; obtain ⟨⟨u3, c3⟩, f3, hDr⟩ := Dr.make HD1.out.1 HD1.out.2.1 HD1.out.2.2.1 HD1.out.2.2.2 HZ.out ho3 hg3; obtain ⟨a3, cap3, hv3⟩ := own_form ho3; subst hv3; have HDR : Hid _ := hDr; clear hDr ho3 hg3)
            go_roundg 0
            case measure => have := HK.out; omega
            case rel => exact .inr ⟨rfl, _, _, HDR.out⟩
          · obtain ⟨r1, r2, r3, ⟨g, cg, hv, r4⟩, r5, ⟨u6, r6⟩, r7, pg', r8, r9, r10⟩ := hD.finish HMK.out HU.out HNN.out.1 HNN.out.2.1 HCD.out hj5 x
            subst hv
            have HST : Hid (Calls Yba.prog 11 _ wr _) := storeP ub db d _ wr r1 r2 hD.dir
            have HSU : Hid (Calls Yba.prog 12 _ _ _) := storeU pn j x u6 _ r6 r7
            rw [← HIJ.out] at r9
            have HR : Hid _ := And.intro r8 (And.intro r9 r10)
            obtain ⟨w5, hw5⟩ : ∃ w5, wr.setCell ⟨ub, 4, none⟩ (.pointer (some ⟨db, 0, none⟩)) = w5 := ⟨_, rfl⟩
            rw [hw5] at HST HSU HR r4 r5
            clear r1 r2 r6 r7 r8 r9 r10 hD hk hw5
            go_wp2_with (first | (go_at_call 11; refine HST.out.mono ?_; rintro r w' ⟨rfl, hw'⟩; obtain rfl : w5 = w' := hw'.symm) | (go_at_call 12; refine HSU.out.mono ?_; rintro r w' ⟨rfl, hw'⟩; have HW : Hid (w' = _) := hw'; clear hw'))
            go_end0
            rw [HW.out]
            exact ⟨rfl, _, pg', HR.out.1, HR.out.2.1, HR.out.2.2⟩
end Go.Proofs.Ybulkboxs
