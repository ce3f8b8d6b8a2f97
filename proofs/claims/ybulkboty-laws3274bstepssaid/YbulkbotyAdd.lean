/-
  (*levelSet).add: one more level. Of this seat's own.
-/
import Derived.Test.YbulkbotyLevs
namespace Go.Proofs.Ybulkboty
open Go.RowKit Go.ChangeMaps

/-! ### blocks -/
theorem cell_of {w : World} {b : Nat} {c : Array Value} {t : TypeId} {fz : Nat × Nat} (h : w.heap[b]? = some (.cells c t fz)) (o : Nat) : w.cell? ⟨b, o, none⟩ = c[o]? := by simp [World.cell?, h]
theorem thawed_of {w : World} {b : Nat} {c : Array Value} {t : TypeId} (h : w.heap[b]? = some (.cells c t (0, 0))) (o : Nat) (s : Option Nat) : w.frozen? ⟨b, o, s⟩ = false := by simp [World.frozen?, h]
theorem heap_set_at {w : World} {b : Nat} {c : Array Value} {t : TypeId} {fz : Nat × Nat} (h : w.heap[b]? = some (.cells c t fz)) (o : Nat) (v : Value) : (w.setCell ⟨b, o, none⟩ v).heap[b]? = some (.cells (c.setIfInBounds o v) t fz) := by
  simp [World.setCell, Array.getElem?_modify, h]
theorem heap_set_other (w : World) {b k : Nat} (hne : k ≠ b) (o : Nat) (s : Option Nat) (v : Value) : (w.setCell ⟨b, o, s⟩ v).heap[k]? = w.heap[k]? := Below.heap_setCell w ⟨b, o, s⟩ v k hne
theorem heap_alloc_lt (w : World) (o : Obj) {k : Nat} (h : k < w.heap.size) : (w.alloc o).heap[k]? = w.heap[k]? := Below.heap_alloc w o k h
theorem heap_alloc_at (w : World) (o : Obj) : (w.alloc o).heap[w.heap.size]? = some o := (MapKept.heap_alloc w o).1
theorem lt_of_heap {w : World} {b : Nat} {o : Obj} (h : w.heap[b]? = some o) : b < w.heap.size := (Array.getElem?_eq_some_iff.1 h).1
theorem heap_block_at {w : World} {b : Nat} {o o' : Obj} (h : w.heap[b]? = some o) : (setBlock w b o').heap[b]? = some o' := (MapKept.heap_set h).1
theorem heap_block_other {w : World} {b k : Nat} {o' : Obj} (h : k ≠ b) : (setBlock w b o').heap[k]? = w.heap[k]? := by
  simp [setBlock, Ne.symm h]

/-- w' IS w BUT FOR BLOCK e, BLOCK ow, AND NEW BLOCKS. -/
structure Kept (e : Nat) (ow : Option Nat) (w w' : World) : Prop where
  os : w'.os = w.os
  tape : w'.tape = w.tape
  output : w'.output = w.output
  size : w.heap.size ≤ w'.heap.size
  block : ∀ k, k < w.heap.size → k ≠ e → some k ≠ ow → w'.heap[k]? = w.heap[k]?

theorem Kept.refl (e : Nat) (ow : Option Nat) (w : World) : Kept e ow w w := ⟨rfl, rfl, rfl, Nat.le_refl _, fun _ _ _ _ => rfl⟩
theorem Kept.drewN {e : Nat} {ow : Option Nat} {w w' : World} (h : Kept e ow w w') (n : Nat) : Kept e ow w (w'.drewN n) := ⟨h.os, h.tape, h.output, h.size, h.block⟩
theorem Kept.trans {e : Nat} {ow ow' : Option Nat} {a b c : World} (h : Kept e ow a b) (k : Kept e ow' b c) (ho : ∀ g, ow' = some g → ow = some g ∨ a.heap.size ≤ g) : Kept e ow a c :=
  ⟨k.os.trans h.os, k.tape.trans h.tape, k.output.trans h.output, Nat.le_trans h.size k.size, fun i hi h1 h2 =>
    (k.block i (Nat.lt_of_lt_of_le hi h.size) h1 (fun e1 => by
      rcases ho i e1.symm with h3 | h3
      · exact h2 h3.symm
      · omega)).trans (h.block i hi h1 h2)⟩
theorem Kept.setCell {e : Nat} {ow : Option Nat} {w w' : World} (h : Kept e ow w w') (o : Nat) (s : Option Nat) (v : Value) : Kept e ow w (w'.setCell ⟨e, o, s⟩ v) :=
  ⟨h.os, h.tape, h.output, by simpa using h.size, fun k hk h1 h2 => (heap_set_other w' h1 o s v).trans (h.block k hk h1 h2)⟩
theorem Kept.alloc {e : Nat} {ow : Option Nat} {w w' : World} (h : Kept e ow w w') (o : Obj) : Kept e ow w (w'.alloc o) :=
  ⟨h.os, h.tape, h.output, by have := h.size; simp; omega, fun k hk h1 h2 => (heap_alloc_lt w' o (Nat.lt_of_lt_of_le hk h.size)).trans (h.block k hk h1 h2)⟩
theorem Kept.setBlock {e g : Nat} {ow : Option Nat} {w w' : World} (h : Kept e ow w w') (o : Obj) (hg : ow = some g ∨ w.heap.size ≤ g) : Kept e ow w (setBlock w' g o) :=
  ⟨h.os, h.tape, h.output, by simpa [ChangeMaps.setBlock] using h.size, fun k hk h1 h2 => (heap_block_other (fun e1 => by
      rcases hg with h3 | h3
      · exact h2 (by rw [h3, e1])
      · omega)).trans (h.block k hk h1 h2)⟩
theorem Kept.grown {e : Nat} {ow row : Option Nat} {w w' w'' : World} (h : Kept e ow w w') (hg : w'.grownBy w'' row) (hr : ∀ g, row = some g → ow = some g ∨ w.heap.size ≤ g) : Kept e ow w w'' :=
  ⟨hg.os.trans h.os, hg.tape.trans h.tape, hg.output.trans h.output, Nat.le_trans h.size hg.size, fun k hk h1 h2 =>
    (hg.block k (Nat.lt_of_lt_of_le hk h.size) (fun e1 => by
      rcases hr k e1.symm with h3 | h3
      · exact h2 h3.symm
      · omega)).trans (h.block k hk h1 h2)⟩

theorem Lev.drewN {w : World} {few many : Value} {ls : List Int} (h : Lev w few many ls) (n : Nat) : Lev (w.drewN n) few many ls := h

/-- The levels stay what they are while their own block stands. -/
theorem Lev.kept {w w' : World} {few many : Value} {ls : List Int} (h : Lev w few many ls) (hk : ∀ g, auxOf few many = some g → w'.heap[g]? = w.heap[g]?) : Lev w' few many ls := by
  rcases h with ⟨h64, rfl, hown⟩ | ⟨g, h64, rfl, rfl, hg⟩
  · refine .inl ⟨h64, rfl, hown.1, ?_⟩
    rcases hown.2 with h1 | ⟨g, cap, cur, rfl, hb, hh, r⟩
    · exact .inl h1
    · exact .inr ⟨g, cap, cur, rfl, hb, (hk g rfl).trans hh, r⟩
  · exact .inr ⟨g, h64, rfl, rfl, (hk g rfl).trans hg⟩

/-- The entry's block is none of its levels'. -/
theorem Lev.ne {w : World} {few many : Value} {ls : List Int} {e : Nat} {c : Array Value} (h : Lev w few many ls) (he : w.heap[e]? = some (.cells c 88 (0, 0))) : auxOf few many ≠ some e := by
  rcases h with ⟨h64, rfl, hown⟩ | ⟨g, h64, rfl, rfl, hg⟩
  · rcases hown.2 with ⟨rfl, _⟩ | ⟨g, cap, cur, rfl, hb, hh, r⟩
    · simp [auxOf, Value.ownBlock]
    · simp only [auxOf, Value.ownBlock, ne_eq, Option.some.injEq]
      rintro rfl
      rw [he] at hh
      simp at hh
  · simp only [auxOf, ne_eq, Option.some.injEq]
    rintro rfl
    rw [he] at hg
    simp [levObj, mapOf] at hg

theorem Lev.lt {w : World} {few many : Value} {ls : List Int} (h : Lev w few many ls) : ∀ g, auxOf few many = some g → g < w.heap.size := by
  rcases h with ⟨h64, rfl, hown⟩ | ⟨g, h64, rfl, rfl, hg⟩
  · rcases hown.2 with ⟨rfl, _⟩ | ⟨g, cap, cur, rfl, hb, hh, r⟩
    · simp [auxOf, Value.ownBlock]
    · simp only [auxOf, Value.ownBlock, Option.some.injEq]
      rintro _ rfl
      exact lt_of_heap hh
  · simp only [auxOf, Option.some.injEq]
    rintro _ rfl
    exact lt_of_heap hg

theorem Lev.len_le {w : World} {few many : Value} {ls : List Int} (h : Lev w few many ls) : many = .map none → ls.length ≤ 64 := by
  rcases h with ⟨h64, rfl, hown⟩ | ⟨g, h64, rfl, rfl, hg⟩
  · exact fun _ => h64
  · intro h; cases h

/-- WHAT add LEAVES. -/
def Added (w w' : World) (e : Nat) (c0 c1 c2 few many c5 c6 c7 : Value) (ls : List Int) : Prop :=
  ∃ few' many', w'.heap[e]? = some (.cells #[c0, c1, c2, few', many', c5, c6, c7] 88 (0, 0)) ∧ Lev w' few' many' ls ∧ Kept e (auxOf few many) w w' ∧
    (auxOf few' many' = auxOf few many ∨ ∃ g, auxOf few' many' = some g ∧ w.heap.size ≤ g)

theorem run_put {w : World} {g : Nat} {ls : List Int} {l : Int} (hg : w.heap[g]? = some (levObj ls)) (hnot : l ∉ ls) :
    (Instr.mapUpdate 84 (.map (some g)) (.int .i64 l) (.bool true)).run Yba.prog w = .ok () (setBlock w g (levObj (ls ++ [l]))) := by
  have hup := run_update (P := Yba.prog) (t := 84) int_isKey int_inj Yba.underlying84 Yba.underlying69 hg l (.bool true)
  have hput : put l (.bool true) (ls.map fun l => (l, Value.bool true)) = (ls ++ [l]).map fun l => (l, Value.bool true) := by
    rw [put_none (look_none_iff.2 (by simpa using hnot))]; simp
  rw [hput] at hup
  exact hup

theorem info69 : Yba.prog.info? 69 = some Yba.t69 := by kernel_rfl

theorem add_many (e g : Nat) (c0 c1 c2 c5 c6 c7 : Value) (ls : List Int) (l : Int) (w : World) (he : w.heap[e]? = some (.cells #[c0, c1, c2, .slice none 0 0, .map (some g), c5, c6, c7] 88 (0, 0)))
    (h64 : 64 < ls.length) (hg : w.heap[g]? = some (levObj ls)) (hnot : l ∉ ls) :
    Calls Yba.prog 25 #[.pointer (some ⟨e, 3, none⟩), .int .i64 l] w fun r w' => r = .returned (.tuple #[]) ∧ Added w w' e c0 c1 c2 (.slice none 0 0) (.map (some g)) c5 c6 c7 (ls ++ [l]) := by
  have hnm := fun r => run_neq_map_nil (P := Yba.prog) w 84 _ _ r Yba.underlying84
  have hup := run_put hg hnot
  have c3 := cell_of he 3
  have c4 := cell_of he 4
  simp only [List.getElem?_toArray, List.getElem?_cons_succ, List.getElem?_cons_zero] at c3 c4
  have hne : e ≠ g := by rintro rfl; rw [he] at hg; simp [levObj, mapOf] at hg
  have R : Hid (Added w (setBlock w g (levObj (ls ++ [l]))) e c0 c1 c2 (.slice none 0 0) (.map (some g)) c5 c6 c7 (ls ++ [l])) := by
    refine ⟨_, _, (heap_block_other hne).trans he, .inr ⟨g, by simp; omega, rfl, rfl, heap_block_at hg⟩, ?_, .inl rfl⟩
    exact (Kept.refl _ _ _).setBlock _ (.inl rfl)
  clear hne he hg hnot
  go_enter Yba.func25, Yba.ntmps25
  go_wp2
  go_end0
  exact ⟨rfl, R.out⟩


theorem add_few (e : Nat) (few c0 c1 c2 c5 c6 c7 : Value) (ls : List Int) (l : Int) (w : World) (he : w.heap[e]? = some (.cells #[c0, c1, c2, few, .map none, c5, c6, c7] 88 (0, 0)))
    (h64 : ls.length < 64) (hown : w.ownsRow 0 69 1 few ls.length (ls.map (Value.int .i64))) :
    Calls Yba.prog 25 #[.pointer (some ⟨e, 3, none⟩), .int .i64 l] w fun r w' => r = .returned (.tuple #[]) ∧ Added w w' e c0 c1 c2 few (.map none) c5 c6 c7 (ls ++ [l]) := by
  have hnm := fun r => run_neq_map_nil (P := Yba.prog) w 84 _ _ r Yba.underlying84
  have c3 := cell_of he 3
  have c4 := cell_of he 4
  simp only [List.getElem?_toArray, List.getElem?_cons_succ, List.getElem?_cons_zero] at c3 c4
  have hlt := lt_of_heap he
  obtain ⟨a, cap, hfew⟩ : ∃ a cap, few = .slice a ls.length cap := by
    rcases hown.2 with ⟨h1, h2⟩ | ⟨g, cap, cur, h1, _⟩
    · exact ⟨none, 0, by rw [h1, h2]⟩
    · exact ⟨_, _, h1⟩
  subst hfew
  have HE : Hid (w.heap[e]? = some (.cells #[c0, c1, c2, .slice a ls.length cap, .map none, c5, c6, c7] 88 (0, 0))) := he
  clear he
  go_enter Yba.func25, Yba.ntmps25
  go_wp2_with (first
    | (at_builtin; refine wpList_append_own_at _ rfl _ _ 53 rfl 0 69 Yba.t69 (.int .i64 0) 1 8 Yba.underlying53 info69 rfl rfl rfl rfl (by decide) _ _ _ rfl (hown.alloc _) ⟨w.heap.size, 0, none⟩ 1 1 [.int .i64 l] rfl rfl (cell_one_new _ _ _) (ints_oneCell .i64 [l]) (by unfold maxLen; omega) (by omega) (by simp) ?_))
  intro v' w2 hown2 hgrow hnn hloc
  have hex : ∃ g cap', v' = .slice (some ⟨g, 0, none⟩) (ls.length + 1) cap' := by
    rcases hown2.2 with ⟨h1, _⟩ | ⟨g, cap', cur, h1, _⟩
    · exact absurd h1 hnn
    · exact ⟨g, cap', h1⟩
  obtain ⟨g, cap', hv⟩ := hex
  rw [hv] at hown2 hloc ⊢
  have HE2 : Hid (w2.heap[e]? = some (.cells #[c0, c1, c2, .slice a ls.length cap, .map none, c5, c6, c7] 88 (0, 0))) := by
    have hne := Lev.ne (.inl ⟨by omega, rfl, hown⟩) HE.out
    exact ((hgrow.block e (by simp; omega) (fun h => hne h.symm)).trans (heap_alloc_lt w _ hlt)).trans HE.out
  have c3' := cell_of HE2.out 3
  simp only [List.getElem?_toArray, List.getElem?_cons_succ, List.getElem?_cons_zero] at c3'
  have f3 := thawed_of HE2.out 3 none
  have R : Hid (Added w (w2.setCell ⟨e, 3, none⟩ (.slice (some ⟨g, 0, none⟩) (ls.length + 1) cap')) e c0 c1 c2 (.slice a ls.length cap) (.map none) c5 c6 c7 (ls ++ [l])) := by
    have hge : g ≠ e := by
      rintro rfl
      rcases hown2.2 with ⟨h1, _⟩ | ⟨g', cap'', cur, h1, _, hh, _⟩
      · cases h1
      · simp only [Value.slice.injEq, Option.some.injEq, Addr.mk.injEq] at h1
        obtain ⟨⟨rfl, _⟩, _⟩ := h1
        rw [HE2.out] at hh
        simp at hh
    refine ⟨_, _, heap_set_at HE2.out 3 _, ?_, ?_, ?_⟩
    · have hL : Lev w2 (.slice (some ⟨g, 0, none⟩) (ls.length + 1) cap') (.map none) (ls ++ [l]) := .inl ⟨by simp; omega, rfl, by simpa using hown2⟩
      exact hL.kept (fun g' hg' => by simp [auxOf, Value.ownBlock] at hg'; subst hg'; exact heap_set_other _ hge _ _ _)
    · refine Kept.setCell (Kept.grown ((Kept.refl _ _ _).alloc _) hgrow (fun g' hg' => .inl hg')) _ _ _
    · rcases hloc with h | h
      · exact .inl h
      · exact .inr ⟨_, h, by omega⟩
  clear hown2 hgrow hloc hnn hown
  go_wp2
  go_end0
  exact ⟨rfl, R.out⟩

/-- w' is w but for block g. -/
structure SameBut (g : Nat) (w w' : World) : Prop where
  os : w'.os = w.os
  tape : w'.tape = w.tape
  output : w'.output = w.output
  size : w'.heap.size = w.heap.size
  block : ∀ k, k ≠ g → w'.heap[k]? = w.heap[k]?

theorem SameBut.refl (g : Nat) (w : World) : SameBut g w w := ⟨rfl, rfl, rfl, rfl, fun _ _ => rfl⟩
theorem SameBut.setBlock {g : Nat} {w w' : World} (h : SameBut g w w') (o : Obj) : SameBut g w (setBlock w' g o) :=
  ⟨h.os, h.tape, h.output, by simpa [ChangeMaps.setBlock] using h.size, fun k hk => (heap_block_other hk).trans (h.block k hk)⟩

theorem run_makeMap_hint (w : World) : (Instr.makeMap 84 (some (.int .i64 128))).run Yba.prog w = .ok (.map (some w.heap.size)) (w.alloc (.map #[] 0)) := by
  simp [Instr.makeMap, run_underlying Yba.underlying84, asInt, asIntOf, Result.andThen]

set_option maxHeartbeats 400000 in
theorem add_full (e f cap : Nat) (c0 c1 c2 c5 c6 c7 : Value) (ls : List Int) (l : Int) (w : World) (he : w.heap[e]? = some (.cells #[c0, c1, c2, .slice (some ⟨f, 0, none⟩) ls.length cap, .map none, c5, c6, c7] 88 (0, 0)))
    (h64 : ls.length = 64) (hown : w.ownsRow 0 69 1 (.slice (some ⟨f, 0, none⟩) ls.length cap) ls.length (ls.map (Value.int .i64))) (hnd : ls.Nodup) (hnot : l ∉ ls) :
    Calls Yba.prog 25 #[.pointer (some ⟨e, 3, none⟩), .int .i64 l] w fun r w' => r = .returned (.tuple #[]) ∧ Added w w' e c0 c1 c2 (.slice (some ⟨f, 0, none⟩) ls.length cap) (.map none) c5 c6 c7 (ls ++ [l]) := by
  have hnm := fun w => fun r => run_neq_map_nil (P := Yba.prog) w 84 _ _ r Yba.underlying84
  have hmm := run_makeMap_hint
  have c3 := cell_of he 3
  have c4 := cell_of he 4
  simp only [List.getElem?_toArray, List.getElem?_cons_succ, List.getElem?_cons_zero] at c3 c4
  have f4 := thawed_of he 4 none
  have hlt := lt_of_heap he
  have hfc := row_cells hown
  have hne : f ≠ e := by
    have := Lev.ne (.inl ⟨by omega, rfl, hown⟩) he
    simpa [auxOf, Value.ownBlock] using this
  have hfl : f < w.heap.size := (Lev.lt (.inl ⟨by omega, rfl, hown⟩)) f rfl
  have HE : Hid (w.heap[e]? = some (.cells #[c0, c1, c2, .slice (some ⟨f, 0, none⟩) ls.length cap, .map none, c5, c6, c7] 88 (0, 0))) := he
  have HL : Hid (ls.length = 64) := h64
  have hl1 : 64 ≤ ls.length := by omega
  have hl2 : ls.length ≤ 64 := by omega
  clear he h64
  go_enter Yba.func25, Yba.ntmps25
  go_wp2
  obtain ⟨W0, hW0⟩ : ∃ W0, (w.setCell ⟨e, 4, none⟩ (.map (some w.heap.size))).alloc (.map #[] 0) = W0 := ⟨_, rfl⟩
  have H0 : Hid ((w.setCell ⟨e, 4, none⟩ (.map (some w.heap.size))).alloc (.map #[] 0) = W0) := hW0
  rw [hW0]
  clear hW0
  have HE0 : Hid (W0.heap[e]? = some (.cells #[c0, c1, c2, .slice (some ⟨f, 0, none⟩) ls.length cap, .map (some w.heap.size), c5, c6, c7] 88 (0, 0))) := by
    show _ = _
    rw [← H0.out, heap_alloc_lt _ _ (by simpa using hlt)]
    exact heap_set_at HE.out 4 _
  have HF0 : Hid (∀ j, j < ls.length → W0.cell? ⟨f, j, none⟩ = some (.int .i64 (ls.getD j 0))) := by
    intro j hj
    rw [← H0.out]
    rw [World.cell?_of_block (heap_alloc_lt _ _ (by simpa using hfl)), World.cell?_of_block (heap_set_other w hne _ _ _)]
    exact hfc j hj
  have HG0 : Hid (W0.heap[w.heap.size]? = some (levObj [])) := by
    show _ = _
    rw [← H0.out]
    have := heap_alloc_at (w.setCell ⟨e, 4, none⟩ (.map (some w.heap.size))) (.map #[] 0)
    rw [World.size_setCell] at this
    exact this
  have HS0 : Hid (W0.heap.size = w.heap.size + 1) := by
    show _ = _
    rw [← H0.out]; simp
  have HK0 : Hid (Kept e (auxOf (.slice (some ⟨f, 0, none⟩) ls.length cap) (.map none)) w W0) := by
    show Kept _ _ _ _
    rw [← H0.out]
    exact ((Kept.refl _ _ _).setCell _ _ _).alloc _
  have HND : Hid (ls.Nodup) := hnd
  have HNOT : Hid (l ∉ ls) := hnot
  have hG : ∃ G, w.heap.size = G := ⟨_, rfl⟩
  obtain ⟨G, hG⟩ := hG
  rw [hG] at HE0 HG0 ⊢
  have HGe : Hid (w.heap.size = G) := hG
  have heG : e ≠ G := by omega
  have hfG : f ≠ G := by omega
  clear hnd hnot c3 c4 f4 hfc hlt hfl hG hmm
  go_loopg [5, 15] ls.length (fun k _ i wr => ∃ n : Nat, n ≤ ls.length ∧ k = ls.length - n ∧ i = .int .i64 n ∧ wr.heap[G]? = some (levObj (ls.take n)) ∧ SameBut G W0 wr)
  case atStart => exact ⟨0, Nat.zero_le _, rfl, rfl, HG0.out, SameBut.refl _ _⟩
  case round =>
    obtain ⟨n, hn, hk, rfl, hG, hS⟩ := hrel
    have HEr : Hid (wr.heap[e]? = _) := (hS.block e heG).trans HE0.out
    have c3 := cell_of HEr.out 3
    have c4 := cell_of HEr.out 4
    simp only [List.getElem?_toArray, List.getElem?_cons_succ, List.getElem?_cons_zero] at c3 c4
    by_cases hlt : n < ls.length
    · have hcx : wr.cell? ⟨f, n, none⟩ = some (.int .i64 (ls.getD n 0)) := (World.cell?_of_block (hS.block f hfG)).trans (HF0.out n hlt)
      have hget : ls.getD n 0 = ls[n] := by rw [List.getD_eq_getElem?_getD, List.getElem?_eq_getElem hlt]; rfl
      have hfresh : ls.getD n 0 ∉ ls.take n := by
        rw [hget]
        have hnd := HND.out
        rw [← List.take_append_drop n ls, List.nodup_append] at hnd
        intro hm
        refine hnd.2.2 _ hm _ ?_ rfl
        rw [List.drop_eq_getElem_cons hlt]
        exact .head _
      have hup := run_put hG hfresh
      have htk : ls.take n ++ [ls.getD n 0] = ls.take (n + 1) := by rw [hget, List.take_succ_eq_append_getElem hlt]
      rw [htk] at hup
      have HR : Hid ((setBlock wr G (levObj (ls.take (n + 1)))).heap[G]? = some (levObj (ls.take (n + 1))) ∧ SameBut G W0 (setBlock wr G (levObj (ls.take (n + 1))))) := ⟨heap_block_at hG, hS.setBlock _⟩
      obtain ⟨z, hz⟩ : ∃ z, ls.getD n 0 = z := ⟨_, rfl⟩
      rw [hz] at hcx hup
      clear hget hfresh htk hz hG hS
      go_wp2
      go_roundg (ls.length - (n + 1))
      case measure => omega
      case rel => exact ⟨n + 1, by omega, rfl, by go_num, HR.out⟩
    · have hte : ls.take n = ls := List.take_of_length_le (by omega)
      rw [hte] at hG
      clear hte
      have hup := run_put hG HNOT.out
      have HE1 : Hid ((setBlock wr G (levObj (ls ++ [l]))).heap[e]? = _) := (heap_block_other heG).trans HEr.out
      have c3' := cell_of HE1.out 3
      simp only [List.getElem?_toArray, List.getElem?_cons_succ, List.getElem?_cons_zero] at c3'
      have f3 := thawed_of HE1.out 3 none
      have R : Hid (Added w ((setBlock wr G (levObj (ls ++ [l]))).setCell ⟨e, 3, none⟩ (.slice none 0 0)) e c0 c1 c2 (.slice (some ⟨f, 0, none⟩) ls.length cap) (.map none) c5 c6 c7 (ls ++ [l])) := by
        refine ⟨_, _, heap_set_at HE1.out 3 _, .inr ⟨G, by simp; omega, rfl, rfl, (heap_set_other _ (Ne.symm heG) _ _ _).trans (heap_block_at hG)⟩, ?_, .inr ⟨G, rfl, by rw [HGe.out]; exact Nat.le_refl _⟩⟩
        refine Kept.setCell (Kept.setBlock (w' := wr) ⟨?_, ?_, ?_, ?_, ?_⟩ _ (.inr (by rw [HGe.out]; exact Nat.le_refl _))) _ _ _
        · exact hS.os.trans HK0.out.os
        · exact hS.tape.trans HK0.out.tape
        · exact hS.output.trans HK0.out.output
        · rw [hS.size, HS0.out]; omega
        · intro k hk h1 h2
          exact (hS.block k (by have := HGe.out; omega)).trans (HK0.out.block k hk h1 h2)
      clear hG hS
      go_wp2
      go_end0
      exact ⟨rfl, R.out⟩

/-- (*levelSet).add, whatever holds the levels. -/
theorem add_any (e : Nat) (few many c0 c1 c2 c5 c6 c7 : Value) (ls : List Int) (l : Int) (w : World) (he : w.heap[e]? = some (.cells #[c0, c1, c2, few, many, c5, c6, c7] 88 (0, 0)))
    (hL : Lev w few many ls) (hnd : ls.Nodup) (hnot : l ∉ ls) :
    Calls Yba.prog 25 #[.pointer (some ⟨e, 3, none⟩), .int .i64 l] w fun r w' => r = .returned (.tuple #[]) ∧ Added w w' e c0 c1 c2 few many c5 c6 c7 (ls ++ [l]) := by
  rcases hL with ⟨h64, rfl, hown⟩ | ⟨g, h64, rfl, rfl, hg⟩
  · by_cases hf : ls.length < 64
    · exact add_few e few c0 c1 c2 c5 c6 c7 ls l w he hf hown
    · have h64' : ls.length = 64 := by omega
      rcases hown.2 with ⟨_, h2⟩ | ⟨g, cap, cur, rfl, _⟩
      · omega
      · exact add_full e g cap c0 c1 c2 c5 c6 c7 ls l w he h64' hown hnd hnot
  · exact add_many e g c0 c1 c2 c5 c6 c7 ls l w he h64 hg hnot

end Go.Proofs.Ybulkboty
