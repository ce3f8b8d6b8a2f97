/-
  The whole space, and what each call does to it; retire, openUndo. Of this seat's own.
-/
import Derived.Test.YbulkboxsAdd
namespace Go.Proofs.Ybulkboxs
open Go.RowKit

def RowI (W : World) (b n : Nat) (h : Nat → Int) : Prop := ∃ c, W.heap[b]? = some (.cells c 30 (0, 0)) ∧ c.size = n ∧ ∀ i, i < n → c[i]? = some (.int .i64 (h i))
theorem RowI.cell {W : World} {b n : Nat} {h : Nat → Int} (r : RowI W b n h) {i : Nat} (hi : i < n) : W.cell? ⟨b, i, none⟩ = some (.int .i64 (h i)) ∧ W.frozen? ⟨b, i, none⟩ = false := by
  obtain ⟨c, h1, _, h3⟩ := r
  exact ⟨by rw [cell_of h1]; exact h3 i hi, thawed_of h1 _ _⟩
theorem RowI.fr {N : Nat} {ts : List TypeId} {W W' : World} {b n : Nat} {h : Nat → Int} (r : RowI W b n h) (f : Fr N ts W W') (ht : 30 ∉ ts) : RowI W' b n h := by
  obtain ⟨c, h1, h2⟩ := r
  exact ⟨c, f.blk h1 ht, h2⟩
theorem RowI.set {W : World} {b n : Nat} {h : Nat → Int} (r : RowI W b n h) {i : Nat} (hi : i < n) (x : Int) : RowI (W.setCell ⟨b, i, none⟩ (.int .i64 x)) b n (updI h i x) := by
  obtain ⟨c, h1, h2, h3⟩ := r
  refine ⟨_, heap_set_at h1 i _, by simp [h2], fun k hk => ?_⟩
  rw [Array.getElem?_setIfInBounds]
  unfold updI
  by_cases e : i = k
  · subst e
    rw [if_pos rfl, if_pos (by omega), if_pos rfl]
  · rw [if_neg e, if_neg (fun e1 => e e1.symm), h3 k hk]

/-- THE UNDO SPACE IN BLOCK ub. -/
structure Sp (N : Nat) (w W : World) (ub bb n : Nat) (C : Array Value) (h : Nat → Int) (ws : List Int) (nn low : Int) (np : Nat) (m : Nat → Int) (rk : Nat) : Prop where
  fs : Fs N W ub C ws nn low
  b0 : C[0]? = some (.slice (some ⟨bb, 0, none⟩) n n)
  row : RowI W bb n h
  mks : ∃ d pg, C[4]? = some d ∧ Mk N W d np pg m
  ret : ∃ rv xs, C[9]? = some rv ∧ W.ownsRow N 67 2 rv rk xs
  below : Below N w W
  hub : N ≤ ub
  hbb : N ≤ bb
  hN : w.heap.size = N

theorem Fr.below {N : Nat} {ts : List TypeId} {w W W' : World} (f : Fr N ts W W') (h : Below N w W) : Below N w W' := ⟨f.os.trans h.os, f.tape.trans h.tape, f.output.trans h.output, Nat.le_trans h.size f.size, fun k hk => (f.low k hk).trans (h.block k hk)⟩
theorem Sp.le {N : Nat} {w W : World} {ub bb n : Nat} {C : Array Value} {h : Nat → Int} {ws : List Int} {nn low : Int} {np : Nat} {m : Nat → Int} {rk : Nat} (s : Sp N w W ub bb n C h ws nn low np m rk) : N ≤ W.heap.size := by have := s.below.size; have := s.hN; omega

theorem Fs.fr {N : Nat} {ts : List TypeId} {W W' : World} {ub : Nat} {C : Array Value} {ws : List Int} {nn low : Int} (h : Fs N W ub C ws nn low) (f : Fr N ts W W') (h46 : 46 ∉ ts) (h24 : 24 ∉ ts) : Fs N W' ub C ws nn low := by
  obtain ⟨wv, e, ho⟩ := h.own
  exact ⟨f.blk h.cell h46, h.size, ⟨wv, e, f.own ho h24⟩, h.cn, h.cl⟩

/-- A field of the space that is none of the parts above is stored. -/
theorem Sp.field {N : Nat} {w W : World} {ub bb n : Nat} {C : Array Value} {h : Nat → Int} {ws : List Int} {nn low : Int} {np : Nat} {m : Nat → Int} {rk : Nat} (s : Sp N w W ub bb n C h ws nn low np m rk) {k : Nat} (hk : 5 ≤ k ∧ k ≤ 8) (v : Value) :
    (∃ u, W.cell? ⟨ub, k, none⟩ = some u) ∧ W.frozen? ⟨ub, k, none⟩ = false ∧ Sp N w (W.setCell ⟨ub, k, none⟩ v) ub bb n (C.setIfInBounds k v) h ws nn low np m rk := by
  have hC := s.fs.size
  have f : Fr N [46] W (W.setCell ⟨ub, k, none⟩ v) := (Fr.refl N [46] W).setCell s.fs.cell (by simp) s.hub _ _
  obtain ⟨wv, e, ho⟩ := s.fs.own
  obtain ⟨d, pg, e4, hm⟩ := s.mks
  obtain ⟨rv, xs, e9, hr⟩ := s.ret
  have g : ∀ q, q ≠ k → (C.setIfInBounds k v)[q]? = C[q]? := fun q hq => by rw [Array.getElem?_setIfInBounds, if_neg (fun e => hq e.symm)]
  refine ⟨⟨_, by rw [cell_of s.fs.cell]; exact Array.getElem?_eq_getElem (by omega)⟩, thawed_of s.fs.cell _ _, ⟨⟨heap_set_at s.fs.cell k v, by simp [hC], ⟨wv, (g 1 (by omega)).trans e, f.own ho (by decide)⟩, (g 2 (by omega)).trans s.fs.cn, (g 3 (by omega)).trans s.fs.cl⟩, (g 0 (by omega)).trans s.b0, s.row.fr f (by decide), ⟨d, pg, (g 4 (by omega)).trans e4, hm.fr f (by decide) (by decide) (by decide)⟩, ⟨rv, xs, (g 9 (by omega)).trans e9, f.own hr (by decide)⟩, f.below s.below, s.hub, s.hbb, s.hN⟩⟩

theorem Sp.hold {N : Nat} {w W : World} {ub bb n : Nat} {C : Array Value} {h : Nat → Int} {ws : List Int} {nn low : Int} {np : Nat} {m : Nat → Int} {rk : Nat} (s : Sp N w W ub bb n C h ws nn low np m rk) {i : Nat} (hi : i < n) (x : Int) :
    Sp N w (W.setCell ⟨bb, i, none⟩ (.int .i64 x)) ub bb n C (updI h i x) ws nn low np m rk := by
  obtain ⟨c, h1, _⟩ := s.row
  have f : Fr N [30] W (W.setCell ⟨bb, i, none⟩ (.int .i64 x)) := (Fr.refl N [30] W).setCell h1 (by simp) s.hbb _ _
  obtain ⟨d, pg, e4, hm⟩ := s.mks
  obtain ⟨rv, xs, e9, hr⟩ := s.ret
  exact ⟨s.fs.fr f (by decide) (by decide), s.b0, s.row.set hi x, ⟨d, pg, e4, hm.fr f (by decide) (by decide) (by decide)⟩, ⟨rv, xs, e9, f.own hr (by decide)⟩, f.below s.below, s.hub, s.hbb, s.hN⟩

/-- marks.set where the page is there. -/
theorem Sp.set {N : Nat} {w W : World} {ub bb n : Nat} {C : Array Value} {h : Nat → Int} {ws : List Int} {nn low : Int} {np : Nat} {m : Nat → Int} {rk : Nat} (s : Sp N w W ub bb n C h ws nn low np m rk) (i : Nat) (hi : i < np * 512) (hi2 : i ≤ 100000) (x : Int) :
    Calls Yba.prog 5 #[.pointer (some ⟨ub, 4, none⟩), .int .i64 (i : Int), .int .u64 x] W fun r w' => r = .returned (.tuple #[]) ∧ Sp N w w' ub bb n C h ws nn low np (updI m i x) rk := by
  obtain ⟨d, pg, e4, hm⟩ := s.mks
  refine (set_in ub C d s.fs.cell e4 hm i hi hi2 x).mono ?_
  rintro r w' ⟨rfl, hM, f⟩
  obtain ⟨rv, xs, e9, hr⟩ := s.ret
  exact ⟨rfl, s.fs.fr f (by decide) (by decide), s.b0, s.row.fr f (by decide), ⟨d, pg, e4, hM⟩, ⟨rv, xs, e9, f.own hr (by decide)⟩, f.below s.below, s.hub, s.hbb, s.hN⟩

/-- marks.set at the first place of a new page's. -/
theorem Sp.setg {N : Nat} {w W : World} {ub bb n : Nat} {C : Array Value} {h : Nat → Int} {ws : List Int} {nn low : Int} {np : Nat} {m : Nat → Int} {rk : Nat} (s : Sp N w W ub bb n C h ws nn low np m rk) (i : Nat) (hi : i / 512 = np) (hn : np ≤ 100) (x : Int) :
    Calls Yba.prog 5 #[.pointer (some ⟨ub, 4, none⟩), .int .i64 (i : Int), .int .u64 x] W fun r w' => r = .returned (.tuple #[]) ∧ ∃ d', Sp N w w' ub bb n (C.setIfInBounds 4 d') h ws nn low (np + 1) (updI m i x) rk := by
  obtain ⟨d, pg, e4, hm⟩ := s.mks
  refine (set_grow ub C d s.fs.cell s.fs.size e4 hm s.hub s.le i hi hn x).mono ?_
  rintro r w' ⟨rfl, d', pg', hc, hM, f⟩
  obtain ⟨rv, xs, e9, hr⟩ := s.ret
  obtain ⟨wv, e, ho⟩ := s.fs.own
  have hC := s.fs.size
  have g : ∀ q, q ≠ 4 → (C.setIfInBounds 4 d')[q]? = C[q]? := fun q hq => by rw [Array.getElem?_setIfInBounds, if_neg (fun e => hq e.symm)]
  exact ⟨rfl, d', ⟨hc, by simp [hC], ⟨wv, (g 1 (by omega)).trans e, f.own ho (by decide)⟩, (g 2 (by omega)).trans s.fs.cn, (g 3 (by omega)).trans s.fs.cl⟩, (g 0 (by omega)).trans s.b0, s.row.fr f (by decide), ⟨d', pg', by rw [Array.getElem?_setIfInBounds, if_pos rfl, if_pos (by omega)], hM⟩, ⟨rv, xs, (g 9 (by omega)).trans e9, f.own hr (by decide)⟩, f.below s.below, s.hub, s.hbb, s.hN⟩

theorem Sp.add {N : Nat} {w W : World} {ub bb n : Nat} {C : Array Value} {h : Nat → Int} {ws : List Int} {nn low : Int} {np : Nat} {m : Nat → Int} {rk : Nat} (s : Sp N w W ub bb n C h ws nn low np m rk) (i : Nat) (hi : i ≤ 10000) (hw : ws.length ≤ 1000) (n0 : 0 ≤ nn) (n1 : nn ≤ 100000) :
    Calls Yba.prog 6 #[.pointer (some ⟨ub, 1, none⟩), .int .i64 (i : Int)] W fun r w' => r = .returned (.tuple #[]) ∧ ∃ C', Rest C C' ∧ Sp N w w' ub bb n C' h (addW ws i) (nn + 1) (min low i) np m rk := by
  refine (add_any s.fs s.le s.hub i hi hw n0 n1).mono ?_
  rintro r w' ⟨rfl, C', hF, hR, f⟩
  obtain ⟨rv, xs, e9, hr⟩ := s.ret
  obtain ⟨d, pg, e4, hm⟩ := s.mks
  exact ⟨rfl, C', hR, hF, (hR 0 (by omega)).trans s.b0, s.row.fr f (by decide), ⟨d, pg, (hR 4 (by omega)).trans e4, hm.fr f (by decide) (by decide) (by decide)⟩, ⟨rv, xs, (hR 9 (by omega)).trans e9, f.own hr (by decide)⟩, f.below s.below, s.hub, s.hbb, s.hN⟩

theorem own_formS {W : World} {b : Nat} {e : TypeId} {z : Nat} {v : Value} {n : Nat} {xs : List Value} (h : W.ownsRow b e z v n xs) : ∃ a c, v = .slice a n c := by
  rcases h.2 with ⟨rfl, rfl⟩ | ⟨g, cap, cur, rfl, _⟩
  · exact ⟨none, 0, rfl⟩
  · exact ⟨_, cap, rfl⟩
theorem own_neS {W : World} {b : Nat} {e : TypeId} {z : Nat} {v : Value} {n : Nat} {xs : List Value} (h : W.ownsRow b e z v n xs) {k : Nat} {a : Array Value} {t : TypeId} (hk : W.heap[k]? = some (.cells a t (0, 0))) (ht : t ≠ e) : some k ≠ v.ownBlock := by
  intro e1
  rcases h.2 with ⟨rfl, _⟩ | ⟨g, cap, cur, rfl, _, hg, _⟩
  · cases e1
  · have e2 : k = g := by simpa [Value.ownBlock] using e1
    subst e2
    rw [hk] at hg
    simp at hg
    exact ht hg.2

theorem Sp.retd {N : Nat} {w W w3 : World} {ub bb n : Nat} {C : Array Value} {h : Nat → Int} {ws : List Int} {nn low : Int} {np : Nat} {m : Nat → Int} {rk : Nat} (s : Sp N w W ub bb n C h ws nn low np m rk) {rv v3 : Value} {xs ys : List Value} {o : Obj} (hr : W.ownsRow N 67 2 rv rk xs)
    (ho3 : w3.ownsRow N 67 2 v3 (rk + 1) ys) (hg : (W.alloc o).grownBy w3 rv.ownBlock) : (∃ u, w3.cell? ⟨ub, 9, none⟩ = some u) ∧ w3.frozen? ⟨ub, 9, none⟩ = false ∧ Sp N w (w3.setCell ⟨ub, 9, none⟩ v3) ub bb n (C.setIfInBounds 9 v3) h ws nn low np m (rk + 1) := by
  have hC := s.fs.size
  have f3 : Fr N [46, 67] W w3 := ((Fr.refl N [46, 67] W).alloc s.le o).grown (hr.alloc o) (by simp) (by have := s.le; simp; omega) hg
  have e0 : (W.alloc o).heap[ub]? = some (.cells C 46 (0, 0)) := (heap_alloc_lt _ _ (lt_of_heap s.fs.cell)).trans s.fs.cell
  have e3 : w3.heap[ub]? = some (.cells C 46 (0, 0)) := (hg.block ub (lt_of_heap e0) (own_neS hr s.fs.cell (by decide))).trans e0
  have f : Fr N [46, 67] W (w3.setCell ⟨ub, 9, none⟩ v3) := f3.setCell e3 (by simp) s.hub _ _
  have f9 : Fr N [46] w3 (w3.setCell ⟨ub, 9, none⟩ v3) := (Fr.refl N [46] w3).setCell e3 (by simp) s.hub _ _
  obtain ⟨wv, e, ho⟩ := s.fs.own
  obtain ⟨d, pg, e4, hm⟩ := s.mks
  have g : ∀ q, q ≠ 9 → (C.setIfInBounds 9 v3)[q]? = C[q]? := fun q hq => by rw [Array.getElem?_setIfInBounds, if_neg (fun e => hq e.symm)]
  exact ⟨⟨_, by rw [cell_of e3]; exact Array.getElem?_eq_getElem (by omega)⟩, thawed_of e3 _ _, ⟨⟨heap_set_at e3 9 v3, by simp [hC], ⟨wv, (g 1 (by omega)).trans e, f.own ho (by decide)⟩, (g 2 (by omega)).trans s.fs.cn, (g 3 (by omega)).trans s.fs.cl⟩, (g 0 (by omega)).trans s.b0, s.row.fr f (by decide), ⟨d, pg, (g 4 (by omega)).trans e4, hm.fr f (by decide) (by decide) (by decide)⟩, ⟨v3, ys, by rw [Array.getElem?_setIfInBounds, if_pos rfl, if_pos (by omega)], f9.own ho3 (by decide)⟩, f.below s.below, s.hub, s.hbb, s.hN⟩⟩

theorem info67 : Yba.prog.info? 67 = some Yba.t67 := by kernel_rfl

set_option maxRecDepth 100000 in
theorem Sp.retire {N : Nat} {w W : World} {ub bb n : Nat} {C : Array Value} {h : Nat → Int} {ws : List Int} {nn low : Int} {np : Nat} {m : Nat → Int} {rk : Nat} (s : Sp N w W ub bb n C h ws nn low np m rk) (hk : rk ≤ 100) (y : Int) :
    Calls Yba.prog 7 #[.pointer (some ⟨ub, 0, none⟩), .slice none 0 0, .int .u64 y] W fun r w' => r = .returned (.tuple #[]) ∧ ∃ rv', Sp N w w' ub bb n (C.setIfInBounds 9 rv') h ws nn low np m (rk + 1) := by
  obtain ⟨rv, xs, e9, hr⟩ := s.ret
  have HS : Hid (Sp N w W ub bb n C h ws nn low np m rk) := s
  have HR : Hid (W.ownsRow N 67 2 rv rk xs) := hr
  have HE9 : Hid (C[9]? = some rv) := e9
  have c9 : W.cell? ⟨ub, 9, none⟩ = some rv := by rw [cell_of s.fs.cell]; exact e9
  have HC : Hid (∀ (q : Nat) (u : Value), [Value.slice none 0 0, Value.int .u64 y][q]? = some u → (W.alloc (.cells #[.slice none 0 0, .int .u64 y] 67)).cell? ((⟨W.heap.size, 0, none⟩ : Addr).add q) = some u) := fun q u hu => by
    rw [Addr.add_mid, Nat.zero_add, cell_of (heap_alloc_at W _)]
    simpa using hu
  clear s hr e9
  go_enter Yba.func7, Yba.ntmps7
  go_wp2_with (at_builtin; refine wpList_append_own _ rfl (.tmp 10) (.tmp 14) 44 rfl N 67 Yba.t67 _ 2 32 Yba.underlying44 info67 rfl rfl rfl rfl (by omega) rv rk xs rfl (HR.out.alloc _) ⟨W.heap.size, 0, none⟩ 1 1 [.slice none 0 0, .int .u64 y] rfl rfl HC.out (by simp [Value.oneCell']) (by unfold maxLen; omega) (by omega) (by have := HS.out.le; simp; omega) ?_; intro v3 w3 ho3 hg3 _; obtain ⟨⟨u3, c3⟩, f3, hS3⟩ := HS.out.retd HR.out ho3 hg3; obtain ⟨a3, cap3, hv3⟩ := own_formS ho3; subst hv3; have HS3 : Hid _ := hS3; clear hS3 ho3 hg3)
  go_end0
  exact ⟨rfl, _, HS3.out⟩

theorem info30 : Yba.prog.info? 30 = some Yba.t30 := by kernel_rfl
/-- The space as openUndo makes it. -/
def newC (bb n : Nat) : Array Value := #[.slice (some ⟨bb, 0, none⟩) n n, .slice none 0 0, .int .i64 0, .int .i64 0, .pointer none, .int .u32 0, .int .i64 0, .int .u64 0, .int .u32 4294967295, .slice none 0 0]
/-- The cells from 5 to 8. -/
def Tail (C C' : Array Value) : Prop := ∀ k, 5 ≤ k → k ≤ 8 → C'[k]? = C[k]?

set_option maxRecDepth 100000 in
set_option maxHeartbeats 1000000 in
theorem open_any (n : Nat) (hn : n ≤ 3000) (w : World) :
    Calls Yba.prog 4 #[.int .i64 (n : Int)] w fun r w' => ∃ ub bb C np m, r = .returned (.pointer (some ⟨ub, 0, none⟩)) ∧ Sp w.heap.size w w' ub bb n C (fun _ => 0) [] 0 0 np m 0 ∧ n ≤ np * 512 ∧ np = (n + 511) / 512 ∧ Tail (newC bb n) C := by
  have mk1 := fun W => run_make (P := Yba.prog) W 31 30 Yba.t30 _ Yba.underlying31 info30 rfl .i64 .i64 (n : Int) (n : Int) (by omega) (by omega) (by show (8 : Int) * _ ≤ _; omega) (by omega)
  simp only [Int.toNat_natCast] at mk1
  obtain ⟨A1, hA1⟩ : ∃ A1, madeCells (Value.agg #[.int .i64 0]).cells (n * 1) = A1 := ⟨_, rfl⟩
  have mk1' : ∀ w, (Instr.makeSlice 31 (.int .i64 (n : Int)) (.int .i64 (n : Int))).run Yba.prog w = .ok (.slice (some ⟨w.heap.size, 0, none⟩) n n) (w.alloc (.cells A1 30)) := fun w => by rw [← hA1]; exact mk1 w
  have HA : Hid (A1.size = n ∧ ∀ i, i < n → A1[i]? = some (.int .i64 0)) := by
    rw [← hA1]
    refine ⟨by simp [madeCells], fun i hi => ?_⟩
    simp [madeCells, Value.cells, hi, Nat.mod_one]
  have HS0 : Hid (Sp w.heap.size w ((w.alloc (.cells A1 30)).alloc (.cells (newC w.heap.size n) 46)) (w.heap.size + 1) w.heap.size n (newC w.heap.size n) (fun _ => 0) [] 0 0 0 (fun _ => 0) 0) := by
    have e1 : ((w.alloc (.cells A1 30)).alloc (.cells (newC w.heap.size n) 46)).heap[w.heap.size]? = some (.cells A1 30 (0, 0)) := (heap_alloc_lt _ _ (by simp)).trans (heap_alloc_at w _)
    have e2 := heap_alloc_at (w.alloc (.cells A1 30)) (.cells (newC w.heap.size n) 46)
    rw [World.size_alloc] at e2
    exact ⟨⟨e2, rfl, ⟨_, rfl, World.ownsRow_nil _ _ _ _⟩, rfl, rfl⟩, rfl, ⟨A1, e1, HA.out.1, HA.out.2⟩, ⟨_, fun _ => 0, rfl, ⟨.inl ⟨rfl, rfl⟩, fun p hp => absurd hp (by omega), fun p q hp => absurd hp (by omega), fun _ _ => rfl⟩⟩, ⟨_, [], rfl, World.ownsRow_nil _ _ _ _⟩, ((Below.refl _ w).alloc (Nat.le_refl _) _).alloc (by simp) _, by omega, Nat.le_refl _, rfl⟩
  clear mk1 hA1
  go_enter Yba.func4, Yba.ntmps4
  go_wp2
  go_loopg [10] n (fun k i wr => ∃ (t : Nat) (C : Array Value) (np : Nat) (m : Nat → Int), t ≤ n ∧ k = n - t ∧ i = .int .i64 (t : Int) ∧ np = (t + 511) / 512 ∧ Sp w.heap.size w wr (w.heap.size + 1) w.heap.size n C (fun _ => 0) [] 0 0 np m 0 ∧ Tail (newC w.heap.size n) C)
  case atStart => exact ⟨0, _, 0, _, Nat.zero_le _, rfl, rfl, rfl, HS0.out, fun _ _ _ => rfl⟩
  case round =>
    clear HS0
    obtain ⟨t, C, np, m, htn, hgk, rfl, hnp, hS, hT⟩ := hrel
    have HGK : Hid (gk = n - t ∧ np = (t + 511) / 512) := ⟨hgk, hnp⟩
    have HS : Hid (Sp w.heap.size w wr (w.heap.size + 1) w.heap.size n C (fun _ => 0) [] 0 0 np m 0) := hS
    have HT : Hid (Tail (newC w.heap.size n) C) := hT
    clear hS hT
    by_cases hti : t < n
    · by_cases hm : t / 512 = np
      · have HC : Hid (Calls Yba.prog 5 _ wr _) := HS.out.setg t hm (by omega) 1
        clear hgk hnp
        go_wp2_with (go_at_call 5; refine HC.out.mono ?_; rintro r w2 ⟨rfl, d', hS2⟩)
        go_roundg (n - (t + 1))
        case measure => have := HGK.out.1; omega
        case rel => exact ⟨t + 1, _, np + 1, _, by omega, rfl, by go_num, by have := HGK.out.2; omega, hS2, fun k h1 h2 => by rw [Array.getElem?_setIfInBounds, if_neg (by omega)]; exact HT.out k h1 h2⟩
      · have HC : Hid (Calls Yba.prog 5 _ wr _) := HS.out.set t (by omega) (by omega) 1
        clear hgk hnp
        go_wp2_with (go_at_call 5; refine HC.out.mono ?_; rintro r w2 ⟨rfl, hS2⟩)
        go_roundg (n - (t + 1))
        case measure => have := HGK.out.1; omega
        case rel => exact ⟨t + 1, _, np, _, by omega, rfl, by go_num, by have := HGK.out.2; omega, hS2, HT.out⟩
    · have HE : Hid (t = n) := by show _ = _; omega
      clear hgk hnp
      go_wp2
      go_ret
      have h1 := HE.out
      have h2 := HGK.out.2
      exact ⟨_, _, C, np, m, rfl, HS.out, by omega, by omega, HT.out⟩
end Go.Proofs.Ybulkboxs
