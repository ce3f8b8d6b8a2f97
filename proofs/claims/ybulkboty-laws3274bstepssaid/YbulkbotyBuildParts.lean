/-
  zzs3274bbuild: the parts. Of this seat's own.
-/
import Derived.Test.YbulkbotyNewParts
import Derived.Deep.MidRow
namespace Go.Proofs.Ybulkboty
open Go.RowKit Go.ChangeMaps

theorem info68 : Yba.prog.info? 68 = some Yba.t68 := by kernel_rfl
theorem info3 : Yba.prog.info? 3 = some Yba.t3 := by kernel_rfl
theorem size68 : (Yba.prog.info? 68).map (·.size) = some 9 := by kernel_rfl
theorem size75 : (Yba.prog.info? 75).map (·.size) = some 3 := by kernel_rfl

/-- A bid's level, its rate, its price. -/
def lvOf (l : Int) : Int := l % 99999999999 + 1
def bidAt (obj : Bool) (m l a : Int) : Array Value := bidCells (codeOf m) (if obj then 0 else lvOf l) (if obj then lvOf l else 0) a

/-- THE BIDS: row bb holds n of them, the first k as told; row lb the levels. -/
structure Built (w : World) (bb lb n k : Nat) (obj : Bool) (mf lf af : Nat → Int) : Prop where
  bids : ∃ c, w.heap[bb]? = some (.cells c 68 (0, 0)) ∧ c.size = n * 9 ∧ ∀ i, i < k → ∀ j, j < 9 → c[i * 9 + j]? = (bidAt obj (mf i) (lf i) (af i))[j]?
  levs : ∃ d, w.heap[lb]? = some (.cells d 69 (0, 0)) ∧ d.size = n ∧ ∀ i, i < k → d[i]? = some (.int .i64 (lvOf (lf i)))

theorem Built.kept {w w' : World} {bb lb n k : Nat} {obj : Bool} {mf lf af : Nat → Int} (h : Built w bb lb n k obj mf lf af) (h1 : w'.heap[bb]? = w.heap[bb]?) (h2 : w'.heap[lb]? = w.heap[lb]?) : Built w' bb lb n k obj mf lf af := by
  obtain ⟨⟨c, a1, a2⟩, ⟨d, b1, b2⟩⟩ := h
  exact ⟨⟨c, h1.trans a1, a2⟩, ⟨d, h2.trans b1, b2⟩⟩

theorem Built.ne {w : World} {bb lb n k : Nat} {obj : Bool} {mf lf af : Nat → Int} (h : Built w bb lb n k obj mf lf af) : bb ≠ lb := by
  rintro rfl
  obtain ⟨⟨c, a1, _⟩, ⟨d, b1, _⟩⟩ := h
  rw [a1] at b1
  simp at b1

/-- Many cells stored into a row. -/
theorem heap_setCells_at {b : Nat} {t : TypeId} {fz : Nat × Nat} : ∀ (vs : List Value) (o : Nat) {w : World} {c : Array Value}, w.heap[b]? = some (.cells c t fz) → o + vs.length ≤ c.size →
    ∃ c', (w.setCells b o vs).heap[b]? = some (.cells c' t fz) ∧ c'.size = c.size ∧ (∀ j, j < vs.length → c'[o + j]? = vs[j]?) ∧ ∀ i, (i < o ∨ o + vs.length ≤ i) → c'[i]? = c[i]?
  | [], o, w, c, h, _ => ⟨c, h, rfl, by simp, fun _ _ => rfl⟩
  | v :: vs, o, w, c, h, hl => by
    simp only [List.length_cons] at hl
    obtain ⟨c', h1, h2, h3, h4⟩ := heap_setCells_at vs (o + 1) (heap_set_at h o v) (by simp; omega)
    refine ⟨c', h1, by rw [h2]; simp, ?_, ?_⟩
    · intro j hj
      cases j with
      | zero =>
        rw [Nat.add_zero, h4 o (by omega)]
        simp [show o < c.size by omega]
      | succ j =>
        have := h3 j (by simpa using hj)
        rw [show o + (j + 1) = o + 1 + j by omega, this]
        rfl
    · intro i hi
      simp only [List.length_cons] at hi
      rw [h4 i (by omega)]
      rw [Array.getElem?_setIfInBounds]
      rw [if_neg (by omega)]

theorem heap_setCells_other {b k : Nat} (hne : k ≠ b) : ∀ (vs : List Value) (o : Nat) (w : World), (w.setCells b o vs).heap[k]? = w.heap[k]?
  | [], _, _ => rfl
  | v :: vs, o, w => (heap_setCells_other hne vs (o + 1) (w.setCell ⟨b, o, none⟩ v)).trans (heap_set_other w hne _ _ _)


theorem setCells_same (b : Nat) : ∀ (vs : List Value) (o : Nat) (W : World), (W.setCells b o vs).os = W.os ∧ (W.setCells b o vs).tape = W.tape ∧ (W.setCells b o vs).output = W.output ∧ (W.setCells b o vs).heap.size = W.heap.size
  | [], _, _ => ⟨rfl, rfl, rfl, rfl⟩
  | v :: vs, o, W => by
    have h := setCells_same b vs (o + 1) (W.setCell ⟨b, o, none⟩ v)
    rw [World.size_setCell] at h
    exact h

theorem Below.setCells {B : Nat} {w wr : World} (h : Below B w wr) {b : Nat} (hb : B ≤ b) (o : Nat) (vs : List Value) : Below B w (wr.setCells b o vs) := by
  obtain ⟨h1, h2, h3, h4⟩ := setCells_same b vs o wr
  exact ⟨h1.trans h.os, h2.trans h.tape, h3.trans h.output, by rw [h4]; exact h.size, fun k hk => (heap_setCells_other (by omega) _ _ _).trans (h.block k hk)⟩

theorem bid_one (nm : ByteArray) (r p a : Int) : (#[Value.string nm, .int .u64 0, .int .i64 0, .pointer none, .string ⟨#[]⟩, .int .i64 r, .int .i64 p, .string ⟨#[]⟩, .int .i64 a] : Array Value).all (·.oneCell') = true := by
  simp [Value.oneCell']

theorem bidAt_size (obj : Bool) (m l a : Int) : (bidAt obj m l a).size = 9 := rfl

/-- One bid more: behind the bid's store. -/
theorem Built.mid {w wr : World} {n t : Nat} {obj : Bool} {mf lf af : Nat → Int} (h : Built wr w.heap.size (w.heap.size + 1) n t obj mf lf af) (hB : Below w.heap.size w wr) (ht : t < n) (o1 o2 : Obj) {W2 : World}
    (hW : W2 = (((wr.alloc o1).alloc o2).drew).setCells w.heap.size (t * 9) (bidAt obj (mf t) (lf t) (af t)).toList) :
    (∃ dv, W2.cell? ⟨w.heap.size + 1, t, none⟩ = some dv) ∧ W2.frozen? ⟨w.heap.size + 1, t, none⟩ = false ∧
      Built (W2.setCell ⟨w.heap.size + 1, t, none⟩ (.int .i64 (lvOf (lf t)))) w.heap.size (w.heap.size + 1) n (t + 1) obj mf lf af ∧ Below w.heap.size w (W2.setCell ⟨w.heap.size + 1, t, none⟩ (.int .i64 (lvOf (lf t)))) := by
  obtain ⟨⟨C, hC1, hC2, hC3⟩, ⟨D, hD1, hD2, hD3⟩⟩ := h
  have hCl := lt_of_heap hC1
  have hDl := lt_of_heap hD1
  have e1 : (((wr.alloc o1).alloc o2).drew).heap[w.heap.size]? = some (.cells C 68 (0, 0)) := (heap_alloc_lt _ _ (by simp; omega)).trans ((heap_alloc_lt _ _ hCl).trans hC1)
  have e2 : (((wr.alloc o1).alloc o2).drew).heap[w.heap.size + 1]? = some (.cells D 69 (0, 0)) := (heap_alloc_lt _ _ (by simp; omega)).trans ((heap_alloc_lt _ _ hDl).trans hD1)
  have hsz : (bidAt obj (mf t) (lf t) (af t)).toList.length = 9 := rfl
  obtain ⟨C', c1, c2, c3, c4⟩ := heap_setCells_at (bidAt obj (mf t) (lf t) (af t)).toList (t * 9) e1 (by rw [hsz]; omega)
  rw [← hW] at c1
  have d1 : W2.heap[w.heap.size + 1]? = some (.cells D 69 (0, 0)) := by rw [hW, heap_setCells_other (by omega)]; exact e2
  have hBW : Below w.heap.size w W2 := by
    have hb0 : Below w.heap.size w (((wr.alloc o1).alloc o2).drew) := ((hB.alloc (by omega) o1).alloc (by simp; omega) o2).drew
    rw [hW]
    exact Below.setCells hb0 (Nat.le_refl _) _ _
  refine ⟨⟨D[t]'(by omega), by rw [cell_of d1]; simp⟩, thawed_of d1 _ _, ⟨⟨C', ?_, by rw [c2, hC2], ?_⟩, ⟨_, heap_set_at d1 t _, by simp [hD2], ?_⟩⟩, hBW.setCell (by simp) _⟩
  · rw [heap_set_other _ (by omega)]; exact c1
  · intro i hi j hj
    rcases Nat.lt_or_ge i t with h | h
    · rw [c4 _ (by left; omega)]
      exact hC3 i h j hj
    · have : i = t := by omega
      subst this
      rw [c3 j (by rw [hsz]; exact hj)]
      rw [Array.getElem?_toList]
  · intro i hi
    rcases Nat.lt_or_ge i t with h | h
    · rw [Array.getElem?_setIfInBounds, if_neg (by omega)]
      exact hD3 i h
    · have : i = t := by omega
      subst this
      rw [Array.getElem?_setIfInBounds, if_pos rfl, if_pos (by omega)]

end Go.Proofs.Ybulkboty
