/-
  LawS3274BSteps: the parts of its walk. Of this seat's own.
-/
import Derived.Test.YbulkbotyPrep
namespace Go.Proofs.Ybulkboty
open Go.RowKit Go.ChangeMaps

/-- In the loop over the steps. -/
structure St3 (N : Nat) (w W : World) (cb WB QB n : Nat) (c : Cfg) (tab : List (ByteArray × Value)) (blk : ByteArray → Nat) (ow : ByteArray → Option Nat) (s : (ByteArray → M) × (Nat → ByteArray)) (g : Nat → Bool) : Prop where
  rep : Rep N W cb c tab blk ow s.1
  want : RowAt W WB 62 n (fun k => .string (s.2 k))
  seen : RowAt W QB 4 n (fun i => .bool (g i))
  below : Below N w W

/-- What the region reads. -/
def HB (BB : Nat) (CB : Array Value) (LB : Nat) (CL : Array Value) (W : World) : Prop :=
  W.heap[BB]? = some (.cells CB 68 (0, 0)) ∧ W.heap[LB]? = some (.cells CL 69 (0, 0))

/-- Behind 'member'. -/
structure St3m (N : Nat) (w W : World) (cb WB QB n : Nat) (c : Cfg) (tab : List (ByteArray × Value)) (blk : ByteArray → Nat) (ow : ByteArray → Option Nat) (s : (ByteArray → M) × (Nat → ByteArray)) (g : Nat → Bool) (nm : ByteArray) (BB : Nat) (CB : Array Value) (LB : Nat) (CL : Array Value) : Prop where
  st : St3 N w W cb WB QB n c tab blk ow s g
  lk : ∃ v, look nm tab = some v
  hs : HB BB CB LB CL W

theorem St3.member {N : Nat} {w W : World} {cb WB QB n : Nat} {c : Cfg} {tab : List (ByteArray × Value)} {blk : ByteArray → Nat} {ow : ByteArray → Option Nat} {s : (ByteArray → M) × (Nat → ByteArray)} {g : Nat → Bool}
    (h : St3 N w W cb WB QB n c tab blk ow s g) (hwN : w.heap.size = N) {nm : ByteArray} {BB LB : Nat} {CB CL : Array Value} (hS : HB BB CB LB CL W) {W1 : World} {tab' : List (ByteArray × Value)} {blk' : ByteArray → Nat} {ow' : ByteArray → Option Nat}
    (R' : Rep N W1 cb c tab' blk' ow' s.1) (hl : ∃ v, look nm tab' = some v) (hK : Kept c.mm none W.drew W1) : St3m N w W1 cb WB QB n c tab' blk' ow' s g nm BB CB LB CL := by
  have hm := h.rep.hm
  have hsz := h.below.size
  have kc : ∀ {k : Nat} {a : Array Value} {t : TypeId}, W.heap[k]? = some (.cells a t (0, 0)) → W1.heap[k]? = W.heap[k]? := fun {k a t} hk => hK.block k (lt_of_heap hk) (by
    rintro rfl
    have := h.rep.map
    rw [hk] at this
    cases this) (by simp)
  obtain ⟨CW, w1, w2⟩ := h.want
  obtain ⟨CQ, q1, q2⟩ := h.seen
  refine ⟨⟨R', ⟨CW, (kc w1).trans w1, w2⟩, ⟨CQ, (kc q1).trans q1, q2⟩, ?_⟩, hl, ⟨(kc hS.1).trans hS.1, (kc hS.2).trans hS.2⟩⟩
  refine ⟨hK.os.trans h.below.os, hK.tape.trans h.below.tape, hK.output.trans h.below.output, Nat.le_trans hsz hK.size, fun k hk => ?_⟩
  rw [hK.block k (by show k < W.heap.size; omega) (by omega) (by simp)]
  exact h.below.block k hk

theorem St3m.check {N : Nat} {w W : World} {cb WB QB n : Nat} {c : Cfg} {nm : Nat → ByteArray} {tab : List (ByteArray × Value)} {blk : ByteArray → Nat} {ow : ByteArray → Option Nat} {s : (ByteArray → M) × (Nat → ByteArray)} {g : Nat → Bool} {i : Nat} {BB LB : Nat} {CB CL : Array Value}
    (h : St3m N w W cb WB QB n c tab blk ow s g (nm i) BB CB LB CL) (hwN : w.heap.size = N) (hBB : BB < N) (hLB : LB < N) (hWB : N ≤ WB) (hi : i < n) (lv am : Nat → Int) {W2 : World} {ow' : ByteArray → Option Nat}
    (R' : Rep N W2 cb c tab blk ow' (upd s.1 (nm i) (chk c (s.1 (nm i)) (lv i) (am i)).2)) (hK : Kept (blk (nm i)) (ow (nm i)) W W2) :
    HB BB CB LB CL W2 ∧ HB BB CB LB CL (W2.setCell ⟨WB, i, none⟩ (.string (chk c (s.1 (nm i)) (lv i) (am i)).1)) ∧ (∃ v, W2.cell? ⟨WB, i, none⟩ = some v) ∧ W2.frozen? ⟨WB, i, none⟩ = false ∧
      St3 N w (W2.setCell ⟨WB, i, none⟩ (.string (chk c (s.1 (nm i)) (lv i) (am i)).1)) cb WB QB n c tab blk ow' (stp c nm lv am s i) g := by
  obtain ⟨v, hlk⟩ := h.lk
  obtain ⟨CW, r1, r2, r3⟩ := h.st.want
  obtain ⟨CQ, q1, q2, q3⟩ := h.st.seen
  obtain ⟨s1, s2⟩ := h.hs
  have hrl := lt_of_heap r1
  have hql := lt_of_heap q1
  have hsz := h.st.below.size
  obtain ⟨l1, l2⟩ := h.st.rep.lo (nm i) v hlk
  obtain ⟨ar1, ar2⟩ := h.st.rep.apart hlk r1 (by decide) (.inl (by decide))
  obtain ⟨aq1, aq2⟩ := h.st.rep.apart hlk q1 (by decide) (.inl (by decide))
  have low : ∀ k, k < N → W2.heap[k]? = W.heap[k]? := fun k hk => hK.block k (by omega) (by omega) (fun e => by have := (l2 k e.symm).1; omega)
  have er : W2.heap[WB]? = some (.cells CW 62 (0, 0)) := (hK.block WB hrl ar1 ar2).trans r1
  have eq : W2.heap[QB]? = some (.cells CQ 4 (0, 0)) := (hK.block QB hql aq1 aq2).trans q1
  have hne : QB ≠ WB := by
    rintro rfl
    rw [eq] at er
    simp at er
  have rw2 : RowAt W2 WB 62 n (fun k => .string (s.2 k)) := ⟨CW, er, r2, r3⟩
  refine ⟨⟨(low _ hBB).trans s1, (low _ hLB).trans s2⟩, ⟨?_, ?_⟩, ⟨CW[i]'(by omega), by rw [cell_of er]; simp⟩, thawed_of er _ _, ⟨?_, ?_, ?_, ?_⟩⟩
  · rw [heap_set_other _ (by omega)]; exact (low _ hBB).trans s1
  · rw [heap_set_other _ (by omega)]; exact (low _ hLB).trans s2
  · exact R'.besides er (by decide) (by decide) (by decide) (fun j _ hj => heap_set_other _ hj _ _ _)
  · refine (rw2.set hi _).congr (fun k hk => ?_)
    simp only [stp]
    split <;> rfl
  · exact ⟨CQ, by rw [heap_set_other _ hne]; exact eq, q2, q3⟩
  · refine ⟨hK.os.trans h.st.below.os, hK.tape.trans h.st.below.tape, hK.output.trans h.st.below.output, ?_, fun k hk => ?_⟩
    · have : W.heap.size ≤ W2.heap.size := hK.size
      simp
      omega
    · rw [heap_set_other _ (by omega), low k hk]
      exact h.st.below.block k hk

/-- 'seen[i] = true'. -/
theorem St3.mark {N : Nat} {w W : World} {cb WB QB n : Nat} {c : Cfg} {tab : List (ByteArray × Value)} {blk : ByteArray → Nat} {ow : ByteArray → Option Nat} {s : (ByteArray → M) × (Nat → ByteArray)} {g g' : Nat → Bool}
    (h : St3 N w W cb WB QB n c tab blk ow s g) (hQB : N ≤ QB) {i : Nat} (hi : i < n) (hg : ∀ k, g' k = if k = i then true else g k) :
    (∃ v, W.cell? ⟨QB, i, none⟩ = some v) ∧ W.frozen? ⟨QB, i, none⟩ = false ∧ St3 N w (W.setCell ⟨QB, i, none⟩ (.bool true)) cb WB QB n c tab blk ow s g' := by
  obtain ⟨CQ, q1, q2, q3⟩ := h.seen
  obtain ⟨CW, r1, r2, r3⟩ := h.want
  have hne : WB ≠ QB := by
    rintro rfl
    rw [q1] at r1
    simp at r1
  refine ⟨⟨_, h.seen.cell hi⟩, h.seen.thawed i, ⟨?_, ?_, ?_, h.below.setCell hQB _⟩⟩
  · exact h.rep.besides q1 (by decide) (by decide) (by decide) (fun j _ hj => heap_set_other _ hj _ _ _)
  · exact ⟨CW, by rw [heap_set_other _ hne]; exact r1, r2, r3⟩
  · refine (h.seen.set hi _).congr (fun k _ => ?_)
    rw [hg k]
    split <;> rfl

/-- In the loop that lists the syndicate. -/
structure VInv (w W : World) (km : Nat) (cl : List (ByteArray × ByteArray)) : Prop where
  map : W.heap[km]? = some (clsObj cl)
  nd : (cl.map (·.1)).Nodup
  below : Below w.heap.size w W

theorem VInv.step {w W : World} {km : Nat} {cl : List (ByteArray × ByteArray)} (h : VInv w W km cl) (hk : w.heap.size ≤ km) (k v : ByteArray) : VInv w (setBlock W km (clsObj (cput k v cl))) km (cput k v cl) := by
  refine ⟨heap_block_at h.map, cput_nodup _ _ h.nd, ⟨h.below.os, h.below.tape, h.below.output, ?_, fun j hj => ?_⟩⟩
  · have := h.below.size
    simpa [ChangeMaps.setBlock] using this
  · rw [heap_block_other (by omega)]
    exact h.below.block j hj

end Go.Proofs.Ybulkboty
