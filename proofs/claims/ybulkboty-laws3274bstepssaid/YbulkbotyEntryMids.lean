/-
  checkEntry: the states between its rounds. Of this seat's own.
-/
import Derived.Test.YbulkbotyEntryParts
import Derived.Test.YbulkbotyHeld
namespace Go.Proofs.Ybulkboty
open Go.RowKit Go.ChangeMaps

theorem Rep.besides {base : Nat} {w w' : World} {cb : Nat} {c : Cfg} {tab : List (ByteArray × Value)} {blk : ByteArray → Nat} {ow : ByteArray → Option Nat} {S : ByteArray → M} (R : Rep base w cb c tab blk ow S)
    {k : Nat} {a : Array Value} {t : TypeId} (hk : w.heap[k]? = some (.cells a t (0, 0))) (h81 : t ≠ 81) (h88 : t ≠ 88) (h69 : t ≠ 69) (h : ∀ j, j < w.heap.size → j ≠ k → w'.heap[j]? = w.heap[j]?) : Rep base w' cb c tab blk ow S := by
  have hcb : cb ≠ k := by
    rintro rfl
    have := R.cfg
    rw [hk] at this
    simp at this
    exact h81 this.2
  have hmm : c.mm ≠ k := by
    rintro rfl
    have := R.map
    rw [hk] at this
    cases this
  refine ⟨(h cb (lt_of_heap R.cfg) hcb).trans R.cfg, (h _ (lt_of_heap R.map) hmm).trans R.map, R.ptr, ?_, R.dis, R.diso, R.out, R.lo, R.hb, R.hm⟩
  intro nm v hv
  have hE := R.ent nm v hv
  obtain ⟨h1, h2⟩ := R.apart hv hk h88 (.inl h69)
  exact hE.kept (h _ hE.lt (Ne.symm h1)) (fun g hg => h g (hE.owlt g hg) (fun e => h2 (by rw [hg, e])))

/-- The members' row: the first t places. -/
def Mems (W : World) (MB n t : Nat) (nm : Nat → ByteArray) (tab : List (ByteArray × Value)) (blk : ByteArray → Nat) : Prop :=
  ∃ CM, W.heap[MB]? = some (.cells CM 70 (0, 0)) ∧ CM.size = n ∧ ∀ k, k < t → CM[k]? = some (.pointer (some ⟨blk (nm k), 0, none⟩)) ∧ ∃ v, look (nm k) tab = some v

/-- In loop 1. -/
structure Mid1 (N B : Nat) (w W : World) (cb MB n t : Nat) (c : Cfg) (nm : Nat → ByteArray) (S : ByteArray → M) (tab : List (ByteArray × Value)) (blk : ByteArray → Nat) (ow : ByteArray → Option Nat) : Prop where
  rep : Rep B W cb c tab blk ow S
  mem : Mems W MB n t nm tab blk
  below : Below N w W

/-- One round of loop 1. W1: behind the box; W2: behind 'member'. -/
theorem Mid1.step {N B : Nat} {w W : World} {cb MB n t : Nat} {c : Cfg} {nm : Nat → ByteArray} {S : ByteArray → M} {tab : List (ByteArray × Value)} {blk : ByteArray → Nat} {ow : ByteArray → Option Nat}
    (h : Mid1 N B w W cb MB n t c nm S tab blk ow) (ht : t < n) (hNB : N ≤ B) (hNM : N ≤ MB) (hwN : w.heap.size = N) (o : Obj) {W2 : World} {tab' : List (ByteArray × Value)} {blk' : ByteArray → Nat} {ow' : ByteArray → Option Nat}
    (R' : Rep B W2 cb c tab' blk' ow' S) (hl : ∃ v, look (nm t) tab' = some v) (hold : ∀ x v, look x tab = some v → look x tab' = some v ∧ blk' x = blk x) (hK : Kept c.mm none (W.alloc o) W2) :
    (∃ v, W2.cell? ⟨MB, t, none⟩ = some v) ∧ W2.frozen? ⟨MB, t, none⟩ = false ∧
      Mid1 N B w (W2.setCell ⟨MB, t, none⟩ (.pointer (some ⟨blk' (nm t), 0, none⟩))) cb MB n (t + 1) c nm S tab' blk' ow' := by
  obtain ⟨CM, m1, m2, m3⟩ := h.mem
  have hml := lt_of_heap m1
  have hmm : MB ≠ c.mm := by
    rintro rfl
    have := h.rep.map
    rw [m1] at this
    cases this
  have e2 : W2.heap[MB]? = some (.cells CM 70 (0, 0)) := (hK.block MB (by simp; omega) hmm (by simp)).trans ((heap_alloc_lt W o hml).trans m1)
  refine ⟨⟨CM[t]'(by omega), by rw [cell_of e2]; simp⟩, thawed_of e2 _ _, ⟨R'.besides e2 (by decide) (by decide) (by decide) (fun j _ hj => heap_set_other _ hj _ _ _), ⟨_, heap_set_at e2 t _, by simp [m2], fun k hk => ?_⟩, ?_⟩⟩
  · rcases Nat.lt_or_ge k t with h1 | h1
    · obtain ⟨a1, v, a2⟩ := m3 k h1
      obtain ⟨b1, b2⟩ := hold _ v a2
      refine ⟨?_, v, b1⟩
      rw [Array.getElem?_setIfInBounds, if_neg (by omega), b2]
      exact a1
    · have : k = t := by omega
      subst this
      refine ⟨?_, hl⟩
      rw [Array.getElem?_setIfInBounds, if_pos rfl, if_pos (by omega)]
  · have hb := h.rep.hm
    have hs := h.below.size
    refine ⟨hK.os.trans h.below.os, hK.tape.trans h.below.tape, hK.output.trans h.below.output, ?_, fun k hk => ?_⟩
    · have := hK.size
      simp at this ⊢
      omega
    · rw [heap_set_other _ (by omega), hK.block k (by simp; omega) (by omega) (by simp), heap_alloc_lt W o (by omega)]
      exact h.below.block k hk

/-- In loop 2. -/
structure Mid2 (N B : Nat) (w W : World) (cb MB RB n : Nat) (c : Cfg) (nm : Nat → ByteArray) (tab : List (ByteArray × Value)) (blk : ByteArray → Nat) (CM : Array Value) (ow : ByteArray → Option Nat) (s : (ByteArray → M) × (Nat → ByteArray)) : Prop where
  rep : Rep B W cb c tab blk ow s.1
  mem : W.heap[MB]? = some (.cells CM 70 (0, 0))
  rs : RowAt W RB 62 n (fun k => .string (s.2 k))
  below : Below N w W

/-- What region 12 reads. -/
def HS (BB : Nat) (CB : Array Value) (LB : Nat) (CL : Array Value) (MB : Nat) (CM : Array Value) (W : World) : Prop :=
  W.heap[BB]? = some (.cells CB 68 (0, 0)) ∧ W.heap[LB]? = some (.cells CL 69 (0, 0)) ∧ W.heap[MB]? = some (.cells CM 70 (0, 0))

theorem Mid2.step {N B : Nat} {w W : World} {cb MB RB n : Nat} {c : Cfg} {nm : Nat → ByteArray} {tab : List (ByteArray × Value)} {blk : ByteArray → Nat} {CM : Array Value} {ow : ByteArray → Option Nat} {s : (ByteArray → M) × (Nat → ByteArray)}
    (h : Mid2 N B w W cb MB RB n c nm tab blk CM ow s) (hNB : N ≤ B) (hNR : N ≤ RB) (hwN : w.heap.size = N) {BB LB : Nat} {CB CL : Array Value} (hS : HS BB CB LB CL MB CM W) (hBB : BB < N) (hLB : LB < N)
    (lv am : Nat → Int) {i : Nat} (hi : i < n) {v : Value} (hlk : look (nm i) tab = some v) {W2 : World} {ow' : ByteArray → Option Nat}
    (R' : Rep B W2 cb c tab blk ow' (upd s.1 (nm i) (chk c (s.1 (nm i)) (lv i) (am i)).2)) (hK : Kept (blk (nm i)) (ow (nm i)) W.drew W2) :
    HS BB CB LB CL MB CM W2 ∧ HS BB CB LB CL MB CM (W2.setCell ⟨RB, i, none⟩ (.string (chk c (s.1 (nm i)) (lv i) (am i)).1)) ∧ (∃ v, W2.cell? ⟨RB, i, none⟩ = some v) ∧ W2.frozen? ⟨RB, i, none⟩ = false ∧
      Mid2 N B w (W2.setCell ⟨RB, i, none⟩ (.string (chk c (s.1 (nm i)) (lv i) (am i)).1)) cb MB RB n c nm tab blk CM ow' (stp c nm lv am s i) := by
  obtain ⟨CR, r1, r2, r3⟩ := h.rs
  obtain ⟨s1, s2, s3⟩ := hS
  have hml := lt_of_heap h.mem
  have hrl := lt_of_heap r1
  have hsz := h.below.size
  obtain ⟨l1, l2⟩ := h.rep.lo (nm i) v hlk
  obtain ⟨am1, am2⟩ := h.rep.apart hlk h.mem (by decide) (.inl (by decide))
  obtain ⟨ar1, ar2⟩ := h.rep.apart hlk r1 (by decide) (.inl (by decide))
  have low : ∀ k, k < N → W2.heap[k]? = W.heap[k]? := fun k hk => hK.block k (by show k < W.heap.size; omega) (by omega) (fun e => by have := (l2 k e.symm).1; omega)
  have em : W2.heap[MB]? = some (.cells CM 70 (0, 0)) := (hK.block MB hml am1 am2).trans h.mem
  have er : W2.heap[RB]? = some (.cells CR 62 (0, 0)) := (hK.block RB hrl ar1 ar2).trans r1
  have hRM : MB ≠ RB := by
    rintro rfl
    rw [em] at er
    simp at er
  have rw2 : RowAt W2 RB 62 n (fun k => .string (s.2 k)) := ⟨CR, er, r2, r3⟩
  refine ⟨⟨(low _ hBB).trans s1, (low _ hLB).trans s2, em⟩, ⟨?_, ?_, ?_⟩, ⟨CR[i]'(by omega), by rw [cell_of er]; simp⟩, thawed_of er _ _, ⟨?_, ?_, ?_, ?_⟩⟩
  · rw [heap_set_other _ (by omega)]; exact (low _ hBB).trans s1
  · rw [heap_set_other _ (by omega)]; exact (low _ hLB).trans s2
  · rw [heap_set_other _ hRM]; exact em
  · exact R'.besides er (by decide) (by decide) (by decide) (fun j _ hj => heap_set_other _ hj _ _ _)
  · rw [heap_set_other _ hRM]; exact em
  · refine (rw2.set hi _).congr (fun k hk => ?_)
    simp only [stp]
    split <;> rfl
  · refine ⟨hK.os.trans h.below.os, hK.tape.trans h.below.tape, hK.output.trans h.below.output, ?_, fun k hk => ?_⟩
    · have : W.heap.size ≤ W2.heap.size := hK.size
      simp
      omega
    · rw [heap_set_other _ (by omega), low k hk]
      exact h.below.block k hk

end Go.Proofs.Ybulkboty
