/-
  Blocks, rows, operations that may be taken first. Of this seat's own.
-/
import Derived.Test.YbulkbovoRows
import Derived.WalkKit
import Derived.ProofKit
import Derived.WalkSpells
import Derived.Carry
import Derived.Deep.MidRow
import Derived.Deep.RegionHeld
import Derived.Deep.RegionWith
import Derived.Deep.DeepCutAuto
import Derived.Deep.LoopGhost
import Derived.BigQuiet
import Derived.Laws.AppendOwn
import Derived.Laws.OwnMore
namespace Go.Proofs.Ybulkbovo
open Go.RowKit

theorem lt_of_heap {w : World} {b : Nat} {o : Obj} (h : w.heap[b]? = some o) : b < w.heap.size := (Array.getElem?_eq_some_iff.1 h).1
theorem cell_of {w : World} {b : Nat} {c : Array Value} {t : TypeId} {fz : Nat × Nat} (h : w.heap[b]? = some (.cells c t fz)) (o : Nat) : w.cell? ⟨b, o, none⟩ = c[o]? := by simp [World.cell?, h]
theorem thawed_of {w : World} {b : Nat} {c : Array Value} {t : TypeId} (h : w.heap[b]? = some (.cells c t (0, 0))) (o : Nat) (s : Option Nat) : w.frozen? ⟨b, o, s⟩ = false := by simp [World.frozen?, h]
theorem heap_set_at {w : World} {b : Nat} {c : Array Value} {t : TypeId} {fz : Nat × Nat} (h : w.heap[b]? = some (.cells c t fz)) (o : Nat) (v : Value) : (w.setCell ⟨b, o, none⟩ v).heap[b]? = some (.cells (c.setIfInBounds o v) t fz) := by
  simp [World.setCell, Array.getElem?_modify, h]
theorem heap_set_other (w : World) {b k : Nat} (hne : k ≠ b) (o : Nat) (s : Option Nat) (v : Value) : (w.setCell ⟨b, o, s⟩ v).heap[k]? = w.heap[k]? := Below.heap_setCell w ⟨b, o, s⟩ v k hne
theorem heap_alloc_lt (w : World) (o : Obj) {k : Nat} (h : k < w.heap.size) : (w.alloc o).heap[k]? = w.heap[k]? := Below.heap_alloc w o k h
theorem heap_alloc_at (w : World) (o : Obj) : (w.alloc o).heap[w.heap.size]? = some o := heap_alloc_new w o

theorem heap_setCells_at {b : Nat} {t : TypeId} {fz : Nat × Nat} : ∀ (vs : List Value) (o : Nat) {w : World} {c : Array Value}, w.heap[b]? = some (.cells c t fz) → o + vs.length ≤ c.size →
    ∃ c', (w.setCells b o vs).heap[b]? = some (.cells c' t fz) ∧ c'.size = c.size ∧ (∀ j, j < vs.length → c'[o + j]? = vs[j]?) ∧ ∀ i, (i < o ∨ o + vs.length ≤ i) → c'[i]? = c[i]?
  | [], o, w, c, h, _ => ⟨c, h, rfl, by simp, fun _ _ => rfl⟩
  | v :: vs, o, w, c, h, hl => by
    simp only [List.length_cons] at hl
    obtain ⟨c', h1, h2, h3, h4⟩ := heap_setCells_at vs (o + 1) (heap_set_at h o v) (by simp; omega)
    refine ⟨c', h1, by rw [h2]; simp, ?_, ?_⟩
    · intro j hj
      cases j with
      | zero =>
        rw [Nat.add_zero, h4 o (by omega)]
        simp [show o < c.size by omega]
      | succ j =>
        have := h3 j (by simpa using hj)
        rw [show o + (j + 1) = o + 1 + j by omega, this]
        rfl
    · intro i hi
      simp only [List.length_cons] at hi
      rw [h4 i (by omega)]
      rw [Array.getElem?_setIfInBounds]
      rw [if_neg (by omega)]
theorem heap_setCells_other {b k : Nat} (hne : k ≠ b) : ∀ (vs : List Value) (o : Nat) (w : World), (w.setCells b o vs).heap[k]? = w.heap[k]?
  | [], _, _ => rfl
  | v :: vs, o, w => (heap_setCells_other hne vs (o + 1) (w.setCell ⟨b, o, none⟩ v)).trans (heap_set_other w hne _ _ _)
theorem setCells_same (b : Nat) : ∀ (vs : List Value) (o : Nat) (W : World), (W.setCells b o vs).os = W.os ∧ (W.setCells b o vs).tape = W.tape ∧ (W.setCells b o vs).output = W.output ∧ (W.setCells b o vs).heap.size = W.heap.size
  | [], _, _ => ⟨rfl, rfl, rfl, rfl⟩
  | v :: vs, o, W => by
    have h := setCells_same b vs (o + 1) (W.setCell ⟨b, o, none⟩ v)
    rw [World.size_setCell] at h
    exact h

/-- The cells of a node without id. -/
def nodeC (s : ByteArray) : List Value := [.int .u64 0, .int .u64 0, .string s]

/-- A row of at least n nodes. -/
def NodeRow (W : World) (b n : Nat) (f : Nat → ByteArray) : Prop :=
  ∃ c, W.heap[b]? = some (.cells c 30 (0, 0)) ∧ n * 3 ≤ c.size ∧ ∀ i, i < n → ∀ j, j < 3 → c[i * 3 + j]? = (nodeC (f i))[j]?

theorem NodeRow.lt {W : World} {b n : Nat} {f : Nat → ByteArray} (h : NodeRow W b n f) : b < W.heap.size := by
  obtain ⟨c, h1, _⟩ := h
  exact lt_of_heap h1
theorem NodeRow.kept {W W' : World} {b n : Nat} {f : Nat → ByteArray} (h : NodeRow W b n f) (hk : W'.heap[b]? = W.heap[b]?) : NodeRow W' b n f := by
  obtain ⟨c, h1, h2⟩ := h
  exact ⟨c, hk.trans h1, h2⟩
theorem NodeRow.congr {W : World} {b n : Nat} {f g : Nat → ByteArray} (h : NodeRow W b n f) (he : ∀ i, i < n → f i = g i) : NodeRow W b n g := by
  obtain ⟨c, h1, h2, h3⟩ := h
  exact ⟨c, h1, h2, fun i hi j hj => by rw [← he i hi]; exact h3 i hi j hj⟩
theorem NodeRow.range {W : World} {b n : Nat} {f : Nat → ByteArray} (h : NodeRow W b n f) {i : Nat} (hi : i < n) : W.rangeAt b (i * 3) (nodeC (f i)) := fun j v hv => by
  obtain ⟨c, h1, h2, h3⟩ := h
  have hj : j < 3 := (List.getElem?_eq_some_iff.1 hv).1
  rw [cell_of h1, h3 i hi j hj, hv]
theorem NodeRow.cell {W : World} {b n : Nat} {f : Nat → ByteArray} (h : NodeRow W b n f) {i : Nat} (hi : i < n) :
    W.cell? ⟨b, i * 3, none⟩ = some (.int .u64 0) ∧ W.cell? ⟨b, i * 3 + 1, none⟩ = some (.int .u64 0) ∧ W.cell? ⟨b, i * 3 + 2, none⟩ = some (.string (f i)) :=
  ⟨h.range hi 0 _ rfl, h.range hi 1 _ rfl, h.range hi 2 _ rfl⟩
theorem NodeRow.there {W : World} {b n : Nat} {f : Nat → ByteArray} (h : NodeRow W b n f) {i : Nat} (hi : i < n) : W.there b (i * 3) 3 := fun j hj => by
  obtain ⟨c, h1, h2, h3⟩ := h
  refine ⟨?_, thawed_of h1 _ _⟩
  rw [cell_of h1]
  simp
  omega
/-- One node is stored. -/
theorem NodeRow.set {W : World} {b n : Nat} {f : Nat → ByteArray} (h : NodeRow W b n f) {i : Nat} (hi : i < n) (s : ByteArray) : NodeRow (W.setCells b (i * 3) (nodeC s)) b n (fun k => if k = i then s else f k) := by
  obtain ⟨c, h1, h2, h3⟩ := h
  obtain ⟨c', d1, d2, d3, d4⟩ := heap_setCells_at (nodeC s) (i * 3) h1 (by show i * 3 + 3 ≤ _; omega)
  refine ⟨c', d1, by omega, fun k hk j hj => ?_⟩
  by_cases e : k = i
  · subst e
    rw [d3 j hj]
    simp
  · rw [d4 _ (by show k * 3 + j < i * 3 ∨ i * 3 + 3 ≤ k * 3 + j; omega), h3 k hk j hj]
    simp [e]
theorem Below.setCells {B : Nat} {w wr : World} (h : Below B w wr) {b : Nat} (hb : B ≤ b) (o : Nat) (vs : List Value) : Below B w (wr.setCells b o vs) := by
  obtain ⟨h1, h2, h3, h4⟩ := setCells_same b vs o wr
  exact ⟨h1.trans h.os, h2.trans h.tape, h3.trans h.output, by rw [h4]; exact h.size, fun k hk => (heap_setCells_other (by omega) _ _ _).trans (h.block k hk)⟩

theorem info30 : Yba.prog.info? 30 = some Yba.t30 := by kernel_rfl
theorem size30 : (Yba.prog.info? 30).map (·.size) = some 3 := by kernel_rfl

theorem node_one (s : ByteArray) : (#[Value.int .u64 0, .int .u64 0, .string s] : Array Value).all (·.oneCell') = true := by simp [Value.oneCell']

theorem run_index {P : Program} {t : TypeId} {b n c i s : Nat} {k : IntKind} (W : World) (hi : i < n) (hu : P.underlying t = some (.slice (P.elem t))) (hs : (P.info? (P.elem t)).map (·.size) = some s) :
    (Instr.indexAt t (.slice (some ⟨b, 0, none⟩) n c) (.int k (i : Int))).run P W = .ok (.pointer (some ⟨b, i * s, none⟩)) W := by
  have h1 : (0 : Int) ≤ (i : Int) ∧ (i : Int) < (n : Int) := ⟨by omega, by omega⟩
  cases hq : P.info? (P.elem t) with
  | none => simp [hq] at hs
  | some j =>
    have hs' : j.size = s := by simpa [hq] using hs
    rw [run_indexAt_slice _ _ _ _ _ _ _ hu, if_pos h1]
    simp [sizeOf, typeInfo, hq, hs', Addr.add_mid]
theorem yi_index {P : Program} {ops : Array Oper} {S : World → Prop} {op : Oper} {a : Act} (hw : Region.wanted op (yielded ops a.tmps) = true) (t : TypeId) (x y : Operand) (ho : op.op = .indexAddr t x y)
    {b n c i s : Nat} {k : IntKind} (hx : a.eval x = .slice (some ⟨b, 0, none⟩) n c) (hy : a.eval y = .int k (i : Int)) (hi : i < n)
    (hu : P.underlying t = some (.slice (P.elem t))) (hs : (P.info? (P.elem t)).map (·.size) = some s) : YieldsIf P ops S op (.pointer (some ⟨b, i * s, none⟩)) a :=
  .inl ⟨hw, fun W _ => by
    unfold execOp
    simp only [ho, hx, hy, Sem.run_bind, Sem.run_pure, Result.andThen_ok, run_index W hi hu hs]⟩
theorem run_load1 {P : Program} {t : TypeId} {b o : Nat} {v : Value} {d : TypeDesc} (W : World) (hc : W.cell? ⟨b, o, none⟩ = some v) (hu : P.underlying t = some d) (hd : d.isRow = false) :
    (Instr.loadAt t (.pointer (some ⟨b, o, none⟩))).run P W = .ok v W := by
  have hagg : (isAgg t).run P W = .ok false W := by
    unfold isAgg
    rw [Sem.run_bind, run_underlying hu W]
    cases d <;> simp_all
  simp [Instr.loadAt, Instr.sureAddr, loadVar, Sem.run_bind, hagg, hc]
theorem yi_load {P : Program} {ops : Array Oper} {S : World → Prop} {op : Oper} {a : Act} (hw : Region.wanted op (yielded ops a.tmps) = true) (t : TypeId) (x : Operand) (ho : op.op = .load t x)
    {b o : Nat} {v : Value} {d : TypeDesc} (hx : a.eval x = .pointer (some ⟨b, o, none⟩)) (hS : ∀ W, S W → W.cell? ⟨b, o, none⟩ = some v)
    (hu : P.underlying t = some d) (hd : d.isRow = false) : YieldsIf P ops S op v a :=
  .inl ⟨hw, fun W hW => by
    unfold execOp
    simp only [ho, hx, Sem.run_bind, Sem.run_pure, Result.andThen_ok, run_load1 W (hS W hW) hu hd]⟩

/-- A slice of strings that is handed in. -/
def ArgStr (w : World) (a : Option Addr) (n : Nat) (f : Nat → ByteArray) : Prop :=
  0 < n → ∃ b o, a = some ⟨b, o, none⟩ ∧ b < w.heap.size ∧ ∀ j, j < n → w.cell? ⟨b, o + j, none⟩ = some (.string (f j))
theorem ArgStr.mono {w W : World} {a : Option Addr} {n : Nat} {f : Nat → ByteArray} (h : ArgStr w a n f) {N : Nat} (hN : w.heap.size ≤ N) (hb : Below N w W) : ArgStr W a n f := fun hn => by
  obtain ⟨b, o, h1, h2, h3⟩ := h hn
  exact ⟨b, o, h1, Nat.lt_of_lt_of_le h2 hb.size, fun j hj => (hb.cell (p := ⟨b, o + j, none⟩) (Nat.lt_of_lt_of_le h2 hN)).trans (h3 j hj)⟩

/-- A slice of nodes: nil, or a row that begins at its block's head. -/
def Nodes (W : World) (N : Nat) (v : Value) (n : Nat) (f : Nat → ByteArray) : Prop :=
  (v = .slice none 0 0 ∧ n = 0) ∨ ∃ b cap, v = .slice (some ⟨b, 0, none⟩) n cap ∧ NodeRow W b n f ∧ N ≤ b
theorem Nodes.mono {W W' : World} {N : Nat} {v : Value} {n : Nat} {f : Nat → ByteArray} (h : Nodes W N v n f) (hb : Below W.heap.size W W') : Nodes W' N v n f := by
  rcases h with h | ⟨b, cap, h1, h2, h3⟩
  · exact .inl h
  · exact .inr ⟨b, cap, h1, h2.kept (hb.block b h2.lt), h3⟩

end Go.Proofs.Ybulkbovo
