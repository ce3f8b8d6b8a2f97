/-
  Blocks, frames, sync/atomic's four. Of this seat's own.
-/
import Derived.Test.YbulkboxsRows
import Derived.WalkKit
import Derived.ProofKit
import Derived.WalkSpells
import Derived.Carry
import Derived.Laws.LoneSync
import Derived.Deep.MidRow
import Derived.Deep.RegionHeld
import Derived.Deep.RegionWith
import Derived.Deep.DeepCutAuto
import Derived.Deep.LoopGhost
import Derived.BigQuiet
import Derived.Laws.AppendOwn
import Derived.Laws.AppendOwnNone
import Derived.Laws.OwnMore
import Derived.OwnWalk
namespace Go.Proofs.Ybulkboxs
open Go.RowKit

theorem lt_of_heap {w : World} {b : Nat} {o : Obj} (h : w.heap[b]? = some o) : b < w.heap.size := (Array.getElem?_eq_some_iff.1 h).1
theorem cell_of {w : World} {b : Nat} {c : Array Value} {t : TypeId} {fz : Nat × Nat} (h : w.heap[b]? = some (.cells c t fz)) (o : Nat) : w.cell? ⟨b, o, none⟩ = c[o]? := by simp [World.cell?, h]
theorem thawed_of {w : World} {b : Nat} {c : Array Value} {t : TypeId} (h : w.heap[b]? = some (.cells c t (0, 0))) (o : Nat) (s : Option Nat) : w.frozen? ⟨b, o, s⟩ = false := by simp [World.frozen?, h]
theorem heap_set_at {w : World} {b : Nat} {c : Array Value} {t : TypeId} {fz : Nat × Nat} (h : w.heap[b]? = some (.cells c t fz)) (o : Nat) (v : Value) : (w.setCell ⟨b, o, none⟩ v).heap[b]? = some (.cells (c.setIfInBounds o v) t fz) := by
  simp [World.setCell, Array.getElem?_modify, h]
theorem heap_set_other (w : World) {b k : Nat} (hne : k ≠ b) (o : Nat) (s : Option Nat) (v : Value) : (w.setCell ⟨b, o, s⟩ v).heap[k]? = w.heap[k]? := Below.heap_setCell w ⟨b, o, s⟩ v k hne
theorem heap_alloc_lt (w : World) (o : Obj) {k : Nat} (h : k < w.heap.size) : (w.alloc o).heap[k]? = w.heap[k]? := Below.heap_alloc w o k h
theorem heap_alloc_at (w : World) (o : Obj) : (w.alloc o).heap[w.heap.size]? = some o := heap_alloc_new w o

/-- W' IS W BUT FOR NEW BLOCKS AND THE CALL's OWN BLOCKS (from N on) OF THE TYPES ts. -/
structure Fr (N : Nat) (ts : List TypeId) (W W' : World) : Prop where
  os : W'.os = W.os
  tape : W'.tape = W.tape
  output : W'.output = W.output
  size : W.heap.size ≤ W'.heap.size
  low : ∀ k, k < N → W'.heap[k]? = W.heap[k]?
  rest : ∀ (k : Nat) (a : Array Value) (t : TypeId), W.heap[k]? = some (Obj.cells a t (0, 0)) → t ∉ ts → W'.heap[k]? = W.heap[k]?

theorem Fr.refl (N : Nat) (ts : List TypeId) (W : World) : Fr N ts W W := ⟨rfl, rfl, rfl, Nat.le_refl _, fun _ _ => rfl, fun _ _ _ _ _ => rfl⟩
theorem Fr.trans {N : Nat} {ts : List TypeId} {A B C : World} (h : Fr N ts A B) (k : Fr N ts B C) : Fr N ts A C :=
  ⟨k.os.trans h.os, k.tape.trans h.tape, k.output.trans h.output, Nat.le_trans h.size k.size, fun i hi => (k.low i hi).trans (h.low i hi), fun i a t e ht => by
    have e1 := h.rest i a t e ht
    exact (k.rest i a t (e1.trans e) ht).trans e1⟩
theorem Fr.weaken {N : Nat} {ts ts' : List TypeId} {A B : World} (h : Fr N ts A B) (hs : ∀ t, t ∈ ts → t ∈ ts') : Fr N ts' A B :=
  ⟨h.os, h.tape, h.output, h.size, h.low, fun k a t e ht => h.rest k a t e (fun hh => ht (hs t hh))⟩
theorem Fr.drew {N : Nat} {ts : List TypeId} {A B : World} (h : Fr N ts A B) : Fr N ts A B.drew := ⟨h.os, h.tape, h.output, h.size, h.low, h.rest⟩
theorem Fr.drew0 {N : Nat} {ts : List TypeId} {A B : World} (h : Fr N ts A.drew B) : Fr N ts A B := ⟨h.os, h.tape, h.output, h.size, h.low, h.rest⟩
theorem Fr.alloc {N : Nat} {ts : List TypeId} {A B : World} (h : Fr N ts A B) (hN : N ≤ B.heap.size) (o : Obj) : Fr N ts A (B.alloc o) :=
  h.trans ⟨rfl, rfl, rfl, by simp, fun k hk => heap_alloc_lt _ _ (by omega), fun k a t e _ => heap_alloc_lt _ _ (lt_of_heap e)⟩
theorem Fr.setCell {N : Nat} {ts : List TypeId} {A B : World} (h : Fr N ts A B) {b : Nat} {c : Array Value} {t : TypeId} (hb : B.heap[b]? = some (.cells c t (0, 0))) (ht : t ∈ ts) (hN : N ≤ b) (o : Nat) (v : Value) : Fr N ts A (B.setCell ⟨b, o, none⟩ v) :=
  h.trans ⟨rfl, rfl, rfl, by simp, fun k hk => heap_set_other _ (by omega) _ _ _, fun k a t' e ht' => heap_set_other _ (by
    rintro rfl
    rw [hb] at e
    simp at e
    exact ht' (e.2 ▸ ht)) _ _ _⟩
/-- Behind an append to a row of the call's own. -/
theorem Fr.grown {N : Nat} {ts : List TypeId} {A B C : World} (h : Fr N ts A B) {e : TypeId} {size n : Nat} {v : Value} {xs : List Value} (ho : B.ownsRow N e size v n xs) (he : e ∈ ts) (hN : N ≤ B.heap.size) (hg : B.grownBy C v.ownBlock) : Fr N ts A C :=
  h.trans ⟨hg.os, hg.tape, hg.output, hg.size, fun k hk => hg.block k (by omega) (fun e1 => by have := (ho.lt k e1.symm).1; omega), fun k a t e1 ht => hg.block k (lt_of_heap e1) (fun e2 => by
    rcases ho.2 with ⟨rfl, _⟩ | ⟨g, cap, cur, rfl, _, hgg, _⟩
    · cases e2
    · have e3 : k = g := by simpa [Value.ownBlock] using e2
      subst e3
      rw [e1] at hgg
      simp at hgg
      exact ht (hgg.2 ▸ he))⟩
/-- A row of another type is kept. -/
theorem Fr.own {N : Nat} {ts : List TypeId} {A B : World} (h : Fr N ts A B) {e : TypeId} {size n : Nat} {v : Value} {xs : List Value} (ho : A.ownsRow N e size v n xs) (he : e ∉ ts) : B.ownsRow N e size v n xs := by
  refine ⟨ho.1, ?_⟩
  rcases ho.2 with hn | ⟨g, cap, cur, rfl, hb, hgg, rest⟩
  · exact .inl hn
  · exact .inr ⟨g, cap, cur, rfl, hb, (h.rest g cur e hgg he).trans hgg, rest⟩
theorem Fr.blk {N : Nat} {ts : List TypeId} {A B : World} (h : Fr N ts A B) {k : Nat} {a : Array Value} {t : TypeId} (e : A.heap[k]? = some (.cells a t (0, 0))) (ht : t ∉ ts) : B.heap[k]? = some (.cells a t (0, 0)) := (h.rest k a t e ht).trans e

/-! ### sync/atomic -/
theorem callLoadP {a : Addr} {q : Option Addr} {w : World} (hc : w.cell? a = some (.pointer q)) : (callFunc 13 #[.pointer (some a)]).run Yba.prog w = .ok (.value (.pointer q)) w := by
  rw [run_callFunc_extern Yba.func13 (by kernel_rfl) (by kernel_rfl) (by kernel_rfl) (e := Extern.Atomic.loadT .ptr) (by kernel_rfl)]
  change (Sem.run Yba.prog (do Extern.Atomic.read .ptr (← asAddr (.pointer (some a)))) w).andThen _ = _
  simp [Extern.Atomic.read, asAddr, hc, Result.andThen]
theorem callStoreP {a : Addr} {q : Option Addr} {u : Value} {w : World} (hc : w.cell? a = some u) (hz : w.frozen? a = false) : (callFunc 15 #[.pointer (some a), .pointer q]).run Yba.prog w = .ok (.value (.tuple #[])) (w.setCell a (.pointer q)) := by
  rw [run_callFunc_extern Yba.func15 (by kernel_rfl) (by kernel_rfl) (by kernel_rfl) (e := Extern.Atomic.storeT) (by kernel_rfl)]
  change (Sem.run Yba.prog (do
    store (← asAddr (.pointer (some a))) (.pointer q) .atomic
    pure Extern.Atomic.none_) w).andThen _ = _
  simp [asAddr, hc, hz, run_store Yba.prog w a (.pointer q) .atomic rfl, Result.andThen, Extern.Atomic.none_]
theorem callLoadU {a : Addr} {x : Int} {w : World} (hc : w.cell? a = some (.int .u64 x)) : (callFunc 14 #[.pointer (some a)]).run Yba.prog w = .ok (.value (.int .u64 x)) w :=
  run_call_load Yba.func14 (by kernel_rfl) (by kernel_rfl) (by kernel_rfl) .u64 (by kernel_rfl) hc
theorem callStoreU {a : Addr} {y : Int} {u : Value} {w : World} (hc : w.cell? a = some u) (hz : w.frozen? a = false) : (callFunc 16 #[.pointer (some a), .int .u64 y]).run Yba.prog w = .ok (.value (.tuple #[])) (w.setCell a (.int .u64 y)) :=
  run_call_store Yba.func16 (by kernel_rfl) (by kernel_rfl) (by kernel_rfl) (by kernel_rfl) hc hz

theorem conv_nil (w : World) : (convert 39 35 (.pointer none)).run Yba.prog w = .ok (.pointer none) w := by kernel_rfl
theorem conv_some {w : World} {db : Nat} {v : Value} (h : w.heap[db]? = some (.cells #[v] 52 (0, 0))) : (convert 39 35 (.pointer (some ⟨db, 0, none⟩))).run Yba.prog w = .ok (.pointer (some ⟨db, 0, none⟩)) w := by
  have hsh : w.shape? db = some (52, 1) := by simp [World.shape?, h]
  conv =>
    lhs
    whnf
  simp only [hsh]
  conv =>
    lhs
    whnf
  simp only [hsh]
  kernel_rfl
theorem conv_back {w : World} {db : Nat} {v : Value} (h : w.heap[db]? = some (.cells #[v] 52 (0, 0))) : (convert 35 39 (.pointer (some ⟨db, 0, none⟩))).run Yba.prog w = .ok (.pointer (some ⟨db, 0, none⟩)) w := by
  have hsh : w.shape? db = some (52, 1) := by simp [World.shape?, h]
  conv =>
    lhs
    whnf
  simp only [hsh]
  conv =>
    lhs
    whnf
  simp only [hsh]
  kernel_rfl

theorem loadP_nil (a : Addr) (w : World) (hc : w.cell? a = some (.pointer none)) : Calls Yba.prog 9 #[.pointer (some a)] w fun r w' => r = .returned (.pointer none) ∧ w' = w := by
  have h1 := callLoadP hc
  have h2 := conv_nil w
  go_enter Yba.func9, Yba.ntmps9
  go_wp2
  go_ret
  exact ⟨rfl, rfl⟩
theorem loadP_some (ub db : Nat) (v : Value) (w : World) (hc : w.cell? ⟨ub, 4, none⟩ = some (.pointer (some ⟨db, 0, none⟩))) (hd : w.heap[db]? = some (.cells #[v] 52 (0, 0))) :
    Calls Yba.prog 9 #[.pointer (some ⟨ub, 4, none⟩)] w fun r w' => r = .returned (.pointer (some ⟨db, 0, none⟩)) ∧ w' = w := by
  have h1 := callLoadP hc
  have h2 := conv_some hd
  clear hd
  go_enter Yba.func9, Yba.ntmps9
  go_wp2
  go_ret
  exact ⟨rfl, rfl⟩
theorem storeP (ub db : Nat) (u v : Value) (w : World) (hc : w.cell? ⟨ub, 4, none⟩ = some u) (hz : w.frozen? ⟨ub, 4, none⟩ = false) (hd : w.heap[db]? = some (.cells #[v] 52 (0, 0))) :
    Calls Yba.prog 11 #[.pointer (some ⟨ub, 4, none⟩), .pointer (some ⟨db, 0, none⟩)] w fun r w' => r = .returned (.tuple #[]) ∧ w' = w.setCell ⟨ub, 4, none⟩ (.pointer (some ⟨db, 0, none⟩)) := by
  have h1 := callStoreP (q := some ⟨db, 0, none⟩) hc hz
  have h2 := conv_back hd
  clear hc hz hd
  go_enter Yba.func11, Yba.ntmps11
  go_wp2
  go_end0
  exact ⟨rfl, rfl⟩
theorem loadU (b o : Nat) (x : Int) (w : World) (hc : w.cell? ⟨b, o, none⟩ = some (.int .u64 x)) : Calls Yba.prog 10 #[.pointer (some ⟨b, o, none⟩)] w fun r w' => r = .returned (.int .u64 x) ∧ w' = w := by
  have h1 := callLoadU hc
  go_enter Yba.func10, Yba.ntmps10
  go_wp2
  go_ret
  exact ⟨rfl, rfl⟩
theorem storeU (b o : Nat) (y : Int) (u : Value) (w : World) (hc : w.cell? ⟨b, o, none⟩ = some u) (hz : w.frozen? ⟨b, o, none⟩ = false) :
    Calls Yba.prog 12 #[.pointer (some ⟨b, o, none⟩), .int .u64 y] w fun r w' => r = .returned (.tuple #[]) ∧ w' = w.setCell ⟨b, o, none⟩ (.int .u64 y) := by
  have h1 := callStoreU (y := y) hc hz
  clear hc hz
  go_enter Yba.func12, Yba.ntmps12
  go_wp2
  go_end0
  exact ⟨rfl, rfl⟩
end Go.Proofs.Ybulkboxs
