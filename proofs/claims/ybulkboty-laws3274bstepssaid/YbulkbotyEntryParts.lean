/-
  checkEntry: the plain fold, and the parts of its walk. Of this seat's own.
-/
import Derived.Test.YbulkbotyBuildParts
namespace Go.Proofs.Ybulkboty
open Go.RowKit Go.ChangeMaps

/-- One step: the bid at place i is checked. -/
def stp (c : Cfg) (nm : Nat → ByteArray) (lv am : Nat → Int) (s : (ByteArray → M) × (Nat → ByteArray)) (i : Nat) : (ByteArray → M) × (Nat → ByteArray) :=
  (upd s.1 (nm i) (chk c (s.1 (nm i)) (lv i) (am i)).2, fun k => if k = i then (chk c (s.1 (nm i)) (lv i) (am i)).1 else s.2 k)

/-- All steps, in bid-time order. -/
def steps (c : Cfg) (nm : Nat → ByteArray) (lv am : Nat → Int) (S : ByteArray → M) (ps : List Nat) : (ByteArray → M) × (Nat → ByteArray) :=
  ps.foldl (stp c nm lv am) (S, fun _ => ⟨#[]⟩)

theorem steps_snoc (c : Cfg) (nm : Nat → ByteArray) (lv am : Nat → Int) (S : ByteArray → M) (ps : List Nat) (i : Nat) :
    steps c nm lv am S (ps ++ [i]) = stp c nm lv am (steps c nm lv am S ps) i := by
  unfold steps
  rw [List.foldl_append]
  rfl

theorem chk_len (c : Cfg) (m : M) (l a : Int) : (chk c m l a).2.ls.length ≤ m.ls.length + 1 := by
  unfold chk
  split
  · simp
  split
  · simp
  split
  · simp
  split
  · simp
  split
  · simp
  split
  · simp
  simp [M.acc]

theorem foldl_len (c : Cfg) (nm : Nat → ByteArray) (lv am : Nat → Int) : ∀ (ps : List Nat) (s : (ByteArray → M) × (Nat → ByteArray)) (N : Nat), (∀ x, (s.1 x).ls.length ≤ N) → ∀ x, ((ps.foldl (stp c nm lv am) s).1 x).ls.length ≤ N + ps.length
  | [], s, N, h, x => h x
  | i :: ps, s, N, h, x => by
    have := foldl_len c nm lv am ps (stp c nm lv am s i) (N + 1) (fun y => by
      simp only [stp, upd]
      split
      · exact Nat.le_trans (chk_len _ _ _ _) (by have := h (nm i); omega)
      · have := h y; omega) x
    simp only [List.foldl_cons, List.length_cons]
    omega

theorem steps_len (c : Cfg) (nm : Nat → ByteArray) (lv am : Nat → Int) (S : ByteArray → M) (hS : ∀ x, (S x).ls.length = 0) (ps : List Nat) (x : ByteArray) : ((steps c nm lv am S ps).1 x).ls.length ≤ ps.length := by
  have := foldl_len c nm lv am ps (S, fun _ => ⟨#[]⟩) 0 (fun y => by rw [hS y]; exact Nat.le_refl _) x
  unfold steps
  omega

theorem S0_len (cl : List (ByteArray × ByteArray)) (lim : ByteArray → Int) (ld : Bool) (x : ByteArray) : (S0 cl (fun k => M.init (lim k) ld) x).ls.length = 0 := by
  unfold S0
  split <;> rfl

theorem chk_mm (a : Ann) (syn : Option Addr) (sp : Int) (sd : Bool) (mm mm' : Nat) (m : M) (l am : Int) : chk (a.cfg syn sp sd mm) m l am = chk (a.cfg syn sp sd mm') m l am := rfl

theorem cfg_tick (a : Ann) (syn : Option Addr) (sp : Int) (sd : Bool) (mm : Nat) : (a.cfg syn sp sd mm).onT = true → 0 < (a.cfg syn sp sd mm).tick := by
  intro h
  simp only [Ann.cfg, Ann.onT, Bool.and_eq_true, decide_eq_true_eq] at h ⊢
  exact h.2

/-- A row of n cells, each as told. -/
def RowAt (w : World) (b : Nat) (t : TypeId) (n : Nat) (f : Nat → Value) : Prop := ∃ c, w.heap[b]? = some (.cells c t (0, 0)) ∧ c.size = n ∧ ∀ k, k < n → c[k]? = some (f k)

theorem RowAt.cell {w : World} {b : Nat} {t : TypeId} {n : Nat} {f : Nat → Value} (h : RowAt w b t n f) {k : Nat} (hk : k < n) : w.cell? ⟨b, k, none⟩ = some (f k) := by
  obtain ⟨c, h1, _, h3⟩ := h
  rw [cell_of h1]; exact h3 k hk
theorem RowAt.thawed {w : World} {b : Nat} {t : TypeId} {n : Nat} {f : Nat → Value} (h : RowAt w b t n f) (o : Nat) : w.frozen? ⟨b, o, none⟩ = false := by
  obtain ⟨c, h1, _⟩ := h
  exact thawed_of h1 o none
theorem RowAt.lt {w : World} {b : Nat} {t : TypeId} {n : Nat} {f : Nat → Value} (h : RowAt w b t n f) : b < w.heap.size := by
  obtain ⟨c, h1, _⟩ := h
  exact lt_of_heap h1
theorem RowAt.kept {w w' : World} {b : Nat} {t : TypeId} {n : Nat} {f : Nat → Value} (h : RowAt w b t n f) (hk : w'.heap[b]? = w.heap[b]?) : RowAt w' b t n f := by
  obtain ⟨c, h1, h2⟩ := h
  exact ⟨c, hk.trans h1, h2⟩
theorem RowAt.set {w : World} {b : Nat} {t : TypeId} {n : Nat} {f : Nat → Value} (h : RowAt w b t n f) {i : Nat} (hi : i < n) (v : Value) : RowAt (w.setCell ⟨b, i, none⟩ v) b t n (fun k => if k = i then v else f k) := by
  obtain ⟨c, h1, h2, h3⟩ := h
  refine ⟨_, heap_set_at h1 i v, by simp [h2], fun k hk => ?_⟩
  rw [Array.getElem?_setIfInBounds]
  by_cases e : i = k
  · subst e
    rw [if_pos rfl, if_pos (by omega)]
    simp
  · rw [if_neg e, h3 k hk]
    have : ¬ k = i := fun h => e h.symm
    simp [this]
theorem RowAt.congr {w : World} {b : Nat} {t : TypeId} {n : Nat} {f g : Nat → Value} (h : RowAt w b t n f) (he : ∀ k, k < n → f k = g k) : RowAt w b t n g := by
  obtain ⟨c, h1, h2, h3⟩ := h
  exact ⟨c, h1, h2, fun k hk => (h3 k hk).trans (by rw [he k hk])⟩
theorem RowAt.made (w : World) (t : TypeId) (n : Nat) (z : Value) (hz : z.cells = #[z]) : RowAt (w.alloc (.cells (madeCells z.cells (n * 1)) t)) w.heap.size t n (fun _ => z) := by
  refine ⟨_, heap_alloc_at w _, by simp [madeCells], fun k hk => ?_⟩
  rw [hz]
  have h1 : (Array.range (n * 1))[k]? = some k := by simp [hk]
  simp only [madeCells, Array.getElem?_map, h1, Option.map_some]
  simp [Nat.mod_one]

/-- A block of none of the tender's own types is none of a member's. -/
theorem Rep.apart {base : Nat} {w : World} {cb : Nat} {c : Cfg} {tab : List (ByteArray × Value)} {blk : ByteArray → Nat} {ow : ByteArray → Option Nat} {S : ByteArray → M} (R : Rep base w cb c tab blk ow S) {nm : ByteArray} {v : Value} (hl : look nm tab = some v)
    {k : Nat} {a : Array Value} {t : TypeId} (hk : w.heap[k]? = some (.cells a t (0, 0))) (h88 : t ≠ 88) (h69 : t ≠ 69 ∨ k < base) : k ≠ blk nm ∧ some k ≠ ow nm := by
  have hE := R.ent nm v hl
  obtain ⟨ec, hec⟩ := hE.ty
  refine ⟨?_, ?_⟩
  · rintro rfl
    rw [hk] at hec
    simp at hec
    exact h88 hec.2
  · intro e
    rcases hE.owty k e.symm with ⟨c', h'⟩ | ⟨es, ck, h'⟩
    · rcases h69 with h | h
      · rw [hk] at h'
        simp at h'
        exact h h'.2
      · have := ((R.lo nm v hl).2 k e.symm).1
        omega
    · rw [hk] at h'
      simp at h'

end Go.Proofs.Ybulkboty
