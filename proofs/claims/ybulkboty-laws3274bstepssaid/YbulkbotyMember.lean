/-
  THE CHECKS OF ONE TENDER IN MEMORY ('Rep'), and the contracts of (*EntryChecks).member and check over it. Of this seat's own.
-/
import Derived.Test.YbulkbotyCheck
namespace Go.Proofs.Ybulkboty
open Go.RowKit Go.ChangeMaps

/-- A member of whom nothing is known. -/
def M.fresh : M := { ins := false, cap := 0, capd := false, ls := [], lo := 0, hi := 0, tot := 0 }

def upd (S : ByteArray → M) (nm : ByteArray) (m : M) : ByteArray → M := fun x => if x = nm then m else S x

/-- AN EntryChecks IN MEMORY: block cb its own cells, c.mm its map of members; tab that map's entries; blk, ow: where each member's entry and levels lie; S: each member's state. -/
structure Rep (base : Nat) (w : World) (cb : Nat) (c : Cfg) (tab : List (ByteArray × Value)) (blk : ByteArray → Nat) (ow : ByteArray → Option Nat) (S : ByteArray → M) : Prop where
  cfg : w.heap[cb]? = some (.cells c.cells 81 (0, 0))
  map : w.heap[c.mm]? = some (mapOf Value.string tab)
  ptr : ∀ nm v, look nm tab = some v → v = .pointer (some ⟨blk nm, 0, none⟩)
  ent : ∀ nm v, look nm tab = some v → Ent w (blk nm) (S nm) (ow nm)
  dis : ∀ nm nm' v v', look nm tab = some v → look nm' tab = some v' → nm ≠ nm' → blk nm ≠ blk nm'
  diso : ∀ nm nm' v v', look nm tab = some v → look nm' tab = some v' → nm ≠ nm' → ∀ g, ow nm = some g → ow nm' ≠ some g
  out : ∀ nm, look nm tab = none → S nm = M.fresh
  lo : ∀ nm v, look nm tab = some v → base ≤ blk nm ∧ ∀ g, ow nm = some g → base ≤ g ∧ g ≠ c.mm
  hb : base ≤ cb
  hm : base ≤ c.mm

theorem Ent.lt {w : World} {e : Nat} {m : M} {ow : Option Nat} (h : Ent w e m ow) : e < w.heap.size := by
  obtain ⟨few, many, he, _⟩ := h
  exact lt_of_heap he

theorem Ent.owlt {w : World} {e : Nat} {m : M} {ow : Option Nat} (h : Ent w e m ow) : ∀ g, ow = some g → g < w.heap.size := by
  obtain ⟨few, many, he, hL, _, rfl⟩ := h
  exact hL.lt

theorem Ent.ne {w : World} {e : Nat} {m : M} {ow : Option Nat} (h : Ent w e m ow) : ow ≠ some e := by
  obtain ⟨few, many, he, hL, _, rfl⟩ := h
  exact hL.ne he

/-- The entry's block is one of type 88. -/
theorem Ent.ty {w : World} {e : Nat} {m : M} {ow : Option Nat} (h : Ent w e m ow) : ∃ c, w.heap[e]? = some (.cells c 88 (0, 0)) := by
  obtain ⟨few, many, he, _⟩ := h
  exact ⟨_, he⟩

/-- The levels' block is a row of type 69, or a map. -/
theorem Ent.owty {w : World} {e : Nat} {m : M} {ow : Option Nat} (h : Ent w e m ow) : ∀ g, ow = some g → (∃ c, w.heap[g]? = some (.cells c 69 (0, 0))) ∨ ∃ es ck, w.heap[g]? = some (.map es ck) := by
  obtain ⟨few, many, he, hL, _, rfl⟩ := h
  rcases hL with ⟨h64, rfl, hown⟩ | ⟨g, h64, rfl, rfl, hg⟩
  · rcases hown.2 with ⟨rfl, _⟩ | ⟨g, cap, cur, rfl, hb, hh, r⟩
    · simp [auxOf, Value.ownBlock]
    · simp only [auxOf, Value.ownBlock, Option.some.injEq]
      rintro _ rfl
      exact .inl ⟨_, hh⟩
  · simp only [auxOf, Option.some.injEq]
    rintro _ rfl
    exact .inr ⟨_, _, hg⟩

/-- An entry stays what it is while its own blocks stand. -/
theorem Ent.kept {w w' : World} {e : Nat} {m : M} {ow : Option Nat} (h : Ent w e m ow) (he : w'.heap[e]? = w.heap[e]?) (ho : ∀ g, ow = some g → w'.heap[g]? = w.heap[g]?) : Ent w' e m ow := by
  obtain ⟨few, many, h1, hL, hn, rfl⟩ := h
  exact ⟨few, many, he.trans h1, hL.kept ho, hn, rfl⟩

theorem zero70 (w : World) : (zeroValue 70).run Yba.prog w = .ok (.pointer none) w := by kernel_rfl

def freshCells : Array Value := #[.bool false, .int .i64 0, .bool false, .slice none 0 0, .map none, .int .i64 0, .int .i64 0, .int .i64 0]

theorem member_have (c m e : Nat) (s : ByteArray) (w : World) (hc : w.cell? ⟨c, 21, none⟩ = some (.map (some m)))
    (hl : (Instr.lookup 79 (.map (some m)) (.string s) false).run Yba.prog w = .ok (.pointer (some ⟨e, 0, none⟩)) w) :
    Calls Yba.prog 15 #[.pointer (some ⟨c, 0, none⟩), .string s] w fun r w' => r = .returned (.pointer (some ⟨e, 0, none⟩)) ∧ w' = w := by
  go_enter Yba.func15, Yba.ntmps15
  go_wp2
  go_ret
  exact ⟨rfl, rfl⟩

theorem member_new (c m : Nat) (s : ByteArray) (tab : List (ByteArray × Value)) (w : World) (hcl : c < w.heap.size) (hc : w.cell? ⟨c, 21, none⟩ = some (.map (some m))) (hm : w.heap[m]? = some (mapOf Value.string tab)) (hn : look s tab = none) :
    Calls Yba.prog 15 #[.pointer (some ⟨c, 0, none⟩), .string s] w fun r w' => r = .returned (.pointer (some ⟨w.heap.size, 0, none⟩)) ∧
      w' = setBlock (w.alloc (.cells freshCells 88)) m (mapOf Value.string (tab ++ [(s, .pointer (some ⟨w.heap.size, 0, none⟩))])) := by
  have hl := run_lookup (P := Yba.prog) (t := 79) str_isKey str_inj Yba.underlying79 Yba.underlying9 (zero70 w) hm s
  rw [hn] at hl
  have hm' : (w.alloc (.cells freshCells 88)).heap[m]? = some (mapOf Value.string tab) := (heap_alloc_lt w _ (lt_of_heap hm)).trans hm
  have hu := run_update (P := Yba.prog) (t := 79) str_isKey str_inj Yba.underlying79 Yba.underlying9 hm' s (.pointer (some ⟨w.heap.size, 0, none⟩))
  rw [put_none hn] at hu
  clear hm hm' hn
  unfold freshCells at *
  go_enter Yba.func15, Yba.ntmps15
  go_wp2
  go_ret
  exact ⟨rfl, rfl⟩

theorem look_snoc_self {nm : ByteArray} {v : Value} {tab : List (ByteArray × Value)} (h : look nm tab = none) : look nm (tab ++ [(nm, v)]) = some v := by
  rw [look_append, h]; simp [look]
theorem look_snoc_other {nm x : ByteArray} {v : Value} {tab : List (ByteArray × Value)} (h : x ≠ nm) : look x (tab ++ [(nm, v)]) = look x tab := by
  rw [look_append]
  have : ¬ nm = x := fun e => h e.symm
  simp [look, this]

theorem Rep.mapCells {base : Nat} {w : World} {cb : Nat} {c : Cfg} {tab : List (ByteArray × Value)} {blk : ByteArray → Nat} {ow : ByteArray → Option Nat} {S : ByteArray → M} (R : Rep base w cb c tab blk ow S)
    {k : Nat} {a : Array Value} {t : TypeId} {fz : Nat × Nat} (h : w.heap[k]? = some (.cells a t fz)) : k ≠ c.mm := by
  rintro rfl
  have := R.map
  rw [h] at this
  simp [mapOf] at this

/-- (*EntryChecks).member: the member's entry, made anew where there was none. -/
theorem member_rep {base : Nat} {w : World} {cb : Nat} {c : Cfg} {tab : List (ByteArray × Value)} {blk : ByteArray → Nat} {ow : ByteArray → Option Nat} {S : ByteArray → M} (R : Rep base w cb c tab blk ow S) (nm : ByteArray) :
    Calls Yba.prog 15 #[.pointer (some ⟨cb, 0, none⟩), .string nm] w fun r w' => ∃ tab' blk' ow', r = .returned (.pointer (some ⟨blk' nm, 0, none⟩)) ∧ Rep base w' cb c tab' blk' ow' S ∧
      (∃ v, look nm tab' = some v) ∧ (∀ x v, look x tab = some v → look x tab' = some v ∧ blk' x = blk x) ∧ Kept c.mm none w w' := by
  have hc : w.cell? ⟨cb, 21, none⟩ = some (.map (some c.mm)) := by
    rw [cell_of R.cfg]; rfl
  cases hl : look nm tab with
  | some v =>
    have hr := run_lookup (P := Yba.prog) (t := 79) str_isKey str_inj Yba.underlying79 Yba.underlying9 (zero70 w) R.map nm
    rw [hl, Option.getD_some, R.ptr nm v hl] at hr
    refine (member_have cb c.mm (blk nm) nm w hc hr).mono ?_
    rintro r w' ⟨rfl, rfl⟩
    exact ⟨tab, blk, ow, rfl, R, ⟨v, hl⟩, fun x v hx => ⟨hx, rfl⟩, Kept.refl _ _ _⟩
  | none =>
    have hcb := R.mapCells R.cfg
    refine (member_new cb c.mm nm tab w (lt_of_heap R.cfg) hc R.map hl).mono ?_
    rintro r w' ⟨rfl, rfl⟩
    have hml := lt_of_heap R.map
    have hmA : (w.alloc (.cells freshCells 88)).heap[c.mm]? = some (mapOf Value.string tab) := (heap_alloc_lt w _ hml).trans R.map
    have old : ∀ k, k < w.heap.size → k ≠ c.mm → (setBlock (w.alloc (.cells freshCells 88)) c.mm (mapOf Value.string (tab ++ [(nm, .pointer (some ⟨w.heap.size, 0, none⟩))]))).heap[k]? = w.heap[k]? :=
      fun k hk hne => (heap_block_other hne).trans (heap_alloc_lt w _ hk)
    have nmo : ∀ x v, look x tab = some v → x ≠ nm := fun x v hx e => by rw [e, hl] at hx; cases hx
    have split : ∀ x v, look x (tab ++ [(nm, Value.pointer (some ⟨w.heap.size, 0, none⟩))]) = some v → (x = nm ∧ v = .pointer (some ⟨w.heap.size, 0, none⟩)) ∨ (x ≠ nm ∧ look x tab = some v) := by
      intro x v hx
      by_cases e : x = nm
      · subst e
        rw [look_snoc_self hl] at hx
        cases hx
        exact .inl ⟨rfl, rfl⟩
      · rw [look_snoc_other e] at hx
        exact .inr ⟨e, hx⟩
    refine ⟨tab ++ [(nm, .pointer (some ⟨w.heap.size, 0, none⟩))], fun x => if x = nm then w.heap.size else blk x, fun x => if x = nm then none else ow x, by simp, ?_, ⟨_, look_snoc_self hl⟩, ?_, ?_⟩
    · refine ⟨(old cb (lt_of_heap R.cfg) hcb).trans R.cfg, heap_block_at hmA, ?_, ?_, ?_, ?_, ?_, ?_, R.hb, R.hm⟩
      · intro x v hx
        rcases split x v hx with ⟨rfl, rfl⟩ | ⟨hne, hx⟩
        · simp
        · simp only [if_neg hne]; exact R.ptr x v hx
      · intro x v hx
        rcases split x v hx with ⟨rfl, rfl⟩ | ⟨hne, hx⟩
        · simp only [if_true]
          rw [R.out x hl]
          refine ⟨.slice none 0 0, .map none, (heap_block_other (by omega)).trans (heap_alloc_at w _), .inl ⟨by simp [M.fresh], rfl, World.ownsRow_nil _ _ _ _⟩, by simp [M.fresh], rfl⟩
        · simp only [if_neg hne]
          have hE := R.ent x v hx
          obtain ⟨ec, hec⟩ := hE.ty
          exact hE.kept (old _ hE.lt (R.mapCells hec)) (fun g hg => old g (hE.owlt g hg) ((R.lo x v hx).2 g hg).2)
      · intro x y v v' hx hy hne
        rcases split x v hx with ⟨rfl, rfl⟩ | ⟨hxn, hx⟩
        · rcases split y v' hy with ⟨rfl, rfl⟩ | ⟨hyn, hy⟩
          · exact absurd rfl hne
          · simp only [if_true, if_neg hyn]
            have := (R.ent y v' hy).lt
            omega
        · have hx2 := hx
          have hxl := (R.ent x v hx2).lt
          rcases split y v' hy with ⟨rfl, rfl⟩ | ⟨hyn, hy⟩
          · simp only [if_true, if_neg hxn]
            omega
          · simp only [if_neg hxn, if_neg hyn]
            exact R.dis x y v v' hx2 hy hne
      · intro x y v v' hx hy hne g hg
        rcases split x v hx with ⟨rfl, rfl⟩ | ⟨hxn, hx⟩
        · simp at hg
        · simp only [if_neg hxn] at hg
          rcases split y v' hy with ⟨rfl, rfl⟩ | ⟨hyn, hy⟩
          · simp
          · simp only [if_neg hyn]
            exact R.diso x y v v' hx hy hne g hg
      · intro x hx
        refine R.out x ?_
        by_cases e : x = nm
        · rw [e]; exact hl
        · rw [look_snoc_other e] at hx; exact hx
      · intro x v hx
        rcases split x v hx with ⟨rfl, rfl⟩ | ⟨hne, hx⟩
        · simp only [if_true]
          exact ⟨Nat.le_trans R.hm (by omega), fun g hg => by cases hg⟩
        · simp only [if_neg hne]
          exact R.lo x v hx
    · intro x v hx
      have hne := nmo x v hx
      exact ⟨by rw [look_snoc_other hne]; exact hx, by simp [hne]⟩
    · exact ⟨rfl, rfl, rfl, by simp [setBlock], fun k hk h1 _ => old k hk h1⟩

/-- (*EntryChecks).check over the whole. -/
theorem check_rep {base : Nat} {w : World} {cb : Nat} {c : Cfg} {tab : List (ByteArray × Value)} {blk : ByteArray → Nat} {ow : ByteArray → Option Nat} {S : ByteArray → M} (R : Rep base w cb c tab blk ow S) (nm : ByteArray) {v : Value} (hlk : look nm tab = some v)
    (ht : c.onT = true → 0 < c.tick) (bn : ByteArray) (rate price amt l : Int) (hl : 0 ≤ l) (hb : (S nm).ls.length ≤ 100000) :
    Calls Yba.prog 14 #[.pointer (some ⟨cb, 0, none⟩), .agg (bidCells bn rate price amt), .int .i64 l, .pointer (some ⟨blk nm, 0, none⟩)] w fun r w' =>
      r = .returned (.string (chk c (S nm) l amt).1) ∧ ∃ ow', Rep base w' cb c tab blk ow' (upd S nm (chk c (S nm) l amt).2) ∧ Kept (blk nm) (ow nm) w w' := by
  have hE := R.ent nm v hlk
  refine (check_any cb (blk nm) c (S nm) (ow nm) bn rate price amt l w R.cfg hE ht hl hb).mono ?_
  rintro r w' ⟨rfl, ow0, hE', hK, hloc⟩
  refine ⟨rfl, fun x => if x = nm then ow0 else ow x, ?_, hK⟩
  obtain ⟨ec, hec⟩ := hE.ty
  have hcne : cb ≠ blk nm := by
    intro e
    have := R.cfg
    rw [e, hec] at this
    simp at this
  have cown : ∀ {k : Nat} {a : Array Value} {t : TypeId}, w.heap[k]? = some (.cells a t (0, 0)) → t ≠ 69 → some k ≠ ow nm := by
    intro k a t hk ht e
    rcases hE.owty k e.symm with ⟨c', h'⟩ | ⟨es, ck, h'⟩
    · rw [hk] at h'; simp at h'; exact ht h'.2
    · rw [hk] at h'; simp at h'
  have hmm : w'.heap[c.mm]? = w.heap[c.mm]? := hK.block _ (lt_of_heap R.map) (R.mapCells hec).symm (fun e => ((R.lo nm v hlk).2 c.mm e.symm).2 rfl)
  have others : ∀ x u, look x tab = some u → x ≠ nm → Ent w' (blk x) (S x) (ow x) := by
    intro x u hx hne
    have hEx := R.ent x u hx
    obtain ⟨xc, hxc⟩ := hEx.ty
    refine hEx.kept (hK.block _ hEx.lt (R.dis x nm u v hx hlk hne) (cown hxc (by decide))) (fun g hg => hK.block g (hEx.owlt g hg) ?_ ?_)
    · intro e
      rcases hEx.owty g hg with ⟨c', h'⟩ | ⟨es, ck, h'⟩
      · rw [e, hec] at h'; simp at h'
      · rw [e, hec] at h'; simp at h'
    · intro e
      exact R.diso x nm u v hx hlk hne g hg e.symm
  have hbs : base ≤ w.heap.size := Nat.le_trans R.hb (Nat.le_of_lt (lt_of_heap R.cfg))
  refine ⟨(hK.block cb (lt_of_heap R.cfg) hcne (cown R.cfg (by decide))).trans R.cfg, hmm.trans R.map, R.ptr, ?_, R.dis, ?_, ?_, ?_, R.hb, R.hm⟩
  · intro x u hx
    by_cases e : x = nm
    · subst e
      simp only [upd, if_true]
      exact hE'
    · simp only [upd, if_neg e]
      exact others x u hx e
  · intro x y u u' hx hy hne g hg
    by_cases ex : x = nm
    · subst ex
      have ey : ¬ y = x := fun e => hne e.symm
      simp only [if_true] at hg
      simp only [if_neg ey]
      rcases hloc with h | ⟨g', h, h2⟩
      · rw [h] at hg
        exact R.diso x y v u' hlk hy hne g hg
      · rw [h] at hg
        cases hg
        intro e
        have := (R.ent y u' hy).owlt g e
        omega
    · simp only [if_neg ex] at hg
      by_cases ey : y = nm
      · subst ey
        simp only [if_true]
        rcases hloc with h | ⟨g', h, h2⟩
        · rw [h]
          exact R.diso x y u v hx hlk hne g hg
        · rw [h]
          intro e
          cases e
          have := (R.ent x u hx).owlt g hg
          omega
      · simp only [if_neg ey]
        exact R.diso x y u u' hx hy hne g hg
  · intro x hx
    have e : ¬ x = nm := fun e => by rw [e, hlk] at hx; cases hx
    simp only [upd, if_neg e]
    exact R.out x hx
  · intro x u hx
    refine ⟨(R.lo x u hx).1, fun g hg => ?_⟩
    by_cases e : x = nm
    · subst e
      simp only [if_true] at hg
      rcases hloc with h | ⟨g', h, h2⟩
      · rw [h] at hg
        exact (R.lo x u hx).2 g hg
      · rw [h] at hg
        cases hg
        have := lt_of_heap R.map
        exact ⟨by omega, by omega⟩
    · simp only [if_neg e] at hg
      exact (R.lo x u hx).2 g hg

end Go.Proofs.Ybulkboty
