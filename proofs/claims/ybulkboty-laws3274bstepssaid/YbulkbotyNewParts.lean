/-
  NewEntryChecks: the parts. Of this seat's own.
-/
import Derived.Test.YbulkbotySmall
import Derived.Deep.RegionWith
namespace Go.Proofs.Ybulkboty
open Go.RowKit Go.ChangeMaps

/-- The announcement of these laws, by its parameters. -/
structure Ann where
  b : Bool
  comp : Int
  rt : Int
  pt : Int
  bmin : Int
  bmax : Int
  ms : Option Addr
  mc : Option Nat

def Ann.cells (a : Ann) : Array Value := annCells (objOf a.b) a.comp a.rt a.pt a.bmin a.bmax a.ms a.mc
def Ann.tick (a : Ann) : Int := if a.b then a.pt else a.rt
def Ann.onT (a : Ann) : Bool := a.b && decide (0 < a.tick)

/-- The tender's checks, before any bid. -/
def Ann.cfg (a : Ann) (syn : Option Addr) (sp : Int) (sd : Bool) (mm : Nat) : Cfg :=
  { obj := objOf a.b, comp := a.comp, rt := a.rt, pt := a.pt, bmin := a.bmin, bmax := a.bmax, ms := a.ms, mc := a.mc, syn := syn, tick := a.tick, onT := a.onT, span := sp, spd := sd, mm := mm }

/-- Behind the struct's making: the boxed announcement, the map, the struct. -/
structure NewMid (w wr : World) (mm : Nat) (ac cc : Array Value) : Prop where
  below : Below w.heap.size w wr
  size : wr.heap.size = w.heap.size + 4
  ann : wr.heap[w.heap.size]? = some (.cells ac 45 (0, 0))
  map : wr.heap[mm]? = some (.map #[] 0)
  cfg : wr.heap[w.heap.size + 3]? = some (.cells cc 81 (0, 0))
  mml : w.heap.size < mm
  mmh : mm < w.heap.size + 3

theorem new_mid1 (w : World) (ac a2 cc : Array Value) : NewMid w (((((w.alloc (.cells ac 45)).alloc (.map #[] 0)).alloc (.cells a2 45)).alloc (.cells cc 81)).drew) (w.heap.size + 1) ac cc := by
  refine ⟨?_, by simp, ?_, ?_, ?_, by omega, by omega⟩
  · exact (((((Below.refl _ w).alloc (Nat.le_refl _) _).alloc (by simp) _).alloc (by simp; omega) _).alloc (by simp; omega) _).drew
  · show ((((w.alloc _).alloc _).alloc _).alloc _).heap[_]? = _
    rw [heap_alloc_lt _ _ (by simp; omega), heap_alloc_lt _ _ (by simp; omega), heap_alloc_lt _ _ (by simp), heap_alloc_at]
  · show ((((w.alloc _).alloc _).alloc _).alloc _).heap[_]? = _
    rw [heap_alloc_lt _ _ (by simp), heap_alloc_lt _ _ (by simp)]
    have := heap_alloc_at (w.alloc (.cells ac 45)) (.map #[] 0)
    rwa [World.size_alloc] at this
  · have := heap_alloc_at (((w.alloc (.cells ac 45)).alloc (.map #[] 0)).alloc (.cells a2 45)) (.cells cc 81)
    simp only [World.size_alloc] at this
    exact this

theorem new_mid2 (w : World) (ac a2 cc : Array Value) : NewMid w (((((w.alloc (.cells ac 45)).alloc (.cells a2 45)).alloc (.map #[] 0)).alloc (.cells cc 81)).drew) (w.heap.size + 2) ac cc := by
  refine ⟨?_, by simp, ?_, ?_, ?_, by omega, by omega⟩
  · exact (((((Below.refl _ w).alloc (Nat.le_refl _) _).alloc (by simp) _).alloc (by simp; omega) _).alloc (by simp; omega) _).drew
  · show ((((w.alloc _).alloc _).alloc _).alloc _).heap[_]? = _
    rw [heap_alloc_lt _ _ (by simp; omega), heap_alloc_lt _ _ (by simp; omega), heap_alloc_lt _ _ (by simp), heap_alloc_at]
  · show ((((w.alloc _).alloc _).alloc _).alloc _).heap[_]? = _
    rw [heap_alloc_lt _ _ (by simp)]
    have := heap_alloc_at ((w.alloc (.cells ac 45)).alloc (.cells a2 45)) (.map #[] 0)
    simp only [World.size_alloc] at this
    exact this
  · have := heap_alloc_at (((w.alloc (.cells ac 45)).alloc (.cells a2 45)).alloc (.map #[] 0)) (.cells cc 81)
    simp only [World.size_alloc] at this
    exact this


/-- Rep goes over where its own blocks stand. -/
theorem Rep.transfer {base : Nat} {w w' : World} {cb : Nat} {c : Cfg} {tab : List (ByteArray × Value)} {blk : ByteArray → Nat} {ow : ByteArray → Option Nat} {S : ByteArray → M} (R : Rep base w cb c tab blk ow S)
    (h : ∀ k, k < w.heap.size → (∃ a t, w.heap[k]? = some (.cells a t (0, 0))) ∨ (∃ es ck, w.heap[k]? = some (.map es ck)) → w'.heap[k]? = w.heap[k]?) : Rep base w' cb c tab blk ow S := by
  refine ⟨(h cb (lt_of_heap R.cfg) (.inl ⟨_, _, R.cfg⟩)).trans R.cfg, (h _ (lt_of_heap R.map) (.inr ⟨_, _, R.map⟩)).trans R.map, R.ptr, ?_, R.dis, R.diso, R.out, R.lo, R.hb, R.hm⟩
  intro nm v hv
  have hE := R.ent nm v hv
  obtain ⟨ec, hec⟩ := hE.ty
  refine hE.kept (h _ hE.lt (.inl ⟨_, _, hec⟩)) (fun g hg => h g (hE.owlt g hg) ?_)
  rcases hE.owty g hg with ⟨c', h'⟩ | ⟨es, ck, h'⟩
  · exact .inl ⟨_, _, h'⟩
  · exact .inr ⟨_, _, h'⟩

/-- ONE MORE ENTRY: in a new block, its state m. -/
theorem Rep.insert {base : Nat} {w w' : World} {cb : Nat} {c : Cfg} {tab : List (ByteArray × Value)} {blk : ByteArray → Nat} {ow : ByteArray → Option Nat} {S : ByteArray → M} (R : Rep base w cb c tab blk ow S)
    {nm : ByteArray} {eb : Nat} {m : M} (hl : look nm tab = none) (heb : w.heap.size ≤ eb) (hE0 : Ent w' eb m none) (hmap : w'.heap[c.mm]? = some (mapOf Value.string (tab ++ [(nm, .pointer (some ⟨eb, 0, none⟩))])))
    (old : ∀ k, k < w.heap.size → k ≠ c.mm → w'.heap[k]? = w.heap[k]?) :
    Rep base w' cb c (tab ++ [(nm, .pointer (some ⟨eb, 0, none⟩))]) (fun x => if x = nm then eb else blk x) (fun x => if x = nm then none else ow x) (upd S nm m) := by
  have hcb := R.mapCells R.cfg
  have hml := lt_of_heap R.map
  have split : ∀ x v, look x (tab ++ [(nm, Value.pointer (some ⟨eb, 0, none⟩))]) = some v → (x = nm ∧ v = .pointer (some ⟨eb, 0, none⟩)) ∨ (x ≠ nm ∧ look x tab = some v) := by
    intro x v hx
    by_cases e : x = nm
    · subst e
      rw [look_snoc_self hl] at hx
      cases hx
      exact .inl ⟨rfl, rfl⟩
    · rw [look_snoc_other e] at hx
      exact .inr ⟨e, hx⟩
  refine ⟨(old cb (lt_of_heap R.cfg) hcb).trans R.cfg, hmap, ?_, ?_, ?_, ?_, ?_, ?_, R.hb, R.hm⟩
  · intro x v hx
    rcases split x v hx with ⟨rfl, rfl⟩ | ⟨hne, hx⟩
    · simp
    · simp only [if_neg hne]; exact R.ptr x v hx
  · intro x v hx
    rcases split x v hx with ⟨rfl, rfl⟩ | ⟨hne, hx⟩
    · simp only [if_true, upd]
      exact hE0
    · simp only [if_neg hne, upd]
      have hE := R.ent x v hx
      obtain ⟨ec, hec⟩ := hE.ty
      exact hE.kept (old _ hE.lt (R.mapCells hec)) (fun g hg => old g (hE.owlt g hg) ((R.lo x v hx).2 g hg).2)
  · intro x y v v' hx hy hne
    rcases split x v hx with ⟨rfl, rfl⟩ | ⟨hxn, hx⟩
    · rcases split y v' hy with ⟨rfl, rfl⟩ | ⟨hyn, hy⟩
      · exact absurd rfl hne
      · simp only [if_true, if_neg hyn]
        have := (R.ent y v' hy).lt
        omega
    · have hx2 := hx
      have hxl := (R.ent x v hx2).lt
      rcases split y v' hy with ⟨rfl, rfl⟩ | ⟨hyn, hy⟩
      · simp only [if_true, if_neg hxn]
        omega
      · simp only [if_neg hxn, if_neg hyn]
        exact R.dis x y v v' hx2 hy hne
  · intro x y v v' hx hy hne g hg
    rcases split x v hx with ⟨rfl, rfl⟩ | ⟨hxn, hx⟩
    · simp at hg
    · simp only [if_neg hxn] at hg
      rcases split y v' hy with ⟨rfl, rfl⟩ | ⟨hyn, hy⟩
      · simp
      · simp only [if_neg hyn]
        exact R.diso x y v v' hx hy hne g hg
  · intro x hx
    by_cases e : x = nm
    · rw [e, look_snoc_self hl] at hx; cases hx
    · rw [look_snoc_other e] at hx
      simp only [upd, if_neg e]
      exact R.out x hx
  · intro x v hx
    rcases split x v hx with ⟨rfl, rfl⟩ | ⟨hne, hx⟩
    · simp only [if_true]
      exact ⟨Nat.le_trans R.hm (by omega), fun g hg => by cases hg⟩
    · simp only [if_neg hne]
      exact R.lo x v hx

/-- The syndicate's map of classes. -/
def clsKV (cl : List (ByteArray × ByteArray)) : List (ByteArray × Value) := cl.map fun p => (p.1, Value.string p.2)
def clsObj (cl : List (ByteArray × ByteArray)) : Obj := .map (ents Value.string (clsKV cl) 0).toArray cl.length

/-- A member of the syndicate, before any bid. -/
def M.init (cap : Int) (capd : Bool) : M := { ins := true, cap := cap, capd := capd, ls := [], lo := 0, hi := 0, tot := 0 }

/-- WHAT HOLDS AT EACH ROUND'S HEAD of the loop over the syndicate: the places in 'seen' have been entered. -/
structure NewInv (N : Nat) (w wr : World) (it km cb : Nat) (c : Cfg) (cl : List (ByteArray × ByteArray)) (ini : ByteArray → M) (seen : Array Nat) (tab : List (ByteArray × Value)) (blk : ByteArray → Nat) (ow : ByteArray → Option Nat) (S : ByteArray → M) : Prop where
  rep : Rep N wr cb c tab blk ow S
  iter : wr.heap[it]? = some (.mapIter (some km) cl.length seen cl.length)
  lt : ∀ p ∈ seen.toList, p < cl.length
  nd : seen.toList.Nodup
  back : ∀ nm v, look nm tab = some v → ∃ p ∈ seen.toList, ∃ k, cl[p]? = some (nm, k) ∧ S nm = ini k
  forth : ∀ p ∈ seen.toList, ∀ nm k, cl[p]? = some (nm, k) → ∃ v, look nm tab = some v
  below : Below N w wr
  itl : N ≤ it
  kml : km < N

theorem cls_entry {cl : List (ByteArray × ByteArray)} {e : MapEntry} (h : e ∈ ents Value.string (clsKV cl) 0) : ∃ p nm k, cl[p]? = some (nm, k) ∧ e = { key := .string nm, val := .string k, born := p } := by
  obtain ⟨j, q, hq, rfl⟩ := ents_mem h
  unfold clsKV at hq
  rw [List.getElem?_map] at hq
  obtain ⟨x, hx, rfl⟩ := Option.map_eq_some_iff.1 hq
  exact ⟨j, x.1, x.2, hx, by simp⟩

/-- THE STEP OF THE RANGE: nothing is left, or a place that has not been entered comes. -/
theorem new_step {N : Nat} {w wr : World} {it km cb : Nat} {c : Cfg} {cl : List (ByteArray × ByteArray)} {ini : ByteArray → M} {seen : Array Nat} {tab : List (ByteArray × Value)} {blk : ByteArray → Nat} {ow : ByteArray → Option Nat} {S : ByteArray → M}
    (I : NewInv N w wr it km cb c cl ini seen tab blk ow S) (hk : w.heap[km]? = some (clsObj cl)) (hnd : (cl.map (·.1)).Nodup) (ty : TypeId) :
    ((∀ p, p < cl.length → p ∈ seen.toList) ∧ (Instr.next (.pointer (some ⟨it, 0, none⟩)) false ty).run Yba.prog wr = .ok (.tuple #[.bool false]) wr) ∨
    ∃ p nm k W2, cl[p]? = some (nm, k) ∧ p ∉ seen.toList ∧ p < cl.length ∧ look nm tab = none ∧
      (Instr.next (.pointer (some ⟨it, 0, none⟩)) false ty).run Yba.prog wr = .ok (.tuple #[.bool true, .string nm, .string k]) W2 ∧
      (Instr.entry (.pointer (some ⟨it, 0, none⟩))).run Yba.prog W2 = .ok (.tuple #[.string nm, .string k]) W2 ∧
      W2.heap[it]? = some (.mapIter (some km) cl.length (seen.push p) cl.length) ∧ W2.heap.size = wr.heap.size ∧ (∀ j, j ≠ it → W2.heap[j]? = wr.heap[j]?) ∧ Below N w W2 ∧ Rep N W2 cb c tab blk ow S := by
  have hkr : wr.heap[km]? = some (.map (ents Value.string (clsKV cl) 0).toArray cl.length) := (I.below.block km I.kml).trans hk
  have hlen : (clsKV cl).length = cl.length := by simp [clsKV]
  have hold : ∀ x ∈ (ents Value.string (clsKV cl) 0).toArray.toList, x.born < cl.length := by
    intro x hx
    obtain ⟨p, nm, k, hp, rfl⟩ := cls_entry (by simpa using hx)
    exact (List.getElem?_eq_some_iff.1 hp).1
  rcases run_next_at (P := Yba.prog) wr ty it km cl.length cl.length seen (ents Value.string (clsKV cl) 0).toArray cl.length I.iter hkr hold (Nat.le_refl _) with ⟨h0, hrun⟩ | ⟨e, he, w1, hal, hrun⟩
  · left
    refine ⟨fun p hp => ?_, hrun⟩
    have hem : leftOf (ents Value.string (clsKV cl) 0).toArray seen = #[] := Array.eq_empty_of_size_eq_zero h0
    have hg : (ents Value.string (clsKV cl) 0)[p]? = some { key := .string cl[p].1, val := .string cl[p].2, born := p } := by
      rw [ents_get]
      simp [clsKV, hp]
    have hmem : ({ key := .string cl[p].1, val := .string cl[p].2, born := p } : MapEntry) ∈ (ents Value.string (clsKV cl) 0).toArray := by
      simpa using List.mem_of_getElem? hg
    have hnot : ({ key := .string cl[p].1, val := .string cl[p].2, born := p } : MapEntry) ∉ leftOf (ents Value.string (clsKV cl) 0).toArray seen := by rw [hem]; simp
    unfold leftOf at hnot
    rw [Array.mem_filter] at hnot
    have : ¬ (!seen.contains p) = true := fun h => hnot ⟨hmem, h⟩
    simpa using this
  · right
    unfold leftOf at he
    have he2 : e ∈ Array.filter (fun e => !seen.contains e.born) (ents Value.string (clsKV cl) 0).toArray := by simpa using he
    rw [Array.mem_filter] at he2
    obtain ⟨hm, hns⟩ := he2
    obtain ⟨p, nm, k, hp, rfl⟩ := cls_entry (by simpa using hm)
    have hps : p ∉ seen.toList := by simpa using hns
    have hpl : p < cl.length := (List.getElem?_eq_some_iff.1 hp).1
    have hw1 : w1.heap = wr.heap := by rcases hal with rfl | rfl <;> rfl
    have hi1 : w1.heap[it]? = some (.mapIter (some km) cl.length seen cl.length) := by rw [hw1]; exact I.iter
    have hkit : km ≠ it := by have := I.itl; have := I.kml; omega
    have oth : ∀ j, j ≠ it → (setBlock w1 it (.mapIter (some km) cl.length (seen.push p) cl.length)).heap[j]? = wr.heap[j]? := fun j hj => (heap_block_other hj).trans (by rw [hw1])
    refine ⟨p, nm, k, setBlock w1 it (.mapIter (some km) cl.length (seen.push p) cl.length), hp, hps, hpl, ?_, hrun, ?_, heap_block_at hi1, by simp [setBlock, hw1], oth, ?_, ?_⟩
    · cases hl : look nm tab with
      | none => rfl
      | some v =>
        obtain ⟨q, hq, k', hk', _⟩ := I.back nm v hl
        have hql := (List.getElem?_eq_some_iff.1 hk').1
        have e1 : (cl.map (·.1))[p]? = some nm := by rw [List.getElem?_map, hp]; rfl
        have e2 : (cl.map (·.1))[q]? = some nm := by rw [List.getElem?_map, hk']; rfl
        have : p = q := by
          rcases Nat.lt_trichotomy p q with h | h | h
          · exact ((List.pairwise_iff_getElem.1 hnd p q (by simpa using hpl) (by simpa using hql) h) (by
              rw [(List.getElem?_eq_some_iff.1 e1).2, (List.getElem?_eq_some_iff.1 e2).2])).elim
          · exact h
          · exact ((List.pairwise_iff_getElem.1 hnd q p (by simpa using hql) (by simpa using hpl) h) (by
              rw [(List.getElem?_eq_some_iff.1 e1).2, (List.getElem?_eq_some_iff.1 e2).2])).elim
        subst this
        exact absurd hq hps
    · refine run_entry_at (P := Yba.prog) _ it km cl.length seen (ents Value.string (clsKV cl) 0).toArray cl.length { key := .string nm, val := .string k, born := p } (heap_block_at hi1) ?_ (by simpa using hm) ?_
      · rw [oth km hkit]; exact hkr
      · show (List.map (·.born) (ents Value.string (clsKV cl) 0)).Nodup
        rw [ents_born]
        exact List.nodup_range'
    · have hb := I.below
      refine ⟨?_, ?_, ?_, ?_, ?_⟩
      · rcases hal with rfl | rfl <;> exact hb.os
      · rcases hal with rfl | rfl <;> exact hb.tape
      · rcases hal with rfl | rfl <;> exact hb.output
      · have := hb.size; simp [setBlock, hw1]; exact this
      · intro j hj
        rw [oth j (by have := I.itl; omega)]
        exact hb.block j hj
    · refine I.rep.transfer (fun j hj hty => oth j ?_)
      rintro rfl
      rcases hty with ⟨a, t, h⟩ | ⟨es, ck, h⟩
      · rw [I.iter] at h; cases h
      · rw [I.iter] at h; cases h


def clsLook (nm : ByteArray) : List (ByteArray × ByteArray) → Option ByteArray
  | [] => none
  | p :: r => if p.1 = nm then some p.2 else clsLook nm r

theorem clsLook_get {nm k : ByteArray} : ∀ {cl : List (ByteArray × ByteArray)} {p : Nat}, (cl.map (·.1)).Nodup → cl[p]? = some (nm, k) → clsLook nm cl = some k
  | [], p, _, h => by simp at h
  | q :: r, 0, hn, h => by
    simp at h
    subst h
    simp [clsLook]
  | q :: r, p + 1, hn, h => by
    simp only [List.map_cons, List.nodup_cons] at hn
    simp only [List.getElem?_cons_succ] at h
    have hne : ¬ q.1 = nm := fun e => hn.1 (by rw [e]; exact List.mem_map.2 ⟨_, List.mem_of_getElem? h, rfl⟩)
    simp only [clsLook, if_neg hne]
    exact clsLook_get hn.2 h

theorem clsLook_some {nm k : ByteArray} : ∀ {cl : List (ByteArray × ByteArray)}, clsLook nm cl = some k → ∃ p : Nat, cl[p]? = some (nm, k)
  | [], h => by simp [clsLook] at h
  | q :: r, h => by
    simp only [clsLook] at h
    split at h
    · rename_i e
      cases h
      exact ⟨0, by subst e; simp⟩
    · obtain ⟨p, hp⟩ := clsLook_some h
      exact ⟨p + 1, by simpa using hp⟩

/-- Each member's state before any bid. -/
def S0 (cl : List (ByteArray × ByteArray)) (ini : ByteArray → M) : ByteArray → M := fun nm =>
  match clsLook nm cl with
  | some k => ini k
  | none => M.fresh

theorem new_end {N : Nat} {w wr : World} {it km cb : Nat} {c : Cfg} {cl : List (ByteArray × ByteArray)} {ini : ByteArray → M} {seen : Array Nat} {tab : List (ByteArray × Value)} {blk : ByteArray → Nat} {ow : ByteArray → Option Nat} {S : ByteArray → M}
    (I : NewInv N w wr it km cb c cl ini seen tab blk ow S) (hnd : (cl.map (·.1)).Nodup) (hall : ∀ p, p < cl.length → p ∈ seen.toList) : S = S0 cl ini := by
  funext nm
  unfold S0
  cases hl : look nm tab with
  | some v =>
    obtain ⟨p, _, k, hp, hS⟩ := I.back nm v hl
    rw [clsLook_get hnd hp]
    exact hS
  | none =>
    rw [I.rep.out nm hl]
    cases hc : clsLook nm cl with
    | none => rfl
    | some k =>
      obtain ⟨p, hp⟩ := clsLook_some hc
      obtain ⟨v, hv⟩ := I.forth p (hall p (List.getElem?_eq_some_iff.1 hp).1) nm k hp
      rw [hl] at hv
      cases hv

def initCells (cap : Int) (capd : Bool) : Array Value := #[.bool true, .int .i64 cap, .bool capd, .slice none 0 0, .map none, .int .i64 0, .int .i64 0, .int .i64 0]

theorem new_round {N : Nat} {w wr W2 : World} {it km cb : Nat} {c : Cfg} {cl : List (ByteArray × ByteArray)} {lim : ByteArray → Int} {ld : Bool} {seen : Array Nat} {tab : List (ByteArray × Value)} {blk : ByteArray → Nat} {ow : ByteArray → Option Nat} {S : ByteArray → M}
    (I : NewInv N w wr it km cb c cl (fun k => M.init (lim k) ld) seen tab blk ow S) {p : Nat} {nm k : ByteArray} (hp : cl[p]? = some (nm, k)) (hps : p ∉ seen.toList) (hl : look nm tab = none)
    (hit : W2.heap[it]? = some (.mapIter (some km) cl.length (seen.push p) cl.length)) (hB : Below N w W2) (R : Rep N W2 cb c tab blk ow S) :
    NewInv N w (setBlock (W2.alloc (.cells (initCells (lim k) ld) 88)) c.mm (mapOf Value.string (tab ++ [(nm, .pointer (some ⟨W2.heap.size, 0, none⟩))]))) it km cb c cl (fun k => M.init (lim k) ld) (seen.push p)
      (tab ++ [(nm, .pointer (some ⟨W2.heap.size, 0, none⟩))]) (fun x => if x = nm then W2.heap.size else blk x) (fun x => if x = nm then none else ow x) (upd S nm (M.init (lim k) ld)) := by
  have hml := lt_of_heap R.map
  have hmA : (W2.alloc (.cells (initCells (lim k) ld) 88)).heap[c.mm]? = some (mapOf Value.string tab) := (heap_alloc_lt W2 _ hml).trans R.map
  have old : ∀ j, j < W2.heap.size → j ≠ c.mm → (setBlock (W2.alloc (.cells (initCells (lim k) ld) 88)) c.mm (mapOf Value.string (tab ++ [(nm, .pointer (some ⟨W2.heap.size, 0, none⟩))]))).heap[j]? = W2.heap[j]? :=
    fun j hj hne => (heap_block_other hne).trans (heap_alloc_lt W2 _ hj)
  have itm : it ≠ c.mm := by
    rintro rfl
    have := R.map
    rw [hit] at this
    simp [mapOf] at this
  refine ⟨R.insert hl (Nat.le_refl _) ?_ (heap_block_at hmA) old, (old it (lt_of_heap hit) itm).trans hit, ?_, ?_, ?_, ?_, ?_, I.itl, I.kml⟩
  · exact ⟨.slice none 0 0, .map none, (heap_block_other (by omega)).trans (heap_alloc_at W2 _), .inl ⟨by simp [M.init], rfl, World.ownsRow_nil _ _ _ _⟩, by simp [M.init], rfl⟩
  · intro q hq
    simp at hq
    rcases hq with hq | rfl
    · exact I.lt q (by simpa using hq)
    · exact (List.getElem?_eq_some_iff.1 hp).1
  · simp only [Array.toList_push]
    rw [List.nodup_append]
    exact ⟨I.nd, by simp, by rintro a ha b hb rfl; simp at hb; subst hb; exact hps ha⟩
  · intro x v hx
    by_cases e : x = nm
    · subst e
      exact ⟨p, by simp, k, hp, by simp [upd]⟩
    · rw [look_snoc_other e] at hx
      obtain ⟨q, hq, k', hk', hS⟩ := I.back x v hx
      exact ⟨q, by simp; left; simpa using hq, k', hk', by simp only [upd, if_neg e]; exact hS⟩
  · intro q hq x k' hx
    simp at hq
    by_cases e : x = nm
    · subst e
      exact ⟨_, look_snoc_self hl⟩
    · rcases hq with hq | rfl
      · obtain ⟨v, hv⟩ := I.forth q (by simpa using hq) x k' hx
        exact ⟨v, by rw [look_snoc_other e]; exact hv⟩
      · rw [hp] at hx
        cases hx
        exact absurd rfl e
  · refine ⟨hB.os, hB.tape, hB.output, ?_, ?_⟩
    · have := hB.size; simp [setBlock]; omega
    · intro j hj
      have hj2 : j < W2.heap.size := Nat.lt_of_lt_of_le (Nat.lt_of_lt_of_le hj R.hm) (Nat.le_of_lt hml)
      rw [old j hj2 (by have := R.hm; omega)]
      exact hB.block j hj


theorem NewMid.set {w wr : World} {mm : Nat} {ac cc : Array Value} (h : NewMid w wr mm ac cc) (o : Nat) (v : Value) : NewMid w (wr.setCell ⟨w.heap.size + 3, o, none⟩ v) mm ac (cc.setIfInBounds o v) := by
  have h1 := h.mml
  have h2 := h.mmh
  refine ⟨h.below.setCell (by simp) v, by simpa using h.size, (heap_set_other _ (by omega) _ _ _).trans h.ann, (heap_set_other _ (by omega) _ _ _).trans h.map, heap_set_at h.cfg o v, h.mml, h.mmh⟩

theorem NewMid.drewN {w wr : World} {mm : Nat} {ac cc : Array Value} (h : NewMid w wr mm ac cc) (n : Nat) : NewMid w (wr.drewN n) mm ac cc :=
  ⟨⟨h.below.os, h.below.tape, h.below.output, h.below.size, h.below.block⟩, h.size, h.ann, h.map, h.cfg, h.mml, h.mmh⟩


theorem rep_empty {w wr : World} {ac : Array Value} {c : Cfg} (h : NewMid w wr c.mm ac c.cells) : Rep w.heap.size wr (w.heap.size + 3) c [] (fun _ => 0) (fun _ => none) (fun _ => M.fresh) := by
  have := h.mml
  refine ⟨h.cfg, h.map, ?_, ?_, ?_, ?_, fun _ _ => rfl, ?_, by omega, by omega⟩ <;> intros <;> simp_all [look]

theorem run_range_cls {W : World} {km : Nat} {cl : List (ByteArray × ByteArray)} (h : W.heap[km]? = some (clsObj cl)) :
    (Instr.range 48 (.map (some km))).run Yba.prog W = .ok (.pointer (some ⟨W.heap.size, 0, none⟩)) (W.alloc (.mapIter (some km) cl.length #[] cl.length)) := by
  unfold clsObj at h
  simp [Instr.range, run_underlying Yba.underlying48, MapKept.run_getObj_map h, newObj, Sem.run, Result.andThen]

theorem inv_start {w wr : World} {ac : Array Value} {c : Cfg} {km : Nat} {cl : List (ByteArray × ByteArray)} {ini : ByteArray → M} (h : NewMid w wr c.mm ac c.cells) (hk : km < w.heap.size) :
    NewInv w.heap.size w (wr.alloc (.mapIter (some km) cl.length #[] cl.length)) wr.heap.size km (w.heap.size + 3) c cl ini #[] [] (fun _ => 0) (fun _ => none) (fun _ => M.fresh) := by
  refine ⟨(rep_empty h).transfer (fun k hk _ => heap_alloc_lt _ _ hk), heap_alloc_at _ _, by simp, by simp, ?_, by simp, h.below.alloc (by rw [h.size]; omega) _, by rw [h.size]; omega, hk⟩
  intro nm v hv
  simp [look] at hv


theorem nodup_lt_len : ∀ (n : Nat) (l : List Nat), l.Nodup → (∀ x ∈ l, x < n) → l.length ≤ n
  | 0, l, _, h => by
    cases l with
    | nil => simp
    | cons a r => have := h a (.head _); omega
  | n + 1, l, hn, h => by
    by_cases hm : n ∈ l
    · have h1 := nodup_lt_len n (l.erase n) (hn.erase n) (fun x hx => by
        have h2 := (hn.mem_erase_iff).1 hx
        have := h x h2.2
        have h3 := h2.1
        omega)
      rw [List.length_erase_of_mem hm] at h1
      omega
    · have := nodup_lt_len n l hn (fun x hx => by
        have h1 := h x hx
        have h2 : x ≠ n := fun e => hm (e ▸ hx)
        omega)
      omega

theorem NewInv.room {N : Nat} {w wr : World} {it km cb : Nat} {c : Cfg} {cl : List (ByteArray × ByteArray)} {ini : ByteArray → M} {seen : Array Nat} {tab : List (ByteArray × Value)} {blk : ByteArray → Nat} {ow : ByteArray → Option Nat} {S : ByteArray → M}
    (I : NewInv N w wr it km cb c cl ini seen tab blk ow S) {p : Nat} (hp : p < cl.length) (hps : p ∉ seen.toList) : seen.size < cl.length := by
  have h := nodup_lt_len cl.length (p :: seen.toList) (List.nodup_cons.2 ⟨hps, I.nd⟩) (by
    intro x hx
    rcases List.mem_cons.1 hx with rfl | hx
    · exact hp
    · exact I.lt x hx)
  simp at h
  omega

end Go.Proofs.Ybulkboty
