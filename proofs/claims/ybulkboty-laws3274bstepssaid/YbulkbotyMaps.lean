/-
  MAPS OF THE CALL's OWN, BY THEIR ENTRIES IN THE ORDER OF INSERTION. Of this seat's own; it names no dump.
-/
import Derived.WalkKit
import Derived.ProofKit
import Derived.WalkSpells
import Derived.Maps.RangeRun
namespace Go.Proofs.Ybulkboty
open Go.MapKept Go.ChangeMaps

section
variable {κ : Type}

/-- The entries, stamped by their places. -/
def ents (mk : κ → Value) : List (κ × Value) → Nat → List MapEntry
  | [], _ => []
  | p :: r, i => { key := mk p.1, val := p.2, born := i } :: ents mk r (i + 1)

theorem ents_append (mk : κ → Value) : ∀ (l : List (κ × Value)) (k : κ) (v : Value) (i : Nat), ents mk (l ++ [(k, v)]) i = ents mk l i ++ [{ key := mk k, val := v, born := i + l.length }]
  | [], _, _, _ => by simp [ents]
  | p :: r, k, v, i => by
    simp only [List.cons_append, ents, ents_append mk r k v (i + 1), List.length_cons]
    rw [show i + 1 + r.length = i + (r.length + 1) by omega]

theorem ents_length (mk : κ → Value) : ∀ (l : List (κ × Value)) (i : Nat), (ents mk l i).length = l.length
  | [], _ => rfl
  | _ :: r, i => by simp [ents, ents_length mk r (i + 1)]

theorem ents_get (mk : κ → Value) : ∀ (l : List (κ × Value)) (i j : Nat), (ents mk l i)[j]? = (l[j]?).map fun p => { key := mk p.1, val := p.2, born := i + j }
  | [], _, _ => by simp [ents]
  | p :: r, i, 0 => by simp [ents]
  | p :: r, i, j + 1 => by
    simp only [ents, List.getElem?_cons_succ, ents_get mk r (i + 1) j]
    congr 1
    funext q
    rw [show i + 1 + j = i + (j + 1) by omega]

theorem ents_mem {mk : κ → Value} {l : List (κ × Value)} {i : Nat} {e : MapEntry} (h : e ∈ ents mk l i) : ∃ j p, l[j]? = some p ∧ e = { key := mk p.1, val := p.2, born := i + j } := by
  obtain ⟨j, hj⟩ := List.mem_iff_getElem?.1 h
  rw [ents_get] at hj
  obtain ⟨p, hp, rfl⟩ := Option.map_eq_some_iff.1 hj
  exact ⟨j, p, hp, rfl⟩

theorem ents_born (mk : κ → Value) (l : List (κ × Value)) (i : Nat) : (ents mk l i).map (·.born) = List.range' i l.length := by
  induction l generalizing i with
  | nil => rfl
  | cons p r ih => simp [ents, ih, List.range'_succ]

/-- THE MAP's BLOCK. -/
def mapOf (mk : κ → Value) (l : List (κ × Value)) : Obj := .map (ents mk l 0).toArray l.length

end

section
variable {κ : Type} [DecidableEq κ]

def look (k : κ) : List (κ × Value) → Option Value
  | [] => none
  | p :: r => if p.1 = k then some p.2 else look k r

def idx (k : κ) : List (κ × Value) → Nat
  | [] => 0
  | p :: r => if p.1 = k then 0 else idx k r + 1

def put (k : κ) (v : Value) : List (κ × Value) → List (κ × Value)
  | [] => [(k, v)]
  | p :: r => if p.1 = k then (k, v) :: r else p :: put k v r

theorem look_put (k x : κ) (v : Value) : ∀ l, look x (put k v l) = if k = x then some v else look x l
  | [] => by simp [put, look]
  | p :: r => by
    unfold put
    by_cases h : p.1 = k
    · rw [if_pos h]
      by_cases hx : k = x
      · simp [look, hx]
      · have : ¬ p.1 = x := fun e => hx (h.symm.trans e)
        simp [look, hx, this]
    · rw [if_neg h]
      simp only [look]
      by_cases hp : p.1 = x
      · have : ¬ k = x := fun e => h (hp.trans e.symm)
        simp [hp, this]
      · simp [hp, look_put k x v r]

theorem put_none {k : κ} {v : Value} : ∀ {l : List (κ × Value)}, look k l = none → put k v l = l ++ [(k, v)]
  | [], _ => rfl
  | p :: r, h => by
    simp only [look] at h
    split at h
    · cases h
    · rename_i hne
      simp [put, hne, put_none h]

theorem look_append (k : κ) (a b : List (κ × Value)) : look k (a ++ b) = (look k a).or (look k b) := by
  induction a with
  | nil => simp [look]
  | cons p r ih => simp only [List.cons_append, look]; split <;> simp_all

theorem look_mem {k : κ} {v : Value} : ∀ {l : List (κ × Value)}, look k l = some v → (k, v) ∈ l
  | p :: r, h => by
    simp only [look] at h
    split at h
    · rename_i e
      cases h
      subst e
      exact .head _
    · exact .tail _ (look_mem h)

theorem look_none_iff {k : κ} : ∀ {l : List (κ × Value)}, look k l = none ↔ k ∉ l.map (·.1)
  | [] => by simp [look]
  | p :: r => by
    simp only [look, List.map_cons, List.mem_cons]
    by_cases h : p.1 = k
    · simp [h]
    · simp only [if_neg h]
      rw [look_none_iff]
      constructor
      · rintro h1 (h2 | h2)
        · exact h h2.symm
        · exact h1 h2
      · exact fun h1 h2 => h1 (.inr h2)

theorem look_of_mem {k : κ} {v : Value} : ∀ {l : List (κ × Value)}, (l.map (·.1)).Nodup → (k, v) ∈ l → look k l = some v
  | p :: r, hn, h => by
    simp only [List.map_cons, List.nodup_cons] at hn
    simp only [look]
    cases h with
    | head => simp
    | tail _ h =>
      have : p.1 ≠ k := fun e => hn.1 (List.mem_map.2 ⟨_, h, e.symm⟩)
      rw [if_neg this]
      exact look_of_mem hn.2 h

theorem put_keys (k : κ) (v : Value) : ∀ l : List (κ × Value), (put k v l).map (·.1) = if k ∈ l.map (·.1) then l.map (·.1) else l.map (·.1) ++ [k]
  | [] => by simp [put]
  | p :: r => by
    unfold put
    by_cases h : p.1 = k
    · simp [h]
    · have hk : ¬ k = p.1 := fun e => h e.symm
      simp only [if_neg h, List.map_cons, put_keys k v r, List.mem_cons, hk, false_or]
      split <;> simp

theorem put_nodup (k : κ) (v : Value) {l : List (κ × Value)} (h : (l.map (·.1)).Nodup) : ((put k v l).map (·.1)).Nodup := by
  rw [put_keys]
  split
  · exact h
  · rename_i hn
    rw [List.nodup_append]
    exact ⟨h, by simp, by rintro a ha b hb rfl; simp at hb; subst hb; exact hn ha⟩

theorem ents_put (mk : κ → Value) (k : κ) (v : Value) : ∀ (l : List (κ × Value)) (i : Nat) (u : Value), look k l = some u →
    ents mk (put k v l) i = (ents mk l i).modify (idx k l) fun e => { e with key := mk k, val := v }
  | [], _, _, h => by simp [look] at h
  | p :: r, i, u, h => by
    simp only [look] at h
    split at h
    · rename_i e
      simp [put, idx, e, ents]
    · rename_i e
      simp [put, idx, e, ents, ents_put mk k v r (i + 1) u h]

theorem idx_get {k : κ} {u : Value} : ∀ {l : List (κ × Value)}, look k l = some u → l[idx k l]? = some (k, u)
  | [], h => by simp [look] at h
  | p :: r, h => by
    simp only [look] at h
    split at h
    · rename_i e
      cases h
      subst e
      simp [idx]
    · rename_i e
      simp [idx, e, idx_get h]

theorem put_length_some {k : κ} {v u : Value} : ∀ {l : List (κ × Value)}, look k l = some u → (put k v l).length = l.length
  | [], h => by simp [look] at h
  | p :: r, h => by
    simp only [look] at h
    split at h
    · rename_i e; simp [put, e]
    · rename_i e; simp [put, e, put_length_some h]

theorem findNow_ents {mk : κ → Value} {d : TypeDesc} (hmk : ∀ k, IsKey d (mk k)) (hinj : ∀ a b, mk a = mk b → a = b) (k : κ) : ∀ (l : List (κ × Value)) (i j : Nat),
    Instr.findNow d (mk k) (ents mk l i) j = some ((look k l).map fun v => (j + idx k l, v))
  | [], _, _ => rfl
  | p :: r, i, j => by
    obtain ⟨b, hb, hiff⟩ := sameNow_of_keys (hmk k) (hmk p.1)
    simp only [ents, Instr.findNow, hb, look, idx]
    cases b with
    | true =>
      have e : p.1 = k := (hinj _ _ (hiff.1 rfl)).symm
      simp [e]
    | false =>
      have e : ¬ p.1 = k := fun e => by have := hiff.2 (by rw [e]); cases this
      simp only [findNow_ents hmk hinj k r (i + 1) (j + 1), if_neg e]
      congr 1
      cases look k r with
      | none => rfl
      | some v => simp; omega

theorem run_lookup {P : Program} {w : World} {t kt et : TypeId} {d : TypeDesc} {mk : κ → Value} (hmk : ∀ k, IsKey d (mk k)) (hinj : ∀ a b, mk a = mk b → a = b) {b : Nat} {l : List (κ × Value)}
    (hm : P.underlying t = some (.map kt et)) (hd : P.underlying kt = some d) {z : Value} (hz : (zeroValue et).run P w = .ok z w) (hb : w.heap[b]? = some (mapOf mk l)) (k : κ) :
    (Instr.lookup t (.map (some b)) (mk k) false).run P w = .ok ((look k l).getD z) w := by
  have hf := findNow_ents hmk hinj k l 0 0
  unfold mapOf at hb
  cases h : look k l with
  | none =>
    rw [h] at hf
    simp [Instr.lookup, run_underlying hm, MapKept.run_getObj_map hb, run_checkKey hd (hmk k), run_findKey hd hf, hz, Result.andThen]
  | some v =>
    rw [h] at hf
    simp [Instr.lookup, run_underlying hm, MapKept.run_getObj_map hb, run_checkKey hd (hmk k), run_findKey hd hf, Result.andThen]

theorem run_update {P : Program} {w : World} {t kt et : TypeId} {d : TypeDesc} {mk : κ → Value} (hmk : ∀ k, IsKey d (mk k)) (hinj : ∀ a b, mk a = mk b → a = b) {b : Nat} {l : List (κ × Value)}
    (hm : P.underlying t = some (.map kt et)) (hd : P.underlying kt = some d) (hb : w.heap[b]? = some (mapOf mk l)) (k : κ) (v : Value) :
    (Instr.mapUpdate t (.map (some b)) (mk k) v).run P w = .ok () (setBlock w b (mapOf mk (put k v l))) := by
  have hf := findNow_ents hmk hinj k l 0 0
  unfold mapOf at hb
  cases h : look k l with
  | none =>
    rw [h] at hf
    simp [Instr.mapUpdate, run_underlying hm, MapKept.run_getObj_map hb, run_checkKey hd (hmk k), run_findKey hd hf, MapKept.run_setObj_map _ hb, Result.andThen, setBlock, mapOf, put_none h, ents_append]
  | some u =>
    rw [h] at hf
    have hg := idx_get h
    have hj : (ents mk l 0).toArray[idx k l]? = some { key := mk k, val := u, born := idx k l } := by
      simp [ents_get, hg]
    have hj' : (ents mk l 0)[idx k l]? = some { key := mk k, val := u, born := idx k l } := by
      simp [ents_get, hg]
    have hp := ents_put mk k v l 0 u h
    have hlen := put_length_some (v := v) h
    simp [Instr.mapUpdate, run_underlying hm, MapKept.run_getObj_map hb, run_checkKey hd (hmk k), run_findKey hd hf, hj', run_keyThatStays (hmk k), MapKept.run_setObj_map _ hb, Result.andThen, setBlock, mapOf, hp, hlen]

end

theorem str_isKey (k : ByteArray) : IsKey .string (Value.string k) := trivial
theorem str_inj (a b : ByteArray) (h : Value.string a = Value.string b) : a = b := by cases h; rfl
theorem int_isKey (k : Int) : IsKey (.int .i64) (Value.int .i64 k) := rfl
theorem int_inj (a b : Int) (h : Value.int .i64 a = Value.int .i64 b) : a = b := by cases h; rfl

end Go.Proofs.Ybulkboty
