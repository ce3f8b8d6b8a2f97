/-
  THE LEVELS OF ONE MEMBER: 'levelSet' in memory, and the contracts of slices.Index, slices.Contains, (*levelSet).len, has, add. Of this seat's own.
-/
import Derived.Test.YbulkbotyOf
import Derived.Test.YbulkbotyMaps
import Derived.WalkLawsBesides
import Derived.Outline
import Derived.Maps.OwnOps
import Derived.Maps.AppendAt
import Derived.Deep.QuietTactic
import Derived.BigQuiet
import Derived.Deep.LoopGhost
namespace Go.Proofs.Ybulkboty
open Go.RowKit Go.ChangeMaps

/-- A map that holds just the levels ls, in that order. -/
def levObj (ls : List Int) : Obj := mapOf (Value.int .i64) (ls.map fun l => (l, .bool true))

/-- A levelSet's two cells hold the levels ls, in the order in which they came: up to 64 in a row of its own, more of them in a map. -/
def Lev (w : World) (few many : Value) (ls : List Int) : Prop :=
  (ls.length ≤ 64 ∧ many = .map none ∧ w.ownsRow 0 69 1 few ls.length (ls.map (Value.int .i64))) ∨
  (∃ g, 64 < ls.length ∧ few = .slice none 0 0 ∧ many = .map (some g) ∧ w.heap[g]? = some (levObj ls))

/-- The one block beyond the entry's own that its levels lie in. -/
def auxOf (few many : Value) : Option Nat :=
  match many with
  | .map (some g) => some g
  | _ => few.ownBlock

/-- What slices.Index tells of l in ls. -/
def IdxIs (ls : List Int) (l i : Int) : Prop := (l ∈ ls → 0 ≤ i) ∧ (l ∉ ls → i < 0)

theorem index_some (g cap : Nat) (ls : List Int) (l : Int) (w : World) (hn : ls.length ≤ 64) (hc : ∀ j, j < ls.length → w.cell? ⟨g, j, none⟩ = some (.int .i64 (ls.getD j 0))) :
    Calls Yba.prog 29 #[.slice (some ⟨g, 0, none⟩) ls.length cap, .int .i64 l] w fun e w' => (∃ i : Int, e = .returned (.int .i64 i) ∧ IdxIs ls l i) ∧ w' = w := by
  go_enter Yba.func29, Yba.ntmps29
  go_wp2
  go_loopg [8] ls.length (fun k i wr => ∃ n : Nat, n ≤ ls.length ∧ k = ls.length - n ∧ i = .int .i64 n ∧ l ∉ ls.take n ∧ wr = w)
  case atStart => exact ⟨0, Nat.zero_le _, rfl, rfl, by simp, rfl⟩
  case round =>
    obtain ⟨n, hn2, hk, rfl, hnot, rfl⟩ := hrel
    have HN : Hid (l ∉ ls.take n) := hnot
    clear hnot
    by_cases hlt : n < ls.length
    · have hcell := hc n hlt
      clear hc
      obtain ⟨z, hz⟩ : ∃ z, ls.getD n 0 = z := ⟨_, rfl⟩
      rw [hz] at hcell
      have HZ : Hid (ls.getD n 0 = z) := hz
      clear hz
      by_cases he : l = z
      · have he' : (l == z) = true := by simp [he]
        have HE : Hid (l = z) := he
        clear he
        go_wp2
        go_ret
        refine ⟨⟨n, rfl, ?_⟩, rfl⟩
        have hm : l ∈ ls := by
          rw [HE.out, ← HZ.out]
          rw [List.getD_eq_getElem?_getD, List.getElem?_eq_getElem hlt]
          exact List.getElem_mem hlt
        exact ⟨fun _ => by omega, fun h => absurd hm h⟩
      · have he' : (l == z) = false := by simp [he]
        have HE : Hid (¬ l = z) := he
        clear he
        go_wp2
        go_roundg (ls.length - (n + 1))
        case measure => omega
        case rel =>
          refine ⟨n + 1, by omega, rfl, by go_num, ?_, rfl⟩
          rw [List.take_succ_eq_append_getElem hlt]
          have hz := HZ.out
          rw [List.getD_eq_getElem?_getD, List.getElem?_eq_getElem hlt] at hz
          simp only [Option.getD_some] at hz
          intro hm
          rcases List.mem_append.1 hm with h1 | h1
          · exact HN.out h1
          · exact HE.out (by rw [List.mem_singleton.1 h1]; exact hz)
    · go_wp2
      go_ret
      refine ⟨⟨-1, rfl, ?_⟩, rfl⟩
      have hm : l ∉ ls := by
        have := HN.out
        rwa [List.take_of_length_le (by omega)] at this
      exact ⟨fun h => absurd h hm, fun _ => by omega⟩

theorem index_none (l : Int) (w : World) :
    Calls Yba.prog 29 #[.slice none 0 0, .int .i64 l] w fun e w' => e = .returned (.int .i64 (-1)) ∧ w' = w := by
  go_enter Yba.func29, Yba.ntmps29
  go_wp2
  go_loopg [8] 0 (fun k i wr => i = .int .i64 0 ∧ wr = w)
  case atStart => exact ⟨rfl, rfl⟩
  case round =>
    obtain ⟨rfl, rfl⟩ := hrel
    go_wp2
    go_ret
    exact ⟨rfl, rfl⟩

theorem contains_some (g cap : Nat) (ls : List Int) (l : Int) (w : World) (hn : ls.length ≤ 64) (hc : ∀ j, j < ls.length → w.cell? ⟨g, j, none⟩ = some (.int .i64 (ls.getD j 0))) :
    Calls Yba.prog 24 #[.slice (some ⟨g, 0, none⟩) ls.length cap, .int .i64 l] w fun e w' => e = .returned (.bool (decide (l ∈ ls))) ∧ w' = w := by
  have hi := index_some g cap ls l w hn hc
  by_cases hm : l ∈ ls
  · have HM : Hid (l ∈ ls) := hm
    have e0 : decide (l ∈ ls) = true := by simpa using hm
    rw [e0]
    clear hm e0 hc
    go_enter Yba.func24, Yba.ntmps24
    go_wp2_with (go_at_call 29; refine hi.mono ?_; rintro e w' ⟨⟨i, rfl, hx⟩, rfl⟩; have hx0 := hx.1 HM.out; clear hx)
    go_ret
    exact ⟨by simp, rfl⟩
  · have HM : Hid (l ∉ ls) := hm
    have e0 : decide (l ∈ ls) = false := by simpa using hm
    rw [e0]
    clear hm e0 hc
    go_enter Yba.func24, Yba.ntmps24
    go_wp2_with (go_at_call 29; refine hi.mono ?_; rintro e w' ⟨⟨i, rfl, hx⟩, rfl⟩; have hx0 := hx.2 HM.out; clear hx)
    go_ret
    exact ⟨by simp [hx0], rfl⟩

theorem contains_none (l : Int) (w : World) :
    Calls Yba.prog 24 #[.slice none 0 0, .int .i64 l] w fun e w' => e = .returned (.bool false) ∧ w' = w := by
  go_enter Yba.func24, Yba.ntmps24
  go_wp2_with (go_at_call 29; refine (index_none l _).mono ?_; rintro e w' ⟨rfl, rfl⟩)
  go_ret
  exact ⟨rfl, rfl⟩

theorem zero4 (w : World) : (zeroValue 4).run Yba.prog w = .ok (.bool false) w := by kernel_rfl

/-- (*levelSet).len, whatever holds the levels. -/
theorem len_any (e : Nat) (few many : Value) (ls : List Int) (w : World) (hb : ls.length ≤ 100000) (c3 : w.cell? ⟨e, 3, none⟩ = some few) (c4 : w.cell? ⟨e, 4, none⟩ = some many) (hL : Lev w few many ls) :
    Calls Yba.prog 21 #[.pointer (some ⟨e, 3, none⟩)] w fun e w' => e = .returned (.int .i64 ls.length) ∧ ∃ nq, w' = w.drewN nq := by
  rcases hL with ⟨h64, rfl, hown⟩ | ⟨g, h64, rfl, rfl, hg⟩
  · obtain ⟨a, cap, rfl⟩ : ∃ a cap, few = .slice a ls.length cap := by
      rcases hown.2 with ⟨h1, h2⟩ | ⟨g, cap, cur, h1, _⟩
      · exact ⟨none, 0, by rw [h1, h2]⟩
      · exact ⟨_, _, h1⟩
    clear hown
    go_enter Yba.func21, Yba.ntmps21
    go_wp2
    go_quiet (fail)
    go_wp2
    go_ret
    exact ⟨rfl, _, rfl⟩
  · have hlen : ∀ nq, (Builtin.len_ #[84] 3 #[.map (some g)]).run Yba.prog (w.drewN nq) = .ok (.int .i64 (ls.length : Nat)) (w.drewN nq) := by
      intro nq
      have hg' : (w.drewN nq).heap[g]? = some (.map (ents (Value.int .i64) (ls.map fun l => (l, .bool true)) 0).toArray (ls.map fun l => (l, Value.bool true)).length) := hg
      simp [Builtin.len_, run_underlying Yba.underlying84, MapKept.run_getObj_map hg', goInt, Result.andThen, ents_length]
    go_enter Yba.func21, Yba.ntmps21
    go_wp2
    go_quiet (fail)
    go_wp2
    go_ret
    exact ⟨rfl, _, rfl⟩

theorem row_cells {w : World} {base e g cap : Nat} {ls : List Int} (h : w.ownsRow base e 1 (.slice (some ⟨g, 0, none⟩) ls.length cap) ls.length (ls.map (Value.int .i64))) :
    ∀ j, j < ls.length → w.cell? ⟨g, j, none⟩ = some (.int .i64 (ls.getD j 0)) := by
  intro j hj
  have hx := h.cells (g := g) rfl j (.int .i64 (ls.getD j 0)) (by
    rw [List.getElem?_map, List.getElem?_eq_getElem hj, List.getD_eq_getElem?_getD, List.getElem?_eq_getElem hj]
    rfl)
  rw [Addr.add_lit] at hx
  simpa using hx

/-- (*levelSet).has. -/
theorem has_any (e : Nat) (few many : Value) (ls : List Int) (l : Int) (w : World) (c3 : w.cell? ⟨e, 3, none⟩ = some few) (c4 : w.cell? ⟨e, 4, none⟩ = some many) (hL : Lev w few many ls) :
    Calls Yba.prog 20 #[.pointer (some ⟨e, 3, none⟩), .int .i64 l] w fun e w' => e = .returned (.bool (decide (l ∈ ls))) ∧ w' = w := by
  have hnm := fun r => run_neq_map_nil (P := Yba.prog) w 84 _ _ r Yba.underlying84
  rcases hL with ⟨h64, rfl, hown⟩ | ⟨g, h64, rfl, rfl, hg⟩
  · rcases hown.2 with ⟨h1, h2⟩ | ⟨g, cap, cur, h1, _⟩
    · subst h1
      have hnil : ls = [] := List.eq_nil_of_length_eq_zero h2
      subst hnil
      clear hown
      go_enter Yba.func20, Yba.ntmps20
      go_wp2_with (go_at_call 24; refine (contains_none l _).mono ?_; rintro e w' ⟨rfl, rfl⟩)
      go_ret
      exact ⟨by simp, rfl⟩
    · subst h1
      have hcs := row_cells hown
      have hcont := contains_some g cap ls l w h64 hcs
      clear hcs hown
      go_enter Yba.func20, Yba.ntmps20
      go_wp2_with (go_at_call 24; refine hcont.mono ?_; rintro e w' ⟨rfl, rfl⟩)
      go_ret
      exact ⟨rfl, rfl⟩
  · have hlk := run_lookup (P := Yba.prog) (t := 84) int_isKey int_inj Yba.underlying84 Yba.underlying69 (zero4 w) hg l
    have hv : ((look l (ls.map fun l => (l, Value.bool true))).getD (.bool false)) = .bool (decide (l ∈ ls)) := by
      by_cases hm : l ∈ ls
      · have : look l (ls.map fun l => (l, Value.bool true)) = some (.bool true) := by
          clear hg hlk h64
          induction ls with
          | nil => simp at hm
          | cons x r ih =>
            simp only [List.map_cons, look]
            by_cases hx : x = l
            · simp [hx]
            · rw [if_neg hx]; exact ih (by rcases List.mem_cons.1 hm with h | h; exact absurd h.symm hx; exact h)
        simp [this, hm]
      · have : look l (ls.map fun l => (l, Value.bool true)) = none := look_none_iff.2 (by simpa using hm)
        simp [this, hm]
    rw [hv] at hlk
    go_enter Yba.func20, Yba.ntmps20
    go_wp2
    go_ret
    exact ⟨rfl, rfl⟩
end Go.Proofs.Ybulkboty
