/-
  (*memberEntry).accept. Of this seat's own.
-/
import Derived.Test.YbulkbotyAdd
import Derived.BigRegion
namespace Go.Proofs.Ybulkboty
open Go.RowKit Go.ChangeMaps

theorem added_close {w w1 w2 : World} {e : Nat} {few many few' many' c0 c1 c2 : Value} {lo hi tot lo' hi' tot' A B C : Int} {ls : List Int}
    (he : w2.heap[e]? = some (.cells #[c0, c1, c2, few', many', .int .i64 lo, .int .i64 hi, .int .i64 tot] 88 (0, 0))) (hL : Lev w2 few' many' ls) (h1 : Kept e (auxOf few many) w w1) (hs : w1.heap.size = w.heap.size) (hK : Kept e (auxOf few many) w1 w2)
    (hloc : auxOf few' many' = auxOf few many ∨ ∃ g, auxOf few' many' = some g ∧ w1.heap.size ≤ g) (hA : lo' = A) (hB : hi' = B) (hC : tot' = C) :
    Added w ((((w2.setCell ⟨e, 5, none⟩ (.int .i64 lo')).setCell ⟨e, 6, none⟩ (.int .i64 hi')).setCell ⟨e, 7, none⟩ (.int .i64 tot')).drew) e c0 c1 c2 few many (.int .i64 A) (.int .i64 B) (.int .i64 C) ls := by
  subst hA hB hC
  have hne := hL.ne he
  have e1 := heap_set_at he 5 (.int .i64 lo')
  have e2 := heap_set_at e1 6 (.int .i64 hi')
  have e3 := heap_set_at e2 7 (.int .i64 tot')
  have hKw : Kept e (auxOf few many) w w2 := h1.trans hK (fun g hg => .inl hg)
  refine ⟨few', many', e3, ?_, ?_, ?_⟩
  · refine hL.kept (fun g hg => ?_)
    have hge : g ≠ e := fun h => hne (by rw [hg, h])
    show (((w2.setCell _ _).setCell _ _).setCell _ _).heap[g]? = _
    rw [heap_set_other _ hge, heap_set_other _ hge, heap_set_other _ hge]
  · exact (((hKw.setCell _ _ _).setCell _ _ _).setCell _ _ _).drewN 1
  · rcases hloc with h | ⟨g, h, h2⟩
    · exact .inl h
    · exact .inr ⟨g, h, by omega⟩

set_option maxHeartbeats 400000 in
theorem accept_some (e : Nat) (few many c0 c1 c2 : Value) (lo hi tot : Int) (ls : List Int) (l amt : Int) (w : World) (he : w.heap[e]? = some (.cells #[c0, c1, c2, few, many, .int .i64 lo, .int .i64 hi, .int .i64 tot] 88 (0, 0)))
    (hL : Lev w few many ls) (hnd : ls.Nodup) (hnot : l ∉ ls) (hb : ls.length ≤ 100000) (hne : ls ≠ []) :
    Calls Yba.prog 22 #[.pointer (some ⟨e, 0, none⟩), .int .i64 l, .int .i64 amt] w fun r w' => r = .returned (.tuple #[]) ∧
      Added w w' e c0 c1 c2 few many (.int .i64 (min lo l)) (.int .i64 (max hi l)) (.int .i64 (wrap64 (tot + amt))) (ls ++ [l]) := by
  have c3 := cell_of he 3
  have c4 := cell_of he 4
  simp only [List.getElem?_toArray, List.getElem?_cons_succ, List.getElem?_cons_zero] at c3 c4
  have HE : Hid (w.heap[e]? = some (.cells #[c0, c1, c2, few, many, .int .i64 lo, .int .i64 hi, .int .i64 tot] 88 (0, 0))) := he
  have hlen := len_any e few many ls w hb c3 c4 hL
  have h0 : ((ls.length : Int) == 0) = false := by
    have : ls.length ≠ 0 := fun h => hne (List.eq_nil_of_length_eq_zero h)
    simpa using this
  have HL : Hid (Lev w few many ls) := hL
  clear he hL
  go_enter Yba.func22, Yba.ntmps22
  go_wp2_with (go_at_call 21; refine hlen.mono ?_; rintro r w' ⟨rfl, nq, rfl⟩; clear hlen)
  refine (add_any e few many c0 c1 c2 _ _ _ ls l (w.drewN nq) HE.out HL.out hnd hnot).mono ?_
  rintro r w2 ⟨rfl, few', many', he2, hL2, hK, hloc⟩
  have HE2 : Hid (w2.heap[e]? = _) := he2
  have c5 := cell_of he2 5
  have c6 := cell_of he2 6
  have c7 := cell_of he2 7
  simp only [List.getElem?_toArray, List.getElem?_cons_succ, List.getElem?_cons_zero] at c5 c6 c7
  have f5 := fun o => thawed_of he2 o none
  clear he2
  go_wp2
  go_region
  go_wp2
  all_goals
    go_end0
    exact ⟨rfl, added_close HE2.out hL2 ((Kept.refl _ _ _).drewN nq) rfl hK hloc (by omega) (by omega) rfl⟩

set_option maxHeartbeats 400000 in
theorem accept_none (e : Nat) (few many c0 c1 c2 : Value) (lo hi tot : Int) (l amt : Int) (w : World) (he : w.heap[e]? = some (.cells #[c0, c1, c2, few, many, .int .i64 lo, .int .i64 hi, .int .i64 tot] 88 (0, 0)))
    (hL : Lev w few many []) :
    Calls Yba.prog 22 #[.pointer (some ⟨e, 0, none⟩), .int .i64 l, .int .i64 amt] w fun r w' => r = .returned (.tuple #[]) ∧
      Added w w' e c0 c1 c2 few many (.int .i64 l) (.int .i64 l) (.int .i64 (wrap64 (tot + amt))) [l] := by
  have c3 := cell_of he 3
  have c4 := cell_of he 4
  have c5 := cell_of he 5
  have c6 := cell_of he 6
  simp only [List.getElem?_toArray, List.getElem?_cons_succ, List.getElem?_cons_zero] at c3 c4 c5 c6
  have f5 := fun o => thawed_of he o none
  have HE : Hid (w.heap[e]? = some (.cells #[c0, c1, c2, few, many, .int .i64 lo, .int .i64 hi, .int .i64 tot] 88 (0, 0))) := he
  have hlen := len_any e few many [] w (by simp) c3 c4 hL
  have HL : Hid (Lev w few many []) := hL
  clear he hL
  go_enter Yba.func22, Yba.ntmps22
  go_wp2_with (go_at_call 21; refine hlen.mono ?_; rintro r w' ⟨rfl, nq, rfl⟩; clear hlen)
  obtain ⟨W1, hW1⟩ : ∃ W1, ((w.drewN nq).setCell ⟨e, 5, none⟩ (.int .i64 l)).setCell ⟨e, 6, none⟩ (.int .i64 l) = W1 := ⟨_, rfl⟩
  have HE1 : W1.heap[e]? = some (.cells #[c0, c1, c2, few, many, .int .i64 l, .int .i64 l, .int .i64 tot] 88 (0, 0)) := by
    rw [← hW1]
    exact heap_set_at (heap_set_at (w := w.drewN nq) HE.out 5 _) 6 _
  have HL1 : Lev W1 few many [] := by
    have hne := HL.out.ne HE.out
    rw [← hW1]
    refine HL.out.kept (fun g hg => ?_)
    have hge : g ≠ e := fun h => hne (by rw [hg, h])
    rw [heap_set_other _ hge, heap_set_other _ hge]
    rfl
  have HK1 : Hid (Kept e (auxOf few many) w W1) := by
    show Kept _ _ _ _
    rw [← hW1]
    exact (((Kept.refl _ _ _).drewN nq).setCell _ _ _).setCell _ _ _
  have HS1 : Hid (W1.heap.size = w.heap.size) := by show _ = _; rw [← hW1]; simp
  rw [hW1]
  clear hW1 c3 c4 c5 c6 f5
  refine (add_any e few many c0 c1 c2 _ _ _ [] l W1 HE1 HL1 (by simp) (by simp)).mono ?_
  rintro r w2 ⟨rfl, few', many', he2, hL2, hK, hloc⟩
  have HE2 : Hid (w2.heap[e]? = _) := he2
  have c5 := cell_of he2 5
  have c6 := cell_of he2 6
  have c7 := cell_of he2 7
  simp only [List.getElem?_toArray, List.getElem?_cons_succ, List.getElem?_cons_zero] at c5 c6 c7
  have f5 := fun o => thawed_of he2 o none
  clear he2
  go_wp2
  go_region
  go_wp2
  all_goals
    go_end0
    exact ⟨rfl, added_close HE2.out hL2 HK1.out HS1.out hK hloc (by omega) (by omega) rfl⟩

end Go.Proofs.Ybulkboty
