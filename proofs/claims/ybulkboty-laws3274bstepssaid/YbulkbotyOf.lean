/-
  THE CONTRACT OF '(Percent).of' (function 8), and the plain arithmetic behind it. Of this seat's own.
-/
import Derived.Test.YbulkbotyRows
import Derived.WalkKit
import Derived.ProofKit
import Derived.WalkSpells
namespace Go.Proofs.Ybulkboty
open Go.RowKit

/-- p percent of a, for the product n = p * a: truncated, one more where the remainder is a half or above. -/
def ofZ (n : Int) : Int := n.tdiv 1000000 + if 1000000 ≤ 2 * n.tmod 1000000 then 1 else 0

theorem tmod_bd (n : Int) : -1000000 < n.tmod 1000000 ∧ n.tmod 1000000 < 1000000 := by
  rcases Int.le_total 0 n with h | h
  · rw [Int.tmod_eq_emod_of_nonneg h]; omega
  · have e : n.tmod 1000000 = -((-n) % 1000000) := by
      have := Int.neg_tmod (-n) 1000000
      rw [Int.neg_neg] at this
      rw [this, Int.tmod_eq_emod_of_nonneg (by omega)]
    rw [e]; omega

theorem tdiv_bd (n : Int) (h1 : -100000000000000000 ≤ n) (h2 : n ≤ 100000000000000000) : -100000000000 ≤ n.tdiv 1000000 ∧ n.tdiv 1000000 ≤ 100000000000 := by
  have h := Int.mul_tdiv_add_tmod n 1000000
  have b := tmod_bd n
  omega

theorem ofZ_nonneg (n : Int) (h : 0 ≤ n) : ofZ n = (n + 500000) / 1000000 := by
  unfold ofZ
  rw [Int.tmod_eq_emod_of_nonneg h, Int.tdiv_eq_ediv_of_nonneg h]
  split <;> omega

theorem ofZ_neg (n : Int) (h : n < 0) : ofZ n = -((-n) / 1000000) := by
  have e : n.tmod 1000000 = -((-n) % 1000000) := by
    have := Int.neg_tmod (-n) 1000000
    rw [Int.neg_neg] at this
    rw [this, Int.tmod_eq_emod_of_nonneg (by omega)]
  have d : n.tdiv 1000000 = -((-n) / 1000000) := by
    have := Int.neg_tdiv (-n) 1000000
    rw [Int.neg_neg] at this
    rw [this, Int.tdiv_eq_ediv_of_nonneg (by omega)]
  unfold ofZ
  rw [e, d, if_neg (by omega)]
  omega

theorem ofZ_bd (n : Int) (h1 : -100000000000000000 ≤ n) (h2 : n ≤ 100000000000000000) : -100000000001 ≤ ofZ n ∧ ofZ n ≤ 100000000001 := by
  have d := tdiv_bd n h1 h2
  unfold ofZ
  split <;> omega

theorem ret_i64 {a b : Int} (h : a = b) : Ending.returned (.int .i64 a) = .returned (.int .i64 b) := by rw [h]

/-- The walk, the product by a name of its own. -/
theorem of_core (p a : Int) (n : Int) (hn : p * a = n) (w : World) (h1 : -100000000000000000 ≤ n) (h2 : n ≤ 100000000000000000) :
    Calls Yba.prog 8 #[.int .i64 p, .int .i64 a] w fun e w' => e = .returned (.int .i64 (ofZ n)) ∧ w' = w := by
  obtain ⟨b1, b2⟩ := tmod_bd n
  obtain ⟨d1, d2⟩ := tdiv_bd n h1 h2
  by_cases c : 1000000 ≤ 2 * n.tmod 1000000
  · have E : Hid (ofZ n = n.tdiv 1000000 + 1) := by unfold ofZ; rw [if_pos c]; exact rfl
    go_enter Yba.func8, Yba.ntmps8
    go_wp2
    go_ret
    exact ⟨ret_i64 E.out.symm, rfl⟩
  · have E : Hid (ofZ n = n.tdiv 1000000) := by unfold ofZ; rw [if_neg c]; exact Int.add_zero _
    go_enter Yba.func8, Yba.ntmps8
    go_wp2
    go_ret
    exact ⟨ret_i64 E.out.symm, rfl⟩

/-- '(p Percent).of(a)', where the product keeps within 10^17. -/
theorem of_any (p a : Int) (w : World) (h1 : -100000000000000000 ≤ p * a) (h2 : p * a ≤ 100000000000000000) :
    Calls Yba.prog 8 #[.int .i64 p, .int .i64 a] w fun e w' => e = .returned (.int .i64 (ofZ (p * a))) ∧ w' = w :=
  of_core p a (p * a) rfl w h1 h2

end Go.Proofs.Ybulkboty
