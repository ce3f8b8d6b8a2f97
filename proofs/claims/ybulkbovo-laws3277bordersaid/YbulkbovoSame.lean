/-
  zzs3277bsame, zzs3277bside. Of this seat's own.
-/
import Derived.Test.YbulkbovoReverse
namespace Go.Proofs.Ybulkbovo
open Go.RowKit

set_option maxRecDepth 100000 in
set_option maxHeartbeats 1000000 in
theorem same_zero (v : Value) (a : Option Addr) (c : Nat) (w : World) (hv : v = .slice none 0 0 ∨ ∃ b cap, v = .slice (some ⟨b, 0, none⟩) 0 cap) :
    Calls Yba.prog 8 #[v, .slice a 0 c] w fun r w' => r = .returned (.bool true) ∧ ∃ nq, w' = w.drewN nq := by
  rcases hv with rfl | ⟨b, cap, rfl⟩
  all_goals
    go_enter Yba.func8, Yba.ntmps8
    go_wp2
    go_loopg [5] 0 (fun _ x wr => x = .int .i64 0 ∧ wr = w)
    case atStart => exact ⟨rfl, rfl⟩
    case round =>
      obtain ⟨rfl, rfl⟩ := hrel
      go_wp2
      go_ret
      exact ⟨rfl, 0, rfl⟩

set_option maxRecDepth 100000 in
set_option maxHeartbeats 1000000 in
theorem same_pos (b cap : Nat) (a : Option Addr) (n c : Nat) (f : Nat → ByteArray) (w : World) (hn : n ≤ 1024) (h0 : 0 < n) (hN : NodeRow w b n f) (hA : ArgStr w a n f) :
    Calls Yba.prog 8 #[.slice (some ⟨b, 0, none⟩) n cap, .slice a n c] w fun r w' => r = .returned (.bool true) ∧ ∃ nq, w' = w.drewN nq := by
  obtain ⟨sb, so, rfl, _, h3⟩ := hA h0
  have HN : Hid (NodeRow w b n f) := hN
  have H3 : Hid (∀ j, j < n → w.cell? ⟨sb, so + j, none⟩ = some (.string (f j))) := h3
  clear hN h3 hA
  go_enter Yba.func8, Yba.ntmps8
  go_wp2
  go_loopg [5] n (fun k x wr => ∃ t nq : Nat, k = n - t ∧ t ≤ n ∧ x = .int .i64 (t : Int) ∧ wr = w.drewN nq)
  case atStart => exact ⟨0, 0, rfl, by omega, rfl, rfl⟩
  case round =>
    obtain ⟨t, nq, hgk, htn, rfl, hwr⟩ := hrel
    have HGK : Hid (gk = n - t) := hgk
    subst hwr
    by_cases hti : t < n
    · obtain ⟨c0, c1, c2⟩ := HN.out.cell hti
      have s0 := H3.out t hti
      clear hgk
      go_wp2_with fail
      go_quiet (fail)
      go_wp2
      go_roundg (n - (t + 1))
      case measure => have := HGK.out; omega
      case rel => exact ⟨t + 1, _, rfl, by omega, by go_num, rfl⟩
    · clear hgk
      go_wp2
      go_ret
      exact ⟨rfl, nq, rfl⟩

set_option maxRecDepth 100000 in
set_option maxHeartbeats 1000000 in
theorem side_zero (v : Value) (a : Option Addr) (c : Nat) (w : World) (hv : v = .slice none 0 0 ∨ ∃ b cap, v = .slice (some ⟨b, 0, none⟩) 0 cap) :
    Calls Yba.prog 7 #[v, .slice a 0 c] w fun r w' => r = .returned (.bool true) ∧ ∃ nq, w' = w.drewN nq := by
  rcases hv with rfl | ⟨b, cap, rfl⟩
  all_goals
    go_enter Yba.func7, Yba.ntmps7
    go_wp2
    go_loopg [6] 0 (fun _ x wr => x = .int .i64 0 ∧ wr = w)
    case atStart => exact ⟨rfl, rfl⟩
    case round =>
      obtain ⟨rfl, rfl⟩ := hrel
      go_wp2
      go_ret
      exact ⟨rfl, 0, rfl⟩

/-- A short side is asked farthest first. -/
def askF (n : Nat) (f : Nat → ByteArray) : Nat → ByteArray := fun i => if n < 8 then f (n - 1 - i) else f i

set_option maxRecDepth 100000 in
set_option maxHeartbeats 1000000 in
theorem side_pos (b cap : Nat) (a : Option Addr) (n c : Nat) (f : Nat → ByteArray) (w : World) (hn : n ≤ 1024) (h0 : 0 < n) (hN : NodeRow w b n (askF n f)) (hA : ArgStr w a n f) :
    Calls Yba.prog 7 #[.slice (some ⟨b, 0, none⟩) n cap, .slice a n c] w fun r w' => r = .returned (.bool true) ∧ ∃ nq, w' = w.drewN nq := by
  obtain ⟨sb, so, rfl, _, h3⟩ := hA h0
  have HN : Hid (NodeRow w b n (askF n f)) := hN
  have H3 : Hid (∀ j, j < n → w.cell? ⟨sb, so + j, none⟩ = some (.string (f j))) := h3
  clear hN h3 hA
  go_enter Yba.func7, Yba.ntmps7
  go_wp2
  go_loopg [6] n (fun k x wr => ∃ t nq : Nat, k = n - t ∧ t ≤ n ∧ x = .int .i64 (t : Int) ∧ wr = w.drewN nq)
  case atStart => exact ⟨0, 0, rfl, by omega, rfl, rfl⟩
  case round =>
    obtain ⟨t, nq, hgk, htn, rfl, hwr⟩ := hrel
    have HGK : Hid (gk = n - t) := hgk
    subst hwr
    by_cases hti : t < n
    · obtain ⟨c0, c1, c2⟩ := HN.out.cell hti
      by_cases h8 : n < 8
      · obtain ⟨j, hj⟩ : ∃ j : Nat, (n : Int) - 1 - t = (j : Int) := ⟨n - 1 - t, by omega⟩
        have hjn : j < n := by omega
        have s0 := H3.out j hjn
        have e : askF n f t = f j := by
          unfold askF
          rw [if_pos h8]
          congr 1
          omega
        rw [e] at c2
        clear hgk e
        go_wp2_with fail
        go_quiet (fail)
        go_wp2
        go_roundg (n - (t + 1))
        case measure => have := HGK.out; omega
        case rel => exact ⟨t + 1, _, rfl, by omega, by go_num, rfl⟩
      · have s0 := H3.out t hti
        have e : askF n f t = f t := by
          unfold askF
          rw [if_neg h8]
        rw [e] at c2
        clear hgk e
        go_wp2_with fail
        go_quiet (fail)
        go_wp2
        go_roundg (n - (t + 1))
        case measure => have := HGK.out; omega
        case rel => exact ⟨t + 1, _, rfl, by omega, by go_num, rfl⟩
    · clear hgk
      go_wp2
      go_ret
      exact ⟨rfl, nq, rfl⟩

theorem same_any {W : World} {N : Nat} {v : Value} {n : Nat} {f : Nat → ByteArray} (h : Nodes W N v n f) (a : Option Addr) (c : Nat) (hn : n ≤ 1024) (hA : ArgStr W a n f) :
    Calls Yba.prog 8 #[v, .slice a n c] W fun r w' => r = .returned (.bool true) ∧ ∃ nq, w' = W.drewN nq := by
  rcases h with ⟨rfl, rfl⟩ | ⟨b, cap, rfl, hR, _⟩
  · exact same_zero _ a c W (.inl rfl)
  · by_cases h0 : 0 < n
    · exact same_pos b cap a n c f W hn h0 hR hA
    · obtain rfl : n = 0 := by omega
      exact same_zero _ a c W (.inr ⟨b, cap, rfl⟩)

theorem side_any {W : World} {N : Nat} {v : Value} {n : Nat} {f : Nat → ByteArray} (h : Nodes W N v n (askF n f)) (a : Option Addr) (c : Nat) (hn : n ≤ 1024) (hA : ArgStr W a n f) :
    Calls Yba.prog 7 #[v, .slice a n c] W fun r w' => r = .returned (.bool true) ∧ ∃ nq, w' = W.drewN nq := by
  rcases h with ⟨rfl, rfl⟩ | ⟨b, cap, rfl, hR, _⟩
  · exact side_zero _ a c W (.inl rfl)
  · by_cases h0 : 0 < n
    · exact side_pos b cap a n c f W hn h0 hR hA
    · obtain rfl : n = 0 := by omega
      exact side_zero _ a c W (.inr ⟨b, cap, rfl⟩)

end Go.Proofs.Ybulkbovo
