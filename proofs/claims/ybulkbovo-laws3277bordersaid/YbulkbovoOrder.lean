/-
  LawS3277BOrder: the walk. Of this seat's own.
-/
import Derived.Test.YbulkbovoAsk
namespace Go.Proofs.Ybulkbovo
open Go.RowKit

theorem nodes_any (a : Option Addr) (n c : Nat) (f : Nat → ByteArray) (w : World) (hn : n ≤ 1024) (hA : ArgStr w a n f) (h0 : a = none → n = 0 ∧ c = 0) :
    Calls Yba.prog 5 #[.slice a n c] w fun r w' => ∃ a' c', r = .returned (.slice a' n c') ∧ Nd w' w.heap.size a' n c' f ∧ Below w.heap.size w w' := by
  cases a with
  | none =>
    obtain ⟨rfl, rfl⟩ := h0 rfl
    refine (nodes_nil w).mono ?_
    rintro r w' ⟨rfl, rfl⟩
    exact ⟨none, 0, rfl, .inl ⟨rfl, rfl, rfl⟩, Below.refl _ _⟩
  | some ad =>
    refine (nodes_some ad n c f w hn hA).mono ?_
    rintro r w' ⟨rfl, h1, h2⟩
    exact ⟨_, n, rfl, .inr ⟨w.heap.size, rfl, h1, Nat.le_refl _⟩, h2⟩

set_option maxRecDepth 100000 in
set_option maxHeartbeats 1000000 in
theorem order_main (a1 : Option Addr) (n1 c1 : Nat) (f1 : Nat → ByteArray) (a2 : Option Addr) (n2 c2 : Nat) (f2 : Nat → ByteArray) (w : World) (hn1 : n1 ≤ 1024) (hn2 : n2 ≤ 1024)
    (hA1 : ArgStr w a1 n1 f1) (hA2 : ArgStr w a2 n2 f2) (z1 : a1 = none → n1 = 0 ∧ c1 = 0) (z2 : a2 = none → n2 = 0 ∧ c2 = 0) :
    Calls Yba.prog 3 #[.slice a1 n1 c1, .slice a2 n2 c2] w fun r w' => r = .returned (.bool true) ∧ Below w.heap.size w w' := by
  have HND1 : Hid (Calls Yba.prog 5 #[.slice a1 n1 c1] w _) := nodes_any a1 n1 c1 f1 w hn1 hA1 z1
  have HND2 : Hid (∀ W, Below w.heap.size w W → Calls Yba.prog 5 #[.slice a2 n2 c2] W _) := fun W hW => nodes_any a2 n2 c2 f2 W hn2 (hA2.mono (Nat.le_refl _) hW) z2
  have HA1 : Hid (ArgStr w a1 n1 f1) := hA1
  have HA2 : Hid (ArgStr w a2 n2 f2) := hA2
  clear hA1 hA2 z1 z2
  go_enter Yba.func3, Yba.ntmps3
  go_upto_region 4 with (go_at_call 5; first | (refine (HND2.out _ hB1).mono ?_; rintro r w2 ⟨b2, d2, rfl, hN2, hB2⟩) | (refine HND1.out.mono ?_; rintro r w1 ⟨b1, d1, rfl, hN1, hB1⟩))
  have hB2' : Below w.heap.size w w2 := hB1.trans (hB2.mono hB1.size)
  obtain ⟨sb, hsb⟩ : ∃ sb, w2.heap.size = sb := ⟨_, rfl⟩
  have hal : Below w2.heap.size w2 (w2.alloc (.cells #[.int .u64 0, .int .u64 0, .string ⟨#[]⟩, .slice b1 n1 d1, .slice b2 n2 d2, .slice none 0 0] 33)) := (Below.refl _ w2).alloc (Nat.le_refl _) _
  have hM1 := (hN1.mono hB2).mono hal
  have hM2 := (hN2.low (hB1.size)).mono hal
  have hSt : StAt w2.heap.size b1 n1 d1 b2 n2 d2 (w2.alloc (.cells #[.int .u64 0, .int .u64 0, .string ⟨#[]⟩, .slice b1 n1 d1, .slice b2 n2 d2, .slice none 0 0] 33)) := heap_alloc_at _ _
  have hB3 := hB2'.trans (hal.mono hB2'.size)
  obtain ⟨W3, hW3⟩ : ∃ W3, w2.alloc (.cells #[.int .u64 0, .int .u64 0, .string ⟨#[]⟩, .slice b1 n1 d1, .slice b2 n2 d2, .slice none 0 0] 33) = W3 := ⟨_, rfl⟩
  rw [hW3] at hM1 hM2 hSt hB3 ⊢
  rw [hsb] at hSt ⊢
  have HASK : Hid (Calls Yba.prog 6 _ W3 _) := ask_any sb b1 n1 d1 f1 b2 n2 d2 f2 W3 hSt w.heap.size hM1 hM2 hn1 hn2
  have HM1 : Hid (Nd W3 w.heap.size b1 n1 d1 f1) := hM1
  have HM2 : Hid (Nd W3 w.heap.size b2 n2 d2 f2) := hM2
  have HST : Hid _ := hSt
  have HB3 : Hid _ := hB3
  clear hM1 hM2 hSt hB3 hal hB1 hB2 hB2' hN1 hN2 hW3 hsb HND1 HND2
  go_upto_region 7 with (go_at_call 6; refine HASK.out.mono ?_; rintro r w4 ⟨ob, e1, g1, e2, g2, rfl, hT⟩)
  have hB4 : Below w.heap.size w w4 := HB3.out.trans (hT.below.mono HB3.out.size)
  have q0 : w4.cell? ⟨ob, 0, none⟩ = some (.slice e1 n1 g1) := by rw [cell_of hT.row]; rfl
  have q1 : w4.cell? ⟨ob, 1, none⟩ = some (.slice e2 n2 g2) := by rw [cell_of hT.row]; rfl
  have hSt4 := StAt.mono HST.out hT.below
  have q3 : w4.cell? ⟨sb, 3, none⟩ = some (.slice b1 n1 d1) := by rw [cell_of hSt4]; rfl
  have q4 : w4.cell? ⟨sb, 4, none⟩ = some (.slice b2 n2 d2) := by rw [cell_of hSt4]; rfl
  have hA1 := HA1.out.mono (Nat.le_refl _) hB4
  have hA2 := HA2.out.mono (Nat.le_refl _) hB4
  have HS1 : Hid (Calls Yba.prog 7 #[.slice e1 n1 g1, .slice a1 n1 c1] w4 _) := side_any hT.one.nodes a1 c1 hn1 hA1
  have HS2 : Hid (∀ k, Calls Yba.prog 7 #[.slice e2 n2 g2, .slice a2 n2 c2] (w4.drewN k) _) := fun k => side_any (W := w4.drewN k) (Nd.nodes (W := w4.drewN k) hT.two) a2 c2 hn2 hA2
  have HS3 : Hid (∀ k, Calls Yba.prog 8 #[.slice b1 n1 d1, .slice a1 n1 c1] (w4.drewN k) _) := fun k => same_any (W := w4.drewN k) (Nd.nodes (W := w4.drewN k) (Nd.mono (W' := w4) HM1.out hT.below)) a1 c1 hn1 hA1
  have HS4 : Hid (∀ k, Calls Yba.prog 8 #[.slice b2 n2 d2, .slice a2 n2 c2] (w4.drewN k) _) := fun k => same_any (W := w4.drewN k) (Nd.nodes (W := w4.drewN k) (Nd.mono (W' := w4) HM2.out hT.below)) a2 c2 hn2 hA2
  have HB4 : Hid (Below w.heap.size w w4) := hB4
  clear hB4 hSt4 hA1 hA2 hT HASK HM1 HM2 HST HB3 HA1 HA2
  go_wp2_with (first
    | (go_at_call 7; first
        | (refine (HS2.out nq1).mono ?_; rintro r w' ⟨rfl, nq2, rfl⟩)
        | (refine HS1.out.mono ?_; rintro r w' ⟨rfl, nq1, rfl⟩))
    | (go_at_call 8; first
        | (refine (HS4.out (nq1 + nq2 + nq3)).mono ?_; rintro r w' ⟨rfl, nq4, rfl⟩)
        | (refine (HS3.out (nq1 + nq2)).mono ?_; rintro r w' ⟨rfl, nq3, rfl⟩)))
  go_ret
  exact ⟨rfl, HB4.out.trans ⟨rfl, rfl, rfl, Nat.le_refl _, fun _ _ => rfl⟩⟩
end Go.Proofs.Ybulkbovo
