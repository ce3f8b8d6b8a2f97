/-
  (*State).AskOrder. Of this seat's own.
-/
import Derived.Test.YbulkbovoSame
namespace Go.Proofs.Ybulkbovo
open Go.RowKit

/-- The slice '.slice a n c' holds the nodes f. -/
def Nd (W : World) (N : Nat) (a : Option Addr) (n c : Nat) (f : Nat → ByteArray) : Prop :=
  (a = none ∧ n = 0 ∧ c = 0) ∨ ∃ b, a = some ⟨b, 0, none⟩ ∧ NodeRow W b n f ∧ N ≤ b
theorem Nd.nodes {W : World} {N : Nat} {a : Option Addr} {n c : Nat} {f : Nat → ByteArray} (h : Nd W N a n c f) : Nodes W N (.slice a n c) n f := by
  rcases h with ⟨rfl, rfl, rfl⟩ | ⟨b, rfl, h1, h2⟩
  · exact .inl ⟨rfl, rfl⟩
  · exact .inr ⟨b, c, rfl, h1, h2⟩
theorem Nd.kept {W W' : World} {N : Nat} {a : Option Addr} {n c : Nat} {f : Nat → ByteArray} (h : Nd W N a n c f) (hk : ∀ b, a = some ⟨b, 0, none⟩ → b < W.heap.size → W'.heap[b]? = W.heap[b]?) : Nd W' N a n c f := by
  rcases h with h | ⟨b, rfl, h1, h2⟩
  · exact .inl h
  · exact .inr ⟨b, rfl, h1.kept (hk b rfl h1.lt), h2⟩
theorem Nd.mono {W W' : World} {N : Nat} {a : Option Addr} {n c : Nat} {f : Nat → ByteArray} (h : Nd W N a n c f) (hb : Below W.heap.size W W') : Nd W' N a n c f := h.kept (fun b _ hl => hb.block b hl)
theorem Nd.low {W : World} {N M : Nat} {a : Option Addr} {n c : Nat} {f : Nat → ByteArray} (h : Nd W N a n c f) (hM : M ≤ N) : Nd W M a n c f := by
  rcases h with h | ⟨b, e, h1, h2⟩
  · exact .inl h
  · exact .inr ⟨b, e, h1, Nat.le_trans hM h2⟩
theorem Nd.congr {W : World} {N : Nat} {a : Option Addr} {n c : Nat} {f g : Nat → ByteArray} (h : Nd W N a n c f) (he : ∀ i, i < n → f i = g i) : Nd W N a n c g := by
  rcases h with h | ⟨b, e, h1, h2⟩
  · exact .inl h
  · exact .inr ⟨b, e, h1.congr he, h2⟩

theorem clone_any {W : World} {N : Nat} {a : Option Addr} {n c : Nat} {f : Nat → ByteArray} (h : Nd W N a n c f) (hn : n ≤ 1024) :
    Calls Yba.prog 9 #[.slice a n c] W fun r w' => ∃ a' c', r = .returned (.slice a' n c') ∧ Nd w' W.heap.size a' n c' f ∧ Below W.heap.size W w' := by
  rcases h with ⟨rfl, rfl, rfl⟩ | ⟨b, rfl, h1, h2⟩
  · refine (clone_nil W).mono ?_
    rintro r w' ⟨rfl, rfl⟩
    exact ⟨none, 0, rfl, .inl ⟨rfl, rfl, rfl⟩, Below.refl _ _⟩
  · refine (clone_some b n c f W hn h1).mono ?_
    rintro r w' ⟨b', cap, rfl, h3, h4, h5⟩
    exact ⟨_, cap, rfl, .inr ⟨b', rfl, h3, h4⟩, h5⟩

set_option maxRecDepth 100000 in
theorem reverse_zero (a : Option Addr) (c : Nat) (w : World) : Calls Yba.prog 10 #[.slice a 0 c] w fun r w' => r = .returned (.tuple #[]) ∧ w' = w := by
  go_enter Yba.func10, Yba.ntmps10
  go_wp2
  go_loopg [2, 3] 0 (fun _ x y wr => x = .int .i64 0 ∧ y = .int .i64 (-1) ∧ wr = w)
  case atStart => exact ⟨rfl, rfl, rfl⟩
  case round =>
    obtain ⟨rfl, rfl, rfl⟩ := hrel
    go_wp2
    go_end0
    exact ⟨rfl, rfl⟩

/-- w' is w but for the slice's block. -/
structure Touch (a : Option Addr) (w w' : World) : Prop where
  os : w'.os = w.os
  tape : w'.tape = w.tape
  output : w'.output = w.output
  size : w'.heap.size = w.heap.size
  block : ∀ k, a ≠ some ⟨k, 0, none⟩ → w'.heap[k]? = w.heap[k]?

theorem reverse_nd {W : World} {N : Nat} {a : Option Addr} {n c : Nat} {f : Nat → ByteArray} (h : Nd W N a n c f) (hn : n ≤ 1024) :
    Calls Yba.prog 10 #[.slice a n c] W fun r w' => r = .returned (.tuple #[]) ∧ Nd w' N a n c (fun i => f (n - 1 - i)) ∧ Touch a W w' := by
  rcases h with ⟨rfl, rfl, rfl⟩ | ⟨b, rfl, h1, h2⟩
  · refine (reverse_zero none 0 W).mono ?_
    rintro r w' ⟨rfl, rfl⟩
    exact ⟨rfl, .inl ⟨rfl, rfl, rfl⟩, ⟨rfl, rfl, rfl, rfl, fun _ _ => rfl⟩⟩
  · refine (reverse_any b n c f W hn h1).mono ?_
    rintro r w' ⟨rfl, h3, h4⟩
    exact ⟨rfl, .inr ⟨b, rfl, h3, h2⟩, ⟨h4.os, h4.tape, h4.output, h4.size, fun k hk => h4.block k (fun e => hk (by rw [e]))⟩⟩

theorem yi_field {ops : Array Oper} {S : World → Prop} {op : Oper} {a : Act} (hw : Region.wanted op (yielded ops a.tmps) = true) (q : Nat) (x : Operand) (ho : op.op = .fieldAddr 33 x q)
    {v v' : Value} (hx : a.eval x = v) (hr : ∀ W, (Instr.fieldAt 33 v q).run Yba.prog W = .ok v' W) : YieldsIf Yba.prog ops S op v' a :=
  .inl ⟨hw, fun W _ => by
    unfold execOp
    simp only [ho, hx, Sem.run_bind, Sem.run_pure, Result.andThen_ok, hr W]⟩

/-- The state: its block. -/
def StAt (sb : Nat) (a1 : Option Addr) (n1 c1 : Nat) (a2 : Option Addr) (n2 c2 : Nat) (W : World) : Prop :=
  W.heap[sb]? = some (.cells #[.int .u64 0, .int .u64 0, .string ⟨#[]⟩, .slice a1 n1 c1, .slice a2 n2 c2, .slice none 0 0] 33 (0, 0))
theorem StAt.mono {sb : Nat} {a1 : Option Addr} {n1 c1 : Nat} {a2 : Option Addr} {n2 c2 : Nat} {W W' : World} (h : StAt sb a1 n1 c1 a2 n2 c2 W) (hb : Below W.heap.size W W') : StAt sb a1 n1 c1 a2 n2 c2 W' := (hb.block sb (lt_of_heap h)).trans h

/-- The two sides, cloned. -/
structure Two (N : Nat) (w W : World) (ob : Nat) (a1 : Option Addr) (n1 c1 : Nat) (f1 : Nat → ByteArray) (a2 : Option Addr) (n2 c2 : Nat) (f2 : Nat → ByteArray) : Prop where
  row : W.heap[ob]? = some (.cells #[.slice a1 n1 c1, .slice a2 n2 c2] 24 (0, 0))
  one : Nd W N a1 n1 c1 f1
  two : Nd W N a2 n2 c2 f2
  ne : ∀ b, a1 = some ⟨b, 0, none⟩ → a2 ≠ some ⟨b, 0, none⟩
  below : Below N w W
  hob : N ≤ ob

theorem Nd.blk {W : World} {N : Nat} {a : Option Addr} {n c : Nat} {f : Nat → ByteArray} (h : Nd W N a n c f) {b : Nat} (e : a = some ⟨b, 0, none⟩) : N ≤ b ∧ ∃ cs, W.heap[b]? = some (.cells cs 30 (0, 0)) := by
  rcases h with ⟨h, _⟩ | ⟨b', h, ⟨cs, h1, _⟩, h2⟩
  · rw [h] at e; cases e
  · rw [h] at e
    cases e
    exact ⟨h2, cs, h1⟩

theorem Two.step1 {N : Nat} {w W W' : World} {ob : Nat} {a1 : Option Addr} {n1 c1 : Nat} {f1 g : Nat → ByteArray} {a2 : Option Addr} {n2 c2 : Nat} {f2 : Nat → ByteArray}
    (h : Two N w W ob a1 n1 c1 f1 a2 n2 c2 f2) (hT : Touch a1 W W') (hN : Nd W' N a1 n1 c1 g) : Two N w W' ob a1 n1 c1 g a2 n2 c2 f2 := by
  refine ⟨?_, hN, h.two.kept (fun b e _ => hT.block b (fun e2 => h.ne b e2 e)), h.ne, ?_, h.hob⟩
  · rw [hT.block ob ?_]
    · exact h.row
    · intro e
      obtain ⟨_, cs, h2⟩ := h.one.blk e
      rw [h.row] at h2
      simp at h2
  · refine ⟨hT.os.trans h.below.os, hT.tape.trans h.below.tape, hT.output.trans h.below.output, by rw [hT.size]; exact h.below.size, fun k hk => ?_⟩
    rw [hT.block k ?_]
    · exact h.below.block k hk
    · intro e
      have := (h.one.blk e).1
      omega

theorem Two.step2 {N : Nat} {w W W' : World} {ob : Nat} {a1 : Option Addr} {n1 c1 : Nat} {f1 g : Nat → ByteArray} {a2 : Option Addr} {n2 c2 : Nat} {f2 : Nat → ByteArray}
    (h : Two N w W ob a1 n1 c1 f1 a2 n2 c2 f2) (hT : Touch a2 W W') (hN : Nd W' N a2 n2 c2 g) : Two N w W' ob a1 n1 c1 f1 a2 n2 c2 g := by
  refine ⟨?_, h.one.kept (fun b e _ => hT.block b (fun e2 => h.ne b e e2)), hN, h.ne, ?_, h.hob⟩
  · rw [hT.block ob ?_]
    · exact h.row
    · intro e
      obtain ⟨_, cs, h2⟩ := h.two.blk e
      rw [h.row] at h2
      simp at h2
  · refine ⟨hT.os.trans h.below.os, hT.tape.trans h.below.tape, hT.output.trans h.below.output, by rw [hT.size]; exact h.below.size, fun k hk => ?_⟩
    rw [hT.block k ?_]
    · exact h.below.block k hk
    · intro e
      have := (h.two.blk e).1
      omega

/-- Side k, behind t rounds. -/
def gF (t k n : Nat) (f : Nat → ByteArray) : Nat → ByteArray := fun i => if k < t then askF n f i else f i

set_option maxRecDepth 100000 in
set_option maxHeartbeats 1000000 in
theorem ask_any (sb : Nat) (a1 : Option Addr) (n1 c1 : Nat) (f1 : Nat → ByteArray) (a2 : Option Addr) (n2 c2 : Nat) (f2 : Nat → ByteArray) (w : World) (hs : StAt sb a1 n1 c1 a2 n2 c2 w) (M : Nat) (h1 : Nd w M a1 n1 c1 f1) (h2 : Nd w M a2 n2 c2 f2) (hn1 : n1 ≤ 1024) (hn2 : n2 ≤ 1024) :
    Calls Yba.prog 6 #[.pointer (some ⟨sb, 0, none⟩)] w fun r w' => ∃ ob b1 d1 b2 d2, r = .returned (.slice (some ⟨ob, 0, none⟩) 2 2) ∧ Two w.heap.size w w' ob b1 n1 d1 (askF n1 f1) b2 n2 d2 (askF n2 f2) := by
  have HST : Hid (StAt sb a1 n1 c1 a2 n2 c2 w) := hs
  have HC3 : Hid (∀ W, StAt sb a1 n1 c1 a2 n2 c2 W → W.cell? ⟨sb, 3, none⟩ = some (.slice a1 n1 c1)) := fun W hW => by rw [cell_of hW]; rfl
  have HC4 : Hid (∀ W, StAt sb a1 n1 c1 a2 n2 c2 W → W.cell? ⟨sb, 4, none⟩ = some (.slice a2 n2 c2)) := fun W hW => by rw [cell_of hW]; rfl
  have HCL1 : Hid (∀ W, Below w.heap.size w W → Calls Yba.prog 9 _ W _) := fun W hW => clone_any (h1.mono hW) hn1
  have HCL2 : Hid (∀ W, Below w.heap.size w W → Calls Yba.prog 9 _ W _) := fun W hW => clone_any (h2.mono hW) hn2
  clear hs h1 h2
  go_enter Yba.func6, Yba.ntmps6
  go_upto_region 1 with fail
  go_cut [3] (fun v wx => ∃ ob b1 d1 b2 d2, v = .slice (some ⟨ob, 0, none⟩) 2 2 ∧ Two w.heap.size w wx ob b1 n1 d1 f1 b2 n2 d2 f2)
  case first =>
    refine wp_region_held_drew (S := StAt sb a1 n1 c1 a2 n2 c2) (by kernel_rfl) HST.out (fun hHeld => ?_)
    refine wpAnyH_take (i := 0) (v := .pointer (some ⟨sb, 0, none⟩)) rfl (by kernel_rfl) (by kernel_rfl) (by kernel_rfl) (fun _ _ _ h => h) (Or.inl ⟨by rfl, fun W hW => by rfl⟩) hHeld ?_
    simp only [List.getElem_toArray, List.getElem_cons_zero, Act.put, List.setIfInBounds_toArray, List.set_cons_zero, List.set_cons_succ]
    refine wpAnyH_take (i := 1) (v := .pointer (some ⟨sb, 0, none⟩)) rfl (by kernel_rfl) (by kernel_rfl) (by kernel_rfl) (fun _ _ _ h => h) (Or.inl ⟨by rfl, fun W hW => by rfl⟩) hHeld ?_
    simp only [List.getElem_toArray, List.getElem_cons_zero, List.getElem_cons_succ, Act.put, List.setIfInBounds_toArray, List.set_cons_zero, List.set_cons_succ]
    refine wpAnyH_take (i := 2) (v := .pointer (some ⟨sb, 3, none⟩)) rfl (by kernel_rfl) (by kernel_rfl) (by kernel_rfl) (fun _ _ _ h => h) (yi_field (by rfl) 1 (.tmp 7) rfl rfl (fun W => by go_simp)) hHeld ?_
    simp only [List.getElem_toArray, List.getElem_cons_zero, List.getElem_cons_succ, Act.put, List.setIfInBounds_toArray, List.set_cons_zero, List.set_cons_succ]
    refine wpAnyH_take (i := 3) (v := .slice a1 n1 c1) rfl (by kernel_rfl) (by kernel_rfl) (by kernel_rfl) (fun _ _ _ h => h) (yi_load (by rfl) 24 (.tmp 8) rfl rfl HC3.out Yba.underlying24 rfl) hHeld ?_
    simp only [List.getElem_toArray, List.getElem_cons_zero, List.getElem_cons_succ, Act.put, List.setIfInBounds_toArray, List.set_cons_zero, List.set_cons_succ]
    refine wpAnyH_take (i := 5) (v := .pointer (some ⟨sb, 0, none⟩)) rfl (by kernel_rfl) (by kernel_rfl) (by kernel_rfl) (fun _ _ _ h => h) (Or.inl ⟨by rfl, fun W hW => by rfl⟩) hHeld ?_
    simp only [List.getElem_toArray, List.getElem_cons_zero, List.getElem_cons_succ, Act.put, List.setIfInBounds_toArray, List.set_cons_zero, List.set_cons_succ]
    refine wpAnyH_take (i := 6) (v := .pointer (some ⟨sb, 0, none⟩)) rfl (by kernel_rfl) (by kernel_rfl) (by kernel_rfl) (fun _ _ _ h => h) (Or.inl ⟨by rfl, fun W hW => by rfl⟩) hHeld ?_
    simp only [List.getElem_toArray, List.getElem_cons_zero, List.getElem_cons_succ, Act.put, List.setIfInBounds_toArray, List.set_cons_zero, List.set_cons_succ]
    refine wpAnyH_take (i := 7) (v := .pointer (some ⟨sb, 4, none⟩)) rfl (by kernel_rfl) (by kernel_rfl) (by kernel_rfl) (fun _ _ _ h => h) (yi_field (by rfl) 2 (.tmp 12) rfl rfl (fun W => by go_simp)) hHeld ?_
    simp only [List.getElem_toArray, List.getElem_cons_zero, List.getElem_cons_succ, Act.put, List.setIfInBounds_toArray, List.set_cons_zero, List.set_cons_succ]
    refine wpAnyH_take (i := 8) (v := .slice a2 n2 c2) rfl (by kernel_rfl) (by kernel_rfl) (by kernel_rfl) (fun _ _ _ h => h) (yi_load (by rfl) 24 (.tmp 13) rfl rfl HC4.out Yba.underlying24 rfl) hHeld ?_
    simp only [List.getElem_toArray, List.getElem_cons_zero, List.getElem_cons_succ, Act.put, List.setIfInBounds_toArray, List.set_cons_zero, List.set_cons_succ]
    refine wpAnyH_ready (rs := [4]) (by kernel_rfl) (by simp) ?_
    refine AllReadyH.cons rfl (fun K hK => ?_) AllReadyH.nil
    go_simp
    go_wp2_with (go_at_call 9; refine (HCL1.out _ (Below.refl _ w).drew).mono ?_; rintro r w1 ⟨b1, d1, rfl, hN1, hB1⟩)
    have hB1' : Below w.heap.size w w1 := (Below.refl _ w).drew.trans hB1
    refine hK.out _ _ (StAt.mono hHeld hB1) (fun hH1 => ?_)
    clear hK K
    refine wpAnyH_ready (rs := [9]) (by kernel_rfl) (by simp) ?_
    refine AllReadyH.cons rfl (fun K hK => ?_) AllReadyH.nil
    go_simp
    go_wp2_with (go_at_call 9; refine (HCL2.out _ hB1').mono ?_; rintro r w2 ⟨b2, d2, rfl, hN2, hB2⟩)
    refine hK.out _ _ (StAt.mono hH1 hB2) (fun hH2 => ?_)
    clear hK K
    refine wpAnyH_ready (rs := [10]) (by kernel_rfl) (by simp) ?_
    refine AllReadyH.cons rfl (fun K hK => ?_) AllReadyH.nil
    go_simp
    have hB2' : Below w.heap.size w w2 := hB1'.trans (hB2.mono hB1'.size)
    have hs1 : w.heap.size ≤ w1.heap.size := hB1'.size
    have hs2 : w.heap.size ≤ w2.heap.size := hB2'.size
    have HT : Hid (Two w.heap.size w (w2.alloc (.cells #[.slice b1 n1 d1, .slice b2 n2 d2] 24)) w2.heap.size b1 n1 d1 f1 b2 n2 d2 f2) := by
      refine ⟨heap_alloc_at _ _, ((hN1.low (Nat.le_refl _)).mono hB2).kept (fun b _ hl => heap_alloc_lt _ _ hl), (hN2.low hs1).kept (fun b _ hl => heap_alloc_lt _ _ hl), ?_, hB2'.alloc hs2 _, hs2⟩
      intro b e1 e2
      rcases hN1 with ⟨h, _⟩ | ⟨b', h, h1, _⟩
      · rw [h] at e1; cases e1
      · rw [h] at e1
        cases e1
        rcases hN2 with ⟨h', _⟩ | ⟨b'', h', _, h3⟩
        · rw [h'] at e2; cases e2
        · rw [h'] at e2
          cases e2
          have := h1.lt
          omega
    have hS3 : StAt sb a1 n1 c1 a2 n2 c2 (w2.alloc (.cells #[.slice b1 n1 d1, .slice b2 n2 d2] 24)) := (heap_alloc_lt _ _ (lt_of_heap hH2)).trans hH2
    refine hK.out _ _ hS3 (fun hH3 => ?_)
    clear hK K
    refine wpAnyH_ready (rs := [11]) (by kernel_rfl) (by simp) ?_
    refine AllReadyH.cons rfl (fun K hK => ?_) AllReadyH.nil
    go_simp
    refine hK.out _ _ hS3 (fun hH3 => ?_)
    clear hK K
    refine wpAnyH_done (by kernel_rfl) ?_ _
    clear hN1 hN2 hB1 hB2 hS3 hH1 hH2 hH3 hHeld hB1' hB2'
    go_wp2_with fail
    go_meet
    case rel => exact ⟨_, b1, d1, b2, d2, rfl, HT.out⟩
  case rest =>
    obtain ⟨ob, b1, d1, b2, d2, rfl, hT⟩ := hcut
    have HT : Hid (Two w.heap.size w wc ob b1 n1 d1 (gF 0 0 n1 f1) b2 n2 d2 (gF 0 1 n2 f2)) := hT
    clear hT
    go_wp2
    go_loopg [19] 2 (fun k x wr => ∃ t : Nat, t ≤ 2 ∧ k = 2 - t ∧ x = .int .i64 (t : Int) ∧ Two w.heap.size w wr ob b1 n1 d1 (gF t 0 n1 f1) b2 n2 d2 (gF t 1 n2 f2))
    case atStart => exact ⟨0, by omega, rfl, rfl, HT.out⟩
    case round =>
      clear HT
      obtain ⟨t, ht2, hgk, rfl, hT⟩ := hrel
      have HGK : Hid (gk = 2 - t) := hgk
      have HT : Hid _ := hT
      have q0 : wr.cell? ⟨ob, 0, none⟩ = some (.slice b1 n1 d1) := by rw [cell_of hT.row]; rfl
      have q1 : wr.cell? ⟨ob, 1, none⟩ = some (.slice b2 n2 d2) := by rw [cell_of hT.row]; rfl
      have h012 : t = 0 ∨ t = 1 ∨ t = 2 := by omega
      rcases h012 with rfl | rfl | rfl
      · by_cases h8 : n1 < 8
        · have HREV : Hid (Calls Yba.prog 10 _ wr _) := reverse_nd hT.one hn1
          clear hT hgk
          go_wp2_with (go_at_call 10; refine HREV.out.mono ?_; rintro r w3 ⟨rfl, hN3, hT3⟩)
          go_roundg 1
          case measure => have := HGK.out; omega
          case rel =>
            refine ⟨1, by omega, rfl, by go_num, HT.out.step1 hT3 (hN3.congr fun i _ => ?_)⟩
            simp [gF, askF, h8]
        · have HT' : Hid (Two w.heap.size w wr ob b1 n1 d1 (gF 1 0 n1 f1) b2 n2 d2 (gF 1 1 n2 f2)) := by
            have e : gF 1 0 n1 f1 = gF 0 0 n1 f1 := by funext i; simp [gF, askF, h8]
            rw [e]; exact hT
          clear hT hgk
          go_wp2
          go_roundg 1
          case measure => have := HGK.out; omega
          case rel => exact ⟨1, by omega, rfl, by go_num, HT'.out⟩
      · by_cases h8 : n2 < 8
        · have HREV : Hid (Calls Yba.prog 10 _ wr _) := reverse_nd hT.two hn2
          clear hT hgk
          go_wp2_with (go_at_call 10; refine HREV.out.mono ?_; rintro r w3 ⟨rfl, hN3, hT3⟩)
          go_roundg 0
          case measure => have := HGK.out; omega
          case rel =>
            refine ⟨2, by omega, rfl, by go_num, HT.out.step2 hT3 (hN3.congr fun i _ => ?_)⟩
            simp [gF, askF, h8]
        · have HT' : Hid (Two w.heap.size w wr ob b1 n1 d1 (gF 2 0 n1 f1) b2 n2 d2 (gF 2 1 n2 f2)) := by
            have e : gF 2 1 n2 f2 = gF 1 1 n2 f2 := by funext i; simp [gF, askF, h8]
            rw [e]; exact hT
          clear hT hgk
          go_wp2
          go_roundg 0
          case measure => have := HGK.out; omega
          case rel => exact ⟨2, by omega, rfl, by go_num, HT'.out⟩
      · clear hT hgk
        go_wp2
        go_ret
        exact ⟨ob, b1, d1, b2, d2, rfl, HT.out⟩

end Go.Proofs.Ybulkbovo
