/-
  LawS3281BFreesAll: the walk. Of this seat's own.
-/
import Derived.Test.YbulkboxsFree
import Derived.Lib.SliceRun
namespace Go.Proofs.Ybulkboxs
open Go.RowKit

theorem bit_all : ∀ r : Fin 65, ∀ b : Fin 64, bits BinOp.and IntKind.u64 (((2 ^ r.val - 1 : Nat) : Int) / 2 ^ b.val) 1 = if b.val < r.val then 1 else 0 := by decide +kernel
theorem bit_one {n j b : Nat} {x : Int} (hx : ((2 ^ wbits n j - 1 : Nat) : Int) = x) (hb : b < 64) (h : j * 64 + b < n) : bits BinOp.and IntKind.u64 (x / 2 ^ b) 1 = 1 := by
  have := bit_all ⟨wbits n j, by unfold wbits; omega⟩ ⟨b, hb⟩
  simp only [hx] at this
  rw [this, if_pos (by unfold wbits; omega)]
theorem bit_zero {n j b : Nat} {x : Int} (hx : ((2 ^ wbits n j - 1 : Nat) : Int) = x) (hb : b < 64) (h : ¬ j * 64 + b < n) : bits BinOp.and IntKind.u64 (x / 2 ^ b) 1 = 0 := by
  have := bit_all ⟨wbits n j, by unfold wbits; omega⟩ ⟨b, hb⟩
  simp only [hx] at this
  rw [this, if_neg (by unfold wbits; omega)]

theorem neq44 (w : World) : (binOp .neq 44 (.slice none 0 0) (.slice none 0 0)).run Yba.prog w = .ok (.bool false) w := by
  simp only [binOp]
  simp [Op.equal, Op.maxDepth, Go.Lib.run_equalIn_slice_nil w 9999 44 67 none 0 0 0 0 Yba.underlying44]

theorem addW_len (ws : List Int) (i B : Nat) (h : ws.length ≤ B) (hi : i / 64 < B) : (addW ws i).length ≤ B := by
  unfold addW padW
  rw [List.length_set, List.length_append, List.length_replicate]
  omega

set_option maxRecDepth 100000 in
set_option maxHeartbeats 4000000 in
theorem law_main (n : Nat) (head off seq ret : Int) (w : World) (hn : n ≤ 3000) (_hh0 : 0 ≤ head) (_hh1 : head ≤ 4294967295) (_ho0 : -9223372036854775808 ≤ off) (_ho1 : off ≤ 9223372036854775807) (_hs0 : 0 ≤ seq) (_hs1 : seq ≤ 18446744073709551615) (hr0 : 0 ≤ ret) (hr1 : ret ≤ 255) :
    Calls Yba.prog 3 #[.agg #[.int .u16 (n : Int), .int .u32 head, .int .i64 off, .int .u64 seq, .int .u8 ret]] w fun r w' => r = .returned (.bool true) ∧ Below w.heap.size w w' := by
  obtain ⟨w0, hw0⟩ : ∃ w0, w.alloc (.cells #[.int .u16 (n : Int), .int .u32 head, .int .i64 off, .int .u64 seq, .int .u8 ret] 26) = w0 := ⟨_, rfl⟩
  have HI : Hid (w0.heap[w.heap.size]? = some (.cells #[.int .u16 (n : Int), .int .u32 head, .int .i64 off, .int .u64 seq, .int .u8 ret] 26 (0, 0)) ∧ w0.heap.size = w.heap.size + 1 ∧ Below w.heap.size w w0) := by
    rw [← hw0]
    exact ⟨heap_alloc_at w _, by simp, (Below.refl _ w).alloc (Nat.le_refl _) _⟩
  have HOPEN : Hid (Calls Yba.prog 4 _ w0 _) := open_any n hn w0
  go_enter Yba.func3, Yba.ntmps3
  go_upto_region 1 with fail
  clear hw0
  have i0 : w0.cell? ⟨w.heap.size, 0, none⟩ = some (.int .u16 (n : Int)) := by rw [cell_of HI.out.1]; rfl
  go_upto_region 5 with (go_at_call 4; refine HOPEN.out.mono ?_; rintro r w1 ⟨ub, bb, C, np, m, rfl, hS, hnp1, hnp2, hT⟩)
  have HS1 : Hid (Sp w0.heap.size w0 w1 ub bb n C (fun _ => 0) [] 0 0 np m 0) := hS
  have HT1 : Hid (Tail (newC bb n) C) := hT
  have HNP : Hid (n ≤ np * 512 ∧ np = (n + 511) / 512) := ⟨hnp1, hnp2⟩
  clear hS hT hnp1 hnp2 HOPEN i0
  obtain ⟨N, hN⟩ : ∃ N, w0.heap.size = N := ⟨_, rfl⟩
  rw [hN] at HS1
  have HN : Hid (w0.heap.size = N ∧ w.heap.size < N) := ⟨hN, by have := HI.out.2.1; omega⟩
  clear hN
  go_wp2
  go_loopg [5] n (fun k i wr => ∃ (t : Nat) (C' : Array Value) (h' : Nat → Int) (ws : List Int) (nn low : Int) (m' : Nat → Int), t ≤ n ∧ k = n - t ∧ i = .int .i64 (t : Int) ∧ Sp N w0 wr ub bb n C' h' ws nn low np m' 0 ∧ ws.length ≤ 50 ∧ 0 ≤ nn ∧ nn ≤ t ∧ Tail (newC bb n) C')
  case atStart => exact ⟨0, C, _, [], 0, 0, m, Nat.zero_le _, rfl, rfl, HS1.out, by simp, by omega, by omega, HT1.out⟩
  case round =>
    clear HS1 HT1
    obtain ⟨t, C', h', ws, nn, low, m', htn, hgk, rfl, hS, hws, hn0, hn1, hT⟩ := hrel
    have HGK : Hid (gk = n - t) := hgk
    have HS : Hid (Sp N w0 wr ub bb n C' h' ws nn low np m' 0) := hS
    have HW : Hid (ws.length ≤ 50 ∧ 0 ≤ nn ∧ nn ≤ t ∧ Tail (newC bb n) C') := ⟨hws, hn0, hn1, hT⟩
    have b0 : wr.cell? ⟨ub, 0, none⟩ = some (.slice (some ⟨bb, 0, none⟩) n n) := by rw [cell_of hS.fs.cell]; exact hS.b0
    clear hgk hws hn0 hn1 hT
    by_cases hti : t < n
    · obtain ⟨r1, r2⟩ := hS.row.cell hti
      have HS2 : Hid (Sp N w0 (wr.setCell ⟨bb, t, none⟩ (.int .i64 ((t : Int) + 1))) ub bb n C' (updI h' t ((t : Int) + 1)) ws nn low np m' 0) := hS.hold hti _
      have HSET : Hid (Calls Yba.prog 5 _ _ _) := HS2.out.set t (by have := HNP.out.1; omega) (by omega) ((t : Int) + 2)
      clear hS
      by_cases h3 : t % 3 = 0
      · have h3' : (t : Int) % 3 = 0 := by omega
        clear h3
        go_wp2_with (first
          | (go_at_call 5; refine HSET.out.mono ?_; rintro r w3 ⟨rfl, hS3⟩; have HADD : Hid (Calls Yba.prog 6 _ w3 _) := hS3.add t (by omega) (by have := HW.out.1; omega) HW.out.2.1 (by have := HW.out.2.2.1; omega); clear hS3)
          | (go_at_call 6; refine HADD.out.mono ?_; rintro r w4 ⟨rfl, C4, hR4, hS4⟩; have HS4 : Hid _ := And.intro hR4 hS4; clear hR4 hS4))
        go_roundg (n - (t + 1))
        case measure => have := HGK.out; omega
        case rel => exact ⟨t + 1, C4, _, _, _, _, _, by omega, rfl, by go_num, HS4.out.2, addW_len _ _ _ HW.out.1 (by omega), by have := HW.out.2.1; omega, by have := HW.out.2.2.1; omega, fun k h1 h2 => (HS4.out.1 k (by omega)).trans (HW.out.2.2.2 k h1 h2)⟩
      · have h3' : ¬ ((t : Int) % 3 = 0) := by omega
        clear h3
        go_wp2_with (go_at_call 5; refine HSET.out.mono ?_; rintro r w3 ⟨rfl, hS3⟩; have HS3 : Hid _ := hS3; clear hS3)
        go_roundg (n - (t + 1))
        case measure => have := HGK.out; omega
        case rel => exact ⟨t + 1, C', _, ws, nn, low, _, by omega, rfl, by go_num, HS3.out, HW.out.1, HW.out.2.1, by have := HW.out.2.2.1; omega, HW.out.2.2.2⟩
    · have h1 := hS.add (n + 70) (by omega) (by have := HW.out.1; omega) HW.out.2.1 (by have := HW.out.2.2.1; omega)
      rw [show ((n + 70 : Nat) : Int) = (n : Int) + 70 by omega] at h1
      have HADD : Hid (Calls Yba.prog 6 #[.pointer (some ⟨ub, 1, none⟩), .int .i64 ((n : Int) + 70)] wr _) := h1
      clear hS b0 h1
      go_upto_region 13 with (go_at_call 6; refine HADD.out.mono ?_; rintro r w4 ⟨rfl, C4, hR4, hS4⟩)
      have HS4 : Hid (Sp N w0 w4 ub bb n C4 h' _ _ _ np m' 0) := hS4
      have HT4 : Hid (C4[8]? = some (.int .u32 4294967295)) := by
        show _ = _
        rw [hR4 8 (by omega), HW.out.2.2.2 8 (by omega) (by omega)]
        rfl
      have icell : ∀ o, w4.cell? ⟨w.heap.size, o, none⟩ = w0.cell? ⟨w.heap.size, o, none⟩ := fun o => hS4.below.cell (p := ⟨w.heap.size, o, none⟩) HN.out.2
      have i1 : w4.cell? ⟨w.heap.size, 1, none⟩ = some (.int .u32 head) := by rw [icell, cell_of HI.out.1]; rfl
      have i2 : w4.cell? ⟨w.heap.size, 2, none⟩ = some (.int .i64 off) := by rw [icell, cell_of HI.out.1]; rfl
      have i3 : w4.cell? ⟨w.heap.size, 3, none⟩ = some (.int .u64 seq) := by rw [icell, cell_of HI.out.1]; rfl
      have i4 : w4.cell? ⟨w.heap.size, 4, none⟩ = some (.int .u8 ret) := by rw [icell, cell_of HI.out.1]; rfl
      have hne : w.heap.size ≠ ub := by have h1 := HN.out.2; have h2 := hS4.hub; omega
      obtain ⟨⟨u5, d5⟩, e5, _⟩ := hS4.field (k := 5) (by omega) (.int .u32 0)
      obtain ⟨⟨u6, d6⟩, e6, _⟩ := hS4.field (k := 6) (by omega) (.int .u32 0)
      obtain ⟨⟨u7, d7⟩, e7, _⟩ := hS4.field (k := 7) (by omega) (.int .u32 0)
      obtain ⟨kk, hkk⟩ : ∃ kk : Nat, ret % 8 + 1 = (kk : Int) := ⟨(ret % 8 + 1).toNat, by omega⟩
      have hk9 : kk ≤ 8 := by omega
      clear hR4 hS4 icell
      go_wp2
      have HS7 : Hid _ := ((((HS4.out.field (k := 5) (by omega) (.int .u32 (bits BinOp.or IntKind.u32 head 1))).2.2).field (k := 6) (by omega) (.int .i64 off)).2.2.field (k := 7) (by omega) (.int .u64 seq)).2.2
      have HC7 : Hid ((((C4.setIfInBounds 5 (.int .u32 (bits BinOp.or IntKind.u32 head 1))).setIfInBounds 6 (.int .i64 off)).setIfInBounds 7 (.int .u64 seq))[6]? = some (.int .i64 off) ∧ (((C4.setIfInBounds 5 (.int .u32 (bits BinOp.or IntKind.u32 head 1))).setIfInBounds 6 (.int .i64 off)).setIfInBounds 7 (.int .u64 seq))[7]? = some (.int .u64 seq) ∧
          (((C4.setIfInBounds 5 (.int .u32 (bits BinOp.or IntKind.u32 head 1))).setIfInBounds 6 (.int .i64 off)).setIfInBounds 7 (.int .u64 seq))[8]? = some (.int .u32 4294967295)) := by
        have hC := HS4.out.fs.size
        refine ⟨?_, ?_, ?_⟩
        · rw [Array.getElem?_setIfInBounds, if_neg (by omega), Array.getElem?_setIfInBounds, if_pos rfl, if_pos (by simp; omega)]
        · rw [Array.getElem?_setIfInBounds, if_pos rfl, if_pos (by simp; omega)]
        · rw [Array.getElem?_setIfInBounds, if_neg (by omega), Array.getElem?_setIfInBounds, if_neg (by omega), Array.getElem?_setIfInBounds, if_neg (by omega)]
          exact HT4.out
      obtain ⟨W7, hW7⟩ : ∃ W7, ((w4.setCell ⟨ub, 5, none⟩ (.int .u32 (bits BinOp.or IntKind.u32 head 1))).setCell ⟨ub, 6, none⟩ (.int .i64 off)).setCell ⟨ub, 7, none⟩ (.int .u64 seq) = W7 := ⟨_, rfl⟩
      obtain ⟨C7, hC7⟩ : ∃ C7, ((C4.setIfInBounds 5 (.int .u32 (bits BinOp.or IntKind.u32 head 1))).setIfInBounds 6 (.int .i64 off)).setIfInBounds 7 (.int .u64 seq) = C7 := ⟨_, rfl⟩
      obtain ⟨ws2, hws2⟩ : ∃ ws2, addW ws (n + 70) = ws2 := ⟨_, rfl⟩
      obtain ⟨lo2, hlo2⟩ : ∃ lo2, min low ((n : Int) + 70) = lo2 := ⟨_, rfl⟩
      rw [hW7, hC7, hws2, hlo2] at HS7
      rw [hC7] at HC7
      rw [hW7]
      clear hW7 hC7 hws2 hlo2 HS4 HT4 HS HW HGK HADD d5 d6 d7 e5 e6 e7 i1 i2 i3 i4 hkk
      go_loopg [7] kk (fun k i wr => ∃ (t : Nat) (C' : Array Value), t ≤ kk ∧ k = kk - t ∧ i = .int .i64 (t : Int) ∧ Sp N w0 wr ub bb n C' h' ws2 (nn + 1) lo2 np m' t ∧ C'[6]? = some (.int .i64 off) ∧ C'[7]? = some (.int .u64 seq) ∧ C'[8]? = some (.int .u32 4294967295))
      case atStart => exact ⟨0, C7, Nat.zero_le _, rfl, rfl, HS7.out, HC7.out⟩
      case round =>
        clear HS7 HC7
        obtain ⟨t2, C8, ht2, hgk2, rfl, hS8, hC8⟩ := hrel
        have HGK2 : Hid (gk = kk - t2) := hgk2
        have HS8 : Hid (Sp N w0 wr ub bb n C8 h' ws2 (nn + 1) lo2 np m' t2) := hS8
        have HC8 : Hid (C8[6]? = some (.int .i64 off) ∧ C8[7]? = some (.int .u64 seq) ∧ C8[8]? = some (.int .u32 4294967295)) := hC8
        clear hgk2 hC8
        by_cases htk : t2 < kk
        · have HRET : Hid (Calls Yba.prog 7 _ wr _) := hS8.retire (by omega) (t2 : Int)
          clear hS8
          go_wp2_with (go_at_call 7; refine HRET.out.mono ?_; rintro r w5 ⟨rfl, rv', hS5⟩; have HS5 : Hid _ := hS5; clear hS5)
          go_roundg (kk - (t2 + 1))
          case measure => have := HGK2.out; omega
          case rel =>
            have g : ∀ q, q ≠ 9 → (C8.setIfInBounds 9 rv')[q]? = C8[q]? := fun q hq => by rw [Array.getElem?_setIfInBounds, if_neg (fun e => hq e.symm)]
            exact ⟨t2 + 1, _, by omega, rfl, by go_num, HS5.out, (g 6 (by omega)).trans HC8.out.1, (g 7 (by omega)).trans HC8.out.2.1, (g 8 (by omega)).trans HC8.out.2.2⟩
        · have m8 : wr.cell? ⟨ub, 8, none⟩ = some (.int .u32 4294967295) := by rw [cell_of hS8.fs.cell]; exact HC8.out.2.2
          have HFREE : Hid (Calls Yba.prog 8 _ wr _) := free_any hS8 hn HNP.out.1
          clear hS8
          go_upto_region 23 with (go_at_call 8; refine HFREE.out.mono ?_; rintro r w9 ⟨rfl, C9, hF9⟩)
          have HF9 : Hid (Freed N w0 w9 ub bb n C9 C8 np) := hF9
          obtain ⟨h9, m9, hS9, hh9, hm9⟩ := hF9.sp
          have HS9 : Hid (Sp N w0 w9 ub bb n C9 h9 (fullW n) n 0 np m9 0 ∧ (∀ i, i < n → h9 i = 0) ∧ ∀ i, i < n → m9 i = 0) := ⟨hS9, hh9, hm9⟩
          have cc := cell_of hS9.fs.cell
          have k0 : w9.cell? ⟨ub, 0, none⟩ = some (.slice (some ⟨bb, 0, none⟩) n n) := by rw [cc]; exact hS9.b0
          have k2 : w9.cell? ⟨ub, 2, none⟩ = some (.int .i64 (n : Int)) := by rw [cc]; exact hS9.fs.cn
          have k3 : w9.cell? ⟨ub, 3, none⟩ = some (.int .i64 0) := by rw [cc]; exact hS9.fs.cl
          have k5 : w9.cell? ⟨ub, 5, none⟩ = some (.int .u32 0) := by rw [cc]; exact hF9.head
          have k6 : w9.cell? ⟨ub, 6, none⟩ = some (.int .i64 off) := by rw [cc, hF9.tail 6 (by omega) (by omega)]; exact HC8.out.1
          have k7 : w9.cell? ⟨ub, 7, none⟩ = some (.int .u64 seq) := by rw [cc, hF9.tail 7 (by omega) (by omega)]; exact HC8.out.2.1
          have k8 : w9.cell? ⟨ub, 8, none⟩ = some (.int .u32 4294967295) := by rw [cc, hF9.tail 8 (by omega) (by omega)]; exact HC8.out.2.2
          have k9 : w9.cell? ⟨ub, 9, none⟩ = some (.slice none 0 0) := by rw [cc]; exact hF9.ret
          obtain ⟨wv, hwv, hown⟩ := hS9.fs.own
          obtain ⟨wa, wc, hwf⟩ := own_form hown
          rw [fullW_len] at hown hwf
          subst hwf
          have HOWN : Hid (w9.ownsRow N 24 1 (.slice wa ((n + 63) / 64) wc) ((n + 63) / 64) (wds (fullW n))) := hown
          have k1 : w9.cell? ⟨ub, 1, none⟩ = some (.slice wa ((n + 63) / 64) wc) := by rw [cc]; exact hwv
          have icell : ∀ o, w9.cell? ⟨w.heap.size, o, none⟩ = w0.cell? ⟨w.heap.size, o, none⟩ := fun o => hS9.below.cell (p := ⟨w.heap.size, o, none⟩) HN.out.2
          have i2 : w9.cell? ⟨w.heap.size, 2, none⟩ = some (.int .i64 off) := by rw [icell, cell_of HI.out.1]; rfl
          have i3 : w9.cell? ⟨w.heap.size, 3, none⟩ = some (.int .u64 seq) := by rw [icell, cell_of HI.out.1]; rfl
          have HBE : Hid (Below w.heap.size w w9) := HI.out.2.2.trans (hS9.below.mono (by have := HN.out.2; omega))
          have hnq := neq44
          obtain ⟨nw, hnw⟩ : ∃ nw, (n + 63) / 64 = nw := ⟨_, rfl⟩
          have HNW : Hid ((n + 63) / 64 = nw) := hnw
          rw [hnw] at k1 HOWN
          have hnwi : ((n : Int) + 63) / 64 = (nw : Int) := by omega
          clear hF9 hS9 hh9 hm9 cc hwv hown icell m8 HFREE HS8 HC8 HGK2 hnw hne
          go_quiet (fail)
          obtain ⟨wz, hwz⟩ : ∃ wz, w9.drewN nq = wz := ⟨_, rfl⟩
          have HWZ : Hid (wz.heap = w9.heap ∧ Below w.heap.size w wz) := by rw [← hwz]; exact ⟨rfl, HBE.out.trans ⟨rfl, rfl, rfl, Nat.le_refl _, fun _ _ => rfl⟩⟩
          have z0 : wz.cell? ⟨ub, 0, none⟩ = some (.slice (some ⟨bb, 0, none⟩) n n) := by rw [← hwz]; exact k0
          have z1 : wz.cell? ⟨ub, 1, none⟩ = some (.slice wa nw wc) := by rw [← hwz]; exact k1
          have z2 : wz.cell? ⟨ub, 2, none⟩ = some (.int .i64 (n : Int)) := by rw [← hwz]; exact k2
          have z3 : wz.cell? ⟨ub, 3, none⟩ = some (.int .i64 0) := by rw [← hwz]; exact k3
          rw [hwz]
          clear hwz k0 k1 k2 k3 k5 k6 k7 k8 k9 i2 i3 hnq
          go_wp2
          go_loopg [9] nw (fun k i wx => ∃ j : Nat, j ≤ nw ∧ k = nw - j ∧ i = .int .i64 (j : Int) ∧ wx = wz)
          case atStart => exact ⟨0, Nat.zero_le _, rfl, rfl, rfl⟩
          case round =>
            obtain ⟨j, hjn, hgk3, rfl, hwx⟩ := hrel
            obtain rfl : wz = wr := hwx.symm
            have HGK3 : Hid (gk = nw - j) := hgk3
            clear hgk3 hwx
            by_cases hj : j < nw
            · obtain ⟨g, hg⟩ : ∃ g, wa = some ⟨g, 0, none⟩ := by
                rcases HOWN.out.2 with ⟨_, h0⟩ | ⟨g, cap, cur, e, _⟩
                · omega
                · simp only [Value.slice.injEq] at e
                  exact ⟨g, e.1⟩
              subst hg
              have v0 : wz.cell? ⟨g, j, none⟩ = some (.int .u64 ((2 ^ wbits n j - 1 : Nat) : Int)) := by
                have h1 : wz.cell? ⟨g, j, none⟩ = w9.cell? ⟨g, j, none⟩ := by simp [World.cell?, HWZ.out.1]
                rw [h1, HOWN.out.cellAt j (by omega)]
                unfold wds
                rw [List.getElem?_map, fullW_get n j (by rw [HNW.out]; exact hj)]
                rfl
              obtain ⟨x, hx⟩ : ∃ x, ((2 ^ wbits n j - 1 : Nat) : Int) = x := ⟨_, rfl⟩
              have HX : Hid (((2 ^ wbits n j - 1 : Nat) : Int) = x) := hx
              rw [hx] at v0
              clear hx
              go_wp2
              go_loopg [11] 64 (fun k i wx => ∃ b : Nat, b ≤ 64 ∧ k = 64 - b ∧ i = .int .i64 (b : Int) ∧ wx = wz)
              case atStart => exact ⟨0, by omega, rfl, rfl, rfl⟩
              case round =>
                obtain ⟨b, hb, hgk4, rfl, hwx⟩ := hrel
                obtain rfl : wz = wr := hwx.symm
                have HGK4 : Hid (gk = 64 - b) := hgk4
                clear hgk4 hwx
                by_cases hb6 : b < 64
                · by_cases hp : j * 64 + b < n
                  · have hbt := bit_one HX.out hb6 hp
                    have hp' : decide ((j : Int) * 64 + b < n) = true := by simp; omega
                    clear hp
                    go_wp2
                    go_roundg (64 - (b + 1))
                    case measure => have := HGK4.out; omega
                    case rel => exact ⟨b + 1, by omega, rfl, by go_num, rfl⟩
                  · have hbt := bit_zero HX.out hb6 hp
                    have hp' : decide ((j : Int) * 64 + b < n) = false := by simp; omega
                    clear hp
                    go_wp2
                    go_roundg (64 - (b + 1))
                    case measure => have := HGK4.out; omega
                    case rel => exact ⟨b + 1, by omega, rfl, by go_num, rfl⟩
                · go_wp2
                  go_roundg (nw - (j + 1))
                  case measure => have := HGK3.out; omega
                  case rel => exact ⟨j + 1, by omega, rfl, by go_num, rfl⟩
            · clear z2 z3
              go_wp2
              go_loopg [14] n (fun k i wx => ∃ q : Nat, q ≤ n ∧ k = n - q ∧ i = .int .i64 (q : Int) ∧ wx = wz)
              case atStart => exact ⟨0, by omega, rfl, rfl, rfl⟩
              case round =>
                obtain ⟨q, hq, hgk5, rfl, hwx⟩ := hrel
                obtain rfl : wz = wr := hwx.symm
                have HGK5 : Hid (gk = n - q) := hgk5
                clear hgk5 hwx
                by_cases hqn : q < n
                · have r0 : wz.cell? ⟨bb, q, none⟩ = some (.int .i64 0) := by
                    have h1 : wz.cell? ⟨bb, q, none⟩ = w9.cell? ⟨bb, q, none⟩ := by simp [World.cell?, HWZ.out.1]
                    rw [h1, (HS9.out.1.row.cell hqn).1, HS9.out.2.1 q hqn]
                  go_wp2
                  go_roundg (n - (q + 1))
                  case measure => have := HGK5.out; omega
                  case rel => exact ⟨q + 1, by omega, rfl, by go_num, rfl⟩
                · by_cases h0 : 0 < n
                  · obtain ⟨d, pg, e4, hM⟩ := HS9.out.1.mks
                    have hnp := HNP.out
                    rcases hM.dir with ⟨h00, _⟩ | ⟨db, gb, cap, rfl, g1, g2⟩
                    · omega
                    have HM : Hid (Mk N w9 (.pointer (some ⟨db, 0, none⟩)) np pg m9) := hM
                    have zh : ∀ (p : Addr), wz.cell? p = w9.cell? p := fun p => by simp [World.cell?, HWZ.out.1]
                    have zd : wz.cell? ⟨ub, 4, none⟩ = some (.pointer (some ⟨db, 0, none⟩)) := by rw [zh, cell_of HS9.out.1.fs.cell]; exact e4
                    have z5 : wz.cell? ⟨db, 0, none⟩ = some (.slice (some ⟨gb, 0, none⟩) np cap) := by rw [zh, cell_of g1]; rfl
                    have HLD : Hid (Calls Yba.prog 9 _ wz _) := loadP_some ub db _ wz zd (by rw [HWZ.out.1]; exact g1)
                    have HG2 : Hid (w9.ownsRow N 56 1 (.slice (some ⟨gb, 0, none⟩) np cap) np (ptrs pg np)) := g2
                    have HZH : Hid (∀ (p : Addr), wz.cell? p = w9.cell? p) := zh
                    have hnpi : ((n : Int) + 511) / 512 = (np : Int) := by omega
                    have hnp6 : np ≤ 100 := by omega
                    clear hM e4 g1 g2 zh hnp z0 z1 zd
                    go_wp2_with (go_at_call 9; refine HLD.out.mono ?_; rintro r w' ⟨rfl, hw'⟩; obtain rfl : wz = w' := hw'.symm)
                    go_loopg [17] n (fun k i wx => ∃ y : Nat, y ≤ n ∧ k = n - y ∧ i = .int .i64 (y : Int) ∧ wx = wz)
                    case atStart => exact ⟨0, by omega, rfl, rfl, rfl⟩
                    case round =>
                      obtain ⟨y, hy, hgk6, rfl, hwx⟩ := hrel
                      obtain rfl : wz = wr := hwx.symm
                      have HGK6 : Hid (gk = n - y) := hgk6
                      clear hgk6 hwx z5 hnpi
                      by_cases hyn : y < n
                      · obtain ⟨p, hp⟩ : ∃ p : Nat, y / 512 = p := ⟨_, rfl⟩
                        obtain ⟨jj, hjj⟩ : ∃ jj : Nat, y % 512 = jj := ⟨_, rfl⟩
                        have hpn : p < np := by have := HNP.out.1; omega
                        have hj5 : jj < 512 := by omega
                        have hq1 : (y : Int) / 512 = (p : Int) := by omega
                        have hq2 : (y : Int) % 512 = (jj : Int) := by omega
                        have s1 : wz.cell? ⟨gb, p, none⟩ = some (.pointer (some ⟨pg p, 0, none⟩)) := by
                          rw [HZH.out, HG2.out.cellAt p (by omega)]
                          simp [ptrs, hpn]
                        have HLU : Hid (Calls Yba.prog 10 _ wz _) := loadU (pg p) jj 0 wz (by
                          obtain ⟨_, c, a1, _, a3⟩ := HM.out.page p hpn
                          rw [HZH.out, cell_of a1, a3 jj hj5, show p * 512 + jj = y by omega, HS9.out.2.2 y hyn])
                        clear hp hjj
                        go_wp2_with (go_at_call 10; refine HLU.out.mono ?_; rintro r w' ⟨rfl, hw'⟩; obtain rfl : wz = w' := hw'.symm)
                        go_roundg (n - (y + 1))
                        case measure => have := HGK6.out; omega
                        case rel => exact ⟨y + 1, by omega, rfl, by go_num, rfl⟩
                      · go_wp2
                        go_ret
                        exact ⟨rfl, HWZ.out.2⟩
                  · go_wp2
                    go_ret
                    exact ⟨rfl, HWZ.out.2⟩
end Go.Proofs.Ybulkboxs
