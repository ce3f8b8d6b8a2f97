/-
  zzs3274bbuild. Of this seat's own.
-/
import Derived.Test.YbulkbotyBuildParts
import Derived.Deep.RegionWith
import Derived.Deep.DeepCutAuto
namespace Go.Proofs.Ybulkboty
open Go.RowKit Go.ChangeMaps

/-- WHAT zzs3274bbuild LEAVES: the bids, their levels, the places by time (m' of them, room for m). -/
def BuildOut (r : Ending) (w w' : World) (n m' m : Nat) (obj : Bool) (mf lf af tf : Nat → Int) : Prop :=
  ∃ tb, r = .returned (.tuple #[.slice (some ⟨w.heap.size, 0, none⟩) n n, .slice (some ⟨w.heap.size + 1, 0, none⟩) n n, .slice (some ⟨tb, 0, none⟩) m' m]) ∧
    Built w' w.heap.size (w.heap.size + 1) n n obj mf lf af ∧ w'.ownsRow 0 3 1 (.slice (some ⟨tb, 0, none⟩) m' m) m' ((List.range m').map fun q => .int .i64 (tf q % n)) ∧ w.heap.size + 2 ≤ tb ∧ Below w.heap.size w w'

set_option maxRecDepth 100000 in
set_option maxHeartbeats 4000000 in
/-- zzs3274bbuild where there are bids. -/
theorem build_pos (obj : Bool) (n rc m tc : Nat) (rb ro : Nat) (ta : Option Addr) (mf lf af : Nat → Int) (w : World) (hn : n ≤ 300) (hn0 : 0 < n) (hm : m ≤ 1024)
    (hmf : ∀ i, 0 ≤ mf i ∧ mf i ≤ 255) (hlf : ∀ i, 0 ≤ lf i ∧ lf i ≤ 4294967295) (haf : ∀ i, -2147483648 ≤ af i ∧ af i ≤ 2147483647)
    (hc : ∀ i, i < n → w.cell? ⟨rb, ro + i * 3, none⟩ = some (.int .u8 (mf i)) ∧ w.cell? ⟨rb, ro + i * 3 + 1, none⟩ = some (.int .u32 (lf i)) ∧ w.cell? ⟨rb, ro + i * 3 + 2, none⟩ = some (.int .i32 (af i)))
    (hlt : rb < w.heap.size) (tf : Nat → Int) (htf : ∀ i, 0 ≤ tf i ∧ tf i ≤ 255) (hT : 0 < m → ∃ tb tq, ta = some ⟨tb, tq, none⟩ ∧ tb < w.heap.size ∧ ∀ j, j < m → w.cell? ⟨tb, tq + j, none⟩ = some (.int .u8 (tf j))) :
    Calls Yba.prog 11 #[.bool obj, .slice (some ⟨rb, ro, none⟩) n rc, .slice ta m tc] w fun r w' => BuildOut r w w' n m m obj mf lf af tf := by
  have mk1 := fun w => run_make (P := Yba.prog) w 52 68 Yba.t68 _ Yba.underlying52 info68 rfl .i64 .i64 (n : Int) (n : Int) (by omega) (by omega) (by show (96 : Int) * _ ≤ _; omega) (by omega)
  have mk2 := fun w => run_make (P := Yba.prog) w 53 69 Yba.t69 _ Yba.underlying53 info69 rfl .i64 .i64 (n : Int) (n : Int) (by omega) (by omega) (by show (8 : Int) * _ ≤ _; omega) (by omega)
  simp only [Int.toNat_natCast] at mk1 mk2
  obtain ⟨A1, hA1⟩ : ∃ A1, madeCells (Value.agg #[.string ⟨#[]⟩, .int .u64 0, .int .i64 0, .pointer none, .string ⟨#[]⟩, .int .i64 0, .int .i64 0, .string ⟨#[]⟩, .int .i64 0]).cells (n * 9) = A1 := ⟨_, rfl⟩
  obtain ⟨A2, hA2⟩ : ∃ A2, madeCells (Value.int .i64 0).cells (n * 1) = A2 := ⟨_, rfl⟩
  have mk1' : ∀ w, (Instr.makeSlice 52 (.int .i64 (n : Int)) (.int .i64 (n : Int))).run Yba.prog w = .ok (.slice (some ⟨w.heap.size, 0, none⟩) n n) (w.alloc (.cells A1 68)) := fun w => by rw [← hA1]; exact mk1 w
  have mk2' : ∀ w, (Instr.makeSlice 53 (.int .i64 (n : Int)) (.int .i64 (n : Int))).run Yba.prog w = .ok (.slice (some ⟨w.heap.size, 0, none⟩) n n) (w.alloc (.cells A2 69)) := fun w => by rw [← hA2]; exact mk2 w
  have HC : Hid (∀ i, i < n → w.cell? ⟨rb, ro + i * 3, none⟩ = some (.int .u8 (mf i)) ∧ w.cell? ⟨rb, ro + i * 3 + 1, none⟩ = some (.int .u32 (lf i)) ∧ w.cell? ⟨rb, ro + i * 3 + 2, none⟩ = some (.int .i32 (af i))) := hc
  have HMF : Hid (∀ i, 0 ≤ mf i ∧ mf i ≤ 255) := hmf
  have HLF : Hid (∀ i, 0 ≤ lf i ∧ lf i ≤ 4294967295) := hlf
  have HAF : Hid (∀ i, -2147483648 ≤ af i ∧ af i ≤ 2147483647) := haf
  have HS1 : Hid (A1.size = n * 9) := by show _ = _; rw [← hA1]; simp [madeCells]
  have HS2 : Hid (A2.size = n) := by show _ = _; rw [← hA2]; simp [madeCells]
  have mk3 := fun w => run_make (P := Yba.prog) w 54 3 Yba.t3 _ Yba.underlying54 info3 rfl .i64 .i64 0 (m : Int) (by omega) (by omega) (by show (8 : Int) * _ ≤ _; omega) (by omega)
  simp only [Int.toNat_natCast] at mk3
  obtain ⟨A3, hA3⟩ : ∃ A3, madeCells (Value.int .i64 0).cells (m * 1) = A3 := ⟨_, rfl⟩
  have mk3' : ∀ w, (Instr.makeSlice 54 (.int .i64 0) (.int .i64 (m : Int))).run Yba.prog w = .ok (.slice (some ⟨w.heap.size, 0, none⟩) 0 m) (w.alloc (.cells A3 3)) := fun w => by rw [← hA3]; exact mk3 w
  have HS3 : Hid (A3.size = m * 1) := by show _ = _; rw [← hA3]; simp [madeCells]
  have HT : Hid (0 < m → ∃ tb tq, ta = some ⟨tb, tq, none⟩ ∧ tb < w.heap.size ∧ ∀ j, j < m → w.cell? ⟨tb, tq + j, none⟩ = some (.int .u8 (tf j))) := hT
  have HTF : Hid (∀ i, 0 ≤ tf i ∧ tf i ≤ 255) := htf
  clear mk1 mk2 mk3 hA1 hA2 hA3 hc hmf hlf haf hT htf
  go_enter Yba.func11, Yba.ntmps11
  go_wp2
  go_loopg [12] n (fun k i wr => ∃ t : Nat, t ≤ n ∧ k = n - t ∧ i = .int .i64 t ∧ Built wr w.heap.size (w.heap.size + 1) n t obj mf lf af ∧ Below w.heap.size w wr)
  case atStart =>
    refine ⟨0, Nat.zero_le _, rfl, rfl, ⟨⟨A1, ?_, HS1.out, fun i hi => absurd hi (by omega)⟩, ⟨A2, ?_, HS2.out, fun i hi => absurd hi (by omega)⟩⟩, ((Below.refl _ w).alloc (Nat.le_refl _) _).alloc (by simp) _⟩
    · exact (heap_alloc_lt _ _ (by simp)).trans (heap_alloc_at _ _)
    · have := heap_alloc_at (w.alloc (.cells A1 68)) (.cells A2 69)
      rwa [World.size_alloc] at this
  case round =>
    obtain ⟨t, htn, hgk, rfl, hBu, hBe⟩ := hrel
    have HBU : Hid _ := hBu
    have HBE : Hid (Below w.heap.size w wr) := hBe
    have HGK : Hid (gk = n - t) := hgk
    by_cases hti : t < n
    · obtain ⟨c0, c1, c2⟩ := HC.out t hti
      rw [← hBe.cell (p := ⟨rb, ro + t * 3, none⟩) hlt] at c0
      rw [← hBe.cell (p := ⟨rb, ro + t * 3 + 1, none⟩) hlt] at c1
      rw [← hBe.cell (p := ⟨rb, ro + t * 3 + 2, none⟩) hlt] at c2
      obtain ⟨x, hx⟩ : ∃ x, mf t = x := ⟨_, rfl⟩
      obtain ⟨y, hy⟩ : ∃ y, lf t = y := ⟨_, rfl⟩
      obtain ⟨z, hz⟩ : ∃ z, af t = z := ⟨_, rfl⟩
      have x0 := HMF.out t
      have y0 := HLF.out t
      have z0 := HAF.out t
      rw [hx] at c0 x0; rw [hy] at c1 y0; rw [hz] at c2 z0
      have HXYZ : Hid (mf t = x ∧ lf t = y ∧ af t = z) := ⟨hx, hy, hz⟩
      obtain ⟨x1, x2⟩ := x0
      obtain ⟨y1, y2⟩ := y0
      obtain ⟨z1, z2⟩ := z0
      have hcode := fun W => code_any x W x1 x2
      have HCODE : Hid (∀ W, Calls Yba.prog 10 #[.int .u8 x] W _) := hcode
      clear hBu hBe hgk hx hy hz hcode
      have hwz : IntKind.i64.wrap z = z := by rw [IntKind.wrap_i64]; omega
      go_upto_region 9 with fail
      go_cut [15] (fun v wx => v = .pointer (some ⟨wr.heap.size + 1, 0, none⟩) ∧ wx = ((wr.alloc (Obj.cells #[Value.int .u8 x, Value.int .u32 y, Value.int .i32 z] 75)).alloc (.cells #[.string (codeOf x), .int .u64 0, .int .i64 0, .pointer none, .string ⟨#[]⟩, .int .i64 0, .int .i64 0, .string ⟨#[]⟩, .int .i64 z] 68)).drew)
      case first =>
        go_region_with (go_at_call 10; refine (HCODE.out _).mono ?_; rintro r w' ⟨rfl, rfl⟩)
        all_goals
          go_wp2_with fail
          go_meet
          case rel => exact ⟨rfl, rfl⟩
      case rest =>
        obtain ⟨rfl, rfl⟩ := hcut
        clear hwz
        obtain ⟨⟨C, hC1, hC2, hC3⟩, ⟨D, hD1, hD2, hD3⟩⟩ := HBU.out
        have hCl := lt_of_heap hC1
        have hDl := lt_of_heap hD1
        have hth : ∀ vb, (((wr.alloc (Obj.cells #[Value.int .u8 x, Value.int .u32 y, Value.int .i32 z] 75)).alloc (.cells vb 68)).drew).there w.heap.size (t * 9) 9 := by
          intro vb j hj
          have hh : (((wr.alloc (Obj.cells #[Value.int .u8 x, Value.int .u32 y, Value.int .i32 z] 75)).alloc (.cells vb 68)).drew).heap[w.heap.size]? = some (.cells C 68 (0, 0)) :=
            (heap_alloc_lt _ _ (by simp; omega)).trans ((heap_alloc_lt _ _ hCl).trans hC1)
          refine ⟨?_, thawed_of hh _ _⟩
          rw [cell_of hh]
          simp
          omega
        have HC1 : Hid _ := hC1
        have HC2 : Hid _ := hC2
        have HC3 : Hid _ := hC3
        have HD1 : Hid _ := hD1
        have HD2 : Hid _ := hD2
        have HD3 : Hid _ := hD3
        have d0 : ∃ dv, D[t]? = some dv := ⟨D[t]'(by omega), by simp⟩
        obtain ⟨dv, hdv⟩ := d0
        clear hC1 hC2 hC3 hD1 hD2 hD3
        cases obj
        · go_upto_region 13 with fail
          go_cut [] (fun wx => wx = (((wr.alloc (Obj.cells #[Value.int .u8 x, Value.int .u32 y, Value.int .i32 z] 75)).alloc (.cells #[.string (codeOf x), .int .u64 0, .int .i64 0, .pointer none, .string ⟨#[]⟩, .int .i64 (y % 99999999999 + 1), .int .i64 (0), .string ⟨#[]⟩, .int .i64 z] 68)).drew).setCells w.heap.size (t * 9) [.string (codeOf x), .int .u64 0, .int .i64 0, .pointer none, .string ⟨#[]⟩, .int .i64 (y % 99999999999 + 1), .int .i64 (0), .string ⟨#[]⟩, .int .i64 z])
          case first =>
            go_wp2_with (refine wpList_store_mid rfl 68 (.tmp 53) (.tmp 52) rfl _ _ _ rfl rfl (by exact hth _) size68 (bid_one _ _ _ _) ?_)
            go_meet
            case rel => exact rfl
          case rest =>
            obtain ⟨⟨dv, hdc⟩, hdf, hN, hNb⟩ := HBU.out.mid HBE.out hti _ _ (W2 := wc) (by rw [hcut, HXYZ.out.1, HXYZ.out.2.1, HXYZ.out.2.2]; rfl)
            rw [HXYZ.out.2.1] at hN hNb
            have HN : Hid _ := hN
            have HNB : Hid _ := hNb
            clear hcut hth hN hNb hdv HC1 HC2 HC3 HD1 HD2 HD3 hCl hDl c0 c1 c2
            unfold lvOf at HN HNB
            go_wp2
            go_roundg (n - (t + 1))
            case measure => have := HGK.out; omega
            case rel => exact ⟨t + 1, by omega, rfl, by go_num, HN.out, HNB.out⟩
        · go_upto_region 13 with fail
          go_cut [] (fun wx => wx = (((wr.alloc (Obj.cells #[Value.int .u8 x, Value.int .u32 y, Value.int .i32 z] 75)).alloc (.cells #[.string (codeOf x), .int .u64 0, .int .i64 0, .pointer none, .string ⟨#[]⟩, .int .i64 (0), .int .i64 (y % 99999999999 + 1), .string ⟨#[]⟩, .int .i64 z] 68)).drew).setCells w.heap.size (t * 9) [.string (codeOf x), .int .u64 0, .int .i64 0, .pointer none, .string ⟨#[]⟩, .int .i64 (0), .int .i64 (y % 99999999999 + 1), .string ⟨#[]⟩, .int .i64 z])
          case first =>
            go_wp2_with (refine wpList_store_mid rfl 68 (.tmp 53) (.tmp 52) rfl _ _ _ rfl rfl (by exact hth _) size68 (bid_one _ _ _ _) ?_)
            go_meet
            case rel => exact rfl
          case rest =>
            obtain ⟨⟨dv, hdc⟩, hdf, hN, hNb⟩ := HBU.out.mid HBE.out hti _ _ (W2 := wc) (by rw [hcut, HXYZ.out.1, HXYZ.out.2.1, HXYZ.out.2.2]; rfl)
            rw [HXYZ.out.2.1] at hN hNb
            have HN : Hid _ := hN
            have HNB : Hid _ := hNb
            clear hcut hth hN hNb hdv HC1 HC2 HC3 HD1 HD2 HD3 hCl hDl c0 c1 c2
            unfold lvOf at HN HNB
            go_wp2
            go_roundg (n - (t + 1))
            case measure => have := HGK.out; omega
            case rel => exact ⟨t + 1, by omega, rfl, by go_num, HN.out, HNB.out⟩
    · have hte : t = n := by omega
      have HBN : Hid (Built wr w.heap.size (w.heap.size + 1) n n obj mf lf af) := by have := HBU.out; rw [hte] at this; exact this
      clear hBu hBe hgk hte
      have hwl : w.heap.size + 1 < wr.heap.size := by
        obtain ⟨_, ⟨D, hD, _⟩⟩ := HBU.out
        exact lt_of_heap hD
      obtain ⟨wv, hwv⟩ : ∃ wv, wv = wr := ⟨_, rfl⟩
      subst hwv
      go_wp2
      go_loopg [16, 17] m (fun k s i wx => ∃ j : Nat, j ≤ m ∧ k = m - j ∧ i = .int .i64 j ∧ s = .slice (some ⟨wv.heap.size, 0, none⟩) j m ∧ wx.ownsRow 0 3 1 (.slice (some ⟨wv.heap.size, 0, none⟩) j m) j ((List.range j).map fun q => .int .i64 (tf q % n)) ∧ Below wv.heap.size wv wx)
      case atStart =>
        refine ⟨0, Nat.zero_le _, rfl, rfl, rfl, ?_, (Below.refl _ wv).alloc (Nat.le_refl _) _⟩
        exact World.ownsRow_made wv A3 m (Nat.zero_le _) (by unfold maxLen; omega) HS3.out
      case round =>
        obtain ⟨j, hjm, hgk2, rfl, rfl, hown, hBx⟩ := hrel
        have HGK2 : Hid (gk = m - j) := hgk2
        have HBX : Hid _ := hBx
        by_cases hj : j < m
        · obtain ⟨tb, tq, hta, htl, htc⟩ := HT.out (by omega)
          have tc0 : wr.cell? ⟨tb, tq + j, none⟩ = some (.int .u8 (tf j)) := by
            rw [hBx.cell (p := ⟨tb, tq + j, none⟩) (by show tb < _; omega), HBE.out.cell (p := ⟨tb, tq + j, none⟩) htl]
            exact htc j hj
          obtain ⟨x, hx⟩ : ∃ x, tf j = x := ⟨_, rfl⟩
          have x0 := HTF.out j
          rw [hx] at tc0 x0
          obtain ⟨x1, x2⟩ := x0
          have HX : Hid (tf j = x) := hx
          clear hgk2 hBx htc hx
          subst hta
          go_wp2_with (at_builtin; refine wpList_append_fits _ rfl _ _ 54 rfl 0 3 Yba.t3 1 Yba.underlying54 info3 rfl wv.heap.size j m _ rfl (hown.alloc _) ⟨wr.heap.size, 0, none⟩ 1 1 [.int .i64 (x % n)] rfl rfl (cell_one_new _ _ _) (ints_oneCell .i64 [x % n]) (by omega) ?_)
          intro w1 hown1 hgrow1
          have HO : Hid (w1.ownsRow 0 3 1 (.slice (some ⟨wv.heap.size, 0, none⟩) (j + 1) m) (j + 1) ((List.range (j + 1)).map fun q => .int .i64 (tf q % n))) := by
            show World.ownsRow _ _ _ _ _ _ _
            rw [List.range_succ, List.map_append, List.map_singleton, HX.out]
            exact hown1
          have HBY : Hid (Below wv.heap.size wv w1) := ((HBX.out.alloc HBX.out.size _).grown hgrow1 (by have := HBX.out.size; simp; omega) (fun q hq => by cases hq; exact Nat.le_refl _))
          clear hown1 hgrow1 hown tc0
          go_wp2
          go_roundg (m - (j + 1))
          case measure => have := HGK2.out; omega
          case rel => exact ⟨j + 1, by omega, rfl, by go_num, rfl, HO.out, HBY.out⟩
        · have hje : j = m := by omega
          have HO : Hid (wr.ownsRow 0 3 1 (.slice (some ⟨wv.heap.size, 0, none⟩) m m) m ((List.range m).map fun q => .int .i64 (tf q % n))) := by
            rw [hje] at hown; exact hown
          have HJ : Hid (j = m) := hje
          clear hown hgk2 hBx hje
          go_wp2
          go_ret3
          refine ⟨wv.heap.size, by have hj := HJ.out; subst hj; rfl, HBN.out.kept (HBX.out.block _ (by omega)) (HBX.out.block _ hwl), HO.out, by omega, HBE.out.trans (HBX.out.mono (by omega))⟩

theorem made0 (z : Array Value) : madeCells z 0 = #[] := by
  apply Array.eq_empty_of_size_eq_zero
  simp [madeCells]

theorem build_zero (obj : Bool) (rc m tc : Nat) (ra ta : Option Addr) (mf lf af tf : Nat → Int) (w : World) (hm : m ≤ 1024) :
    Calls Yba.prog 11 #[.bool obj, .slice ra 0 rc, .slice ta m tc] w fun r w' => BuildOut r w w' 0 0 m obj mf lf af tf := by
  have mk1 : ∀ w, (Instr.makeSlice 52 (.int .i64 0) (.int .i64 0)).run Yba.prog w = .ok (.slice (some ⟨w.heap.size, 0, none⟩) 0 0) (w.alloc (.cells #[] 68)) := fun w => by
    have := run_make (P := Yba.prog) w 52 68 Yba.t68 _ Yba.underlying52 info68 rfl .i64 .i64 0 0 (by omega) (by omega) (by show (96 : Int) * _ ≤ _; omega) (by omega)
    simpa [made0] using this
  have mk2 : ∀ w, (Instr.makeSlice 53 (.int .i64 0) (.int .i64 0)).run Yba.prog w = .ok (.slice (some ⟨w.heap.size, 0, none⟩) 0 0) (w.alloc (.cells #[] 69)) := fun w => by
    have := run_make (P := Yba.prog) w 53 69 Yba.t69 _ Yba.underlying53 info69 rfl .i64 .i64 0 0 (by omega) (by omega) (by show (8 : Int) * _ ≤ _; omega) (by omega)
    simpa [made0] using this
  have mk3 := fun w => run_make (P := Yba.prog) w 54 3 Yba.t3 _ Yba.underlying54 info3 rfl .i64 .i64 0 (m : Int) (by omega) (by omega) (by show (8 : Int) * _ ≤ _; omega) (by omega)
  simp only [Int.toNat_natCast] at mk3
  obtain ⟨A3, hA3⟩ : ∃ A3, madeCells (Value.int .i64 0).cells (m * 1) = A3 := ⟨_, rfl⟩
  have mk3' : ∀ w, (Instr.makeSlice 54 (.int .i64 0) (.int .i64 (m : Int))).run Yba.prog w = .ok (.slice (some ⟨w.heap.size, 0, none⟩) 0 m) (w.alloc (.cells A3 3)) := fun w => by rw [← hA3]; exact mk3 w
  have HS3 : Hid (A3.size = m * 1) := by show _ = _; rw [← hA3]; simp [madeCells]
  clear mk3 hA3
  go_enter Yba.func11, Yba.ntmps11
  go_wp2
  go_loopg [12] 0 (fun k i wr => i = .int .i64 0 ∧ wr = (w.alloc (.cells #[] 68)).alloc (.cells #[] 69))
  case atStart => exact ⟨rfl, rfl⟩
  case round =>
    obtain ⟨rfl, rfl⟩ := hrel
    go_wp2
    go_ret3
    refine ⟨w.heap.size + 2, by simp, ⟨⟨#[], ?_, rfl, fun i hi => absurd hi (by omega)⟩, ⟨#[], ?_, rfl, fun i hi => absurd hi (by omega)⟩⟩, ?_, by omega, ?_⟩
    · exact (heap_alloc_lt _ _ (by simp; omega)).trans ((heap_alloc_lt _ _ (by simp)).trans (heap_alloc_at _ _))
    · refine (heap_alloc_lt _ _ (by simp)).trans ?_
      have := heap_alloc_at (w.alloc (.cells #[] 68)) (.cells #[] 69)
      rwa [World.size_alloc] at this
    · have := World.ownsRow_made (base := 0) (e := 3) (size := 1) ((w.alloc (.cells #[] 68)).alloc (.cells #[] 69)) A3 m (Nat.zero_le _) (by unfold maxLen; omega) HS3.out
      simpa using this
    · exact (((Below.refl _ w).alloc (Nat.le_refl _) _).alloc (by simp) _).alloc (by simp; omega) _
end Go.Proofs.Ybulkboty
