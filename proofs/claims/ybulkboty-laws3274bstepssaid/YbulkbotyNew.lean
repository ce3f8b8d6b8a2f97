/-
  NewEntryChecks. Of this seat's own.
-/
import Derived.Test.YbulkbotyNewParts
import Derived.Deep.RegionHeld
namespace Go.Proofs.Ybulkboty
open Go.RowKit Go.ChangeMaps

def AnnAt (N : Nat) (A : Array Value) (W : World) : Prop := W.heap[N]? = some (.cells A 45 (0, 0))
theorem AnnAt.alloc {N : Nat} {A : Array Value} {W : World} (h : AnnAt N A W) (o : Obj) : AnnAt N A (W.alloc o) := (heap_alloc_lt W o (lt_of_heap h)).trans h
theorem AnnAt.allocd {N : Nat} {A : Array Value} {W : World} (h : AnnAt N A W.drew) (o : Obj) : AnnAt N A (W.alloc o).drew := (heap_alloc_lt W o (lt_of_heap (w := W) h)).trans h
theorem size45 : (Yba.prog.info? 45).map (·.size) = some 16 := by kernel_rfl
theorem yieldsIf_ann {ops : Array Oper} {N : Nat} {A : Array Value} {op : Oper} {a : Act} (hw : Region.wanted op (yielded ops a.tmps) = true) (x : Operand) (ho : op.op = .load 45 x)
    (hx : a.eval x = .pointer (some ⟨N, 0, none⟩)) (hs : A.size = 16) : YieldsIf Yba.prog ops (AnnAt N A) op (.agg A) a := by
  have h := yieldsIf_load_mid (P := Yba.prog) (S := AnnAt N A) hw 45 x ho N 0 hx A.toList _ (fun W hW j v hv => by rw [cell_of hW, Nat.zero_add]; simpa using hv) Yba.underlying45 rfl (by rw [size45]; simp [hs])
  simpa using h

theorem load45 {N : Nat} {A : Array Value} {W : World} (h : AnnAt N A W) (hs : A.size = 16) : (Instr.loadAt 45 (.pointer (some ⟨N, 0, none⟩))).run Yba.prog W = .ok (.agg A) W := by
  refine run_loadAt_mid W N 0 45 A.toList _ (fun j v hv => ?_) Yba.underlying45 rfl (by rw [size45]; simp [hs])
  rw [cell_of h, Nat.zero_add]
  simpa using hv

set_option maxRecDepth 100000 in
set_option maxHeartbeats 4000000 in
/-- NewEntryChecks. 'hspan', 'hlim': what tickSpan and classLimit give at this announcement. 'hsyn': the syndicate, where there is one. -/
theorem new_any (a : Ann) (syn : Option Nat) (km : Nat) (cl : List (ByteArray × ByteArray)) (lim : ByteArray → Int) (ld : Bool) (sp : Int) (sd : Bool) (w : World)
    (hspan : ∀ W', Below w.heap.size w W' → Calls Yba.prog 17 #[.pointer a.ms, .int .i64 a.tick] W' fun r w' => r = .returned (.tuple #[.int .i64 sp, .bool sd]) ∧ ∃ nq, w' = W'.drewN nq)
    (hlim : ∀ W', Below w.heap.size w W' → ∀ k, Calls Yba.prog 18 #[.map a.mc, .string k, .int .i64 a.comp] W' fun r w' => r = .returned (.tuple #[.int .i64 (lim k), .bool ld]) ∧ w' = W')
    (hsyn : ∀ sb, syn = some sb → w.heap[sb]? = some (.cells #[.map (some km)] 51 (0, 0)) ∧ w.heap[km]? = some (clsObj cl) ∧ (cl.map (·.1)).Nodup) (hcl : syn = none → cl = []) :
    Calls Yba.prog 13 #[.agg a.cells, .pointer (syn.map fun sb => ⟨sb, 0, none⟩)] w fun r w' => ∃ cb mm tab blk ow, r = .returned (.pointer (some ⟨cb, 0, none⟩)) ∧
      Rep w.heap.size w' cb (a.cfg (syn.map fun sb => ⟨sb, 0, none⟩) sp sd mm) tab blk ow (S0 cl fun k => M.init (lim k) ld) ∧ Below w.heap.size w w' := by
  obtain ⟨b, comp, rt, pt, bmin, bmax, ms, mc⟩ := a
  obtain ⟨ob, hob⟩ : ∃ ob, objOf b = ob := ⟨_, rfl⟩
  have hmm := @run_makeMap Yba.prog
  have htk := fun w => tick_any b comp rt pt bmin bmax ms mc w
  obtain ⟨tk, htk0⟩ : ∃ tk, (if b then pt else rt) = tk := ⟨_, rfl⟩
  simp only [Ann.tick, htk0] at htk hspan
  have HB : Hid ((ob.toList == [112, 114, 105, 99, 101]) = b) := by
    show _ = _
    rw [← hob]
    cases b
    · simp [objOf, oRate, ByteArray.toList_eq]
    · simp [objOf, oPrice]
  have HCF : Hid (∀ syn sp sd mm, (Ann.cfg ⟨b, comp, rt, pt, bmin, bmax, ms, mc⟩ syn sp sd mm).cells = #[Value.string ⟨#[88]⟩, Value.string ⟨#[]⟩, Value.string ⟨#[]⟩, Value.string ob, Value.int .i64 comp, Value.int .i64 0, Value.int .i64 rt, Value.int .i64 pt, Value.pointer none, Value.pointer none, Value.int .i64 bmin, Value.int .i64 bmax, Value.pointer ms, Value.map mc, Value.map none, Value.pointer none,
      Value.pointer syn, Value.int .i64 tk, Value.bool (b && decide (0 < tk)), Value.int .i64 sp, Value.bool sd, Value.map (some mm)]) := by
    intro syn sp sd mm
    rw [← hob, ← htk0]
    rfl
  simp only [Ann.cells]
  rw [hob] at htk ⊢
  unfold annCells at *
  obtain ⟨vX, evX⟩ : ∃ v, Value.string ⟨#[88]⟩ = v := ⟨_, rfl⟩
  obtain ⟨vE, evE⟩ : ∃ v, Value.string ⟨#[]⟩ = v := ⟨_, rfl⟩
  obtain ⟨vO, evO⟩ : ∃ v, Value.string ob = v := ⟨_, rfl⟩
  obtain ⟨vC, evC⟩ : ∃ v, Value.int .i64 comp = v := ⟨_, rfl⟩
  obtain ⟨vZ, evZ⟩ : ∃ v, Value.int .i64 0 = v := ⟨_, rfl⟩
  obtain ⟨vR, evR⟩ : ∃ v, Value.int .i64 rt = v := ⟨_, rfl⟩
  obtain ⟨vP, evP⟩ : ∃ v, Value.int .i64 pt = v := ⟨_, rfl⟩
  obtain ⟨vN, evN⟩ : ∃ v, Value.pointer none = v := ⟨_, rfl⟩
  obtain ⟨vL, evL⟩ : ∃ v, Value.int .i64 bmin = v := ⟨_, rfl⟩
  obtain ⟨vH, evH⟩ : ∃ v, Value.int .i64 bmax = v := ⟨_, rfl⟩
  obtain ⟨vM, evM⟩ : ∃ v, Value.pointer ms = v := ⟨_, rfl⟩
  obtain ⟨vK, evK⟩ : ∃ v, Value.map mc = v := ⟨_, rfl⟩
  obtain ⟨vQ, evQ⟩ : ∃ v, Value.map none = v := ⟨_, rfl⟩
  simp only [evX, evE, evO, evC, evZ, evR, evP, evN, evL, evH, evM, evK, evQ] at htk ⊢
  have HvX : Hid _ := evX
  have HvE : Hid _ := evE
  have HvO : Hid _ := evO
  have HvC : Hid _ := evC
  have HvZ : Hid _ := evZ
  have HvR : Hid _ := evR
  have HvP : Hid _ := evP
  have HvN : Hid _ := evN
  have HvL : Hid _ := evL
  have HvH : Hid _ := evH
  have HvM : Hid _ := evM
  have HvK : Hid _ := evK
  have HvQ : Hid _ := evQ
  clear evX evE evO evC evZ evR evP evN evL evH evM evK evQ
  have HTK : Hid (∀ w, Calls Yba.prog 16 _ w _) := htk
  have HSP : Hid (∀ W', Below w.heap.size w W' → Calls Yba.prog 17 #[.pointer ms, .int .i64 tk] W' fun r w' => r = .returned (.tuple #[.int .i64 sp, .bool sd]) ∧ ∃ nq, w' = W'.drewN nq) := hspan
  have HLM : Hid (∀ W', Below w.heap.size w W' → ∀ k, Calls Yba.prog 18 #[.map mc, .string k, .int .i64 comp] W' fun r w' => r = .returned (.tuple #[.int .i64 (lim k), .bool ld]) ∧ w' = W') := hlim
  have HSY : Hid (∀ sb, syn = some sb → w.heap[sb]? = some (.cells #[.map (some km)] 51 (0, 0)) ∧ w.heap[km]? = some (clsObj cl) ∧ (cl.map (·.1)).Nodup) := hsyn
  have HCL : Hid (syn = none → cl = []) := hcl
  obtain ⟨sv, hsv⟩ : ∃ sv, (syn.map fun sb => (⟨sb, 0, none⟩ : Addr)) = sv := ⟨_, rfl⟩
  have HSV : Hid ((syn.map fun sb => (⟨sb, 0, none⟩ : Addr)) = sv) := hsv
  rw [hsv]
  obtain ⟨post, hpost⟩ : ∃ post : Ending → World → Prop, (fun r w' => ∃ cb mm tab blk ow, r = .returned (.pointer (some ⟨cb, 0, none⟩)) ∧
      Rep w.heap.size w' cb (Ann.cfg ⟨b, comp, rt, pt, bmin, bmax, ms, mc⟩ sv sp sd mm) tab blk ow (S0 cl fun k => M.init (lim k) ld) ∧ Below w.heap.size w w') = post := ⟨_, rfl⟩
  have HP : Hid (∀ cb mm tab blk ow w', Rep w.heap.size w' cb (Ann.cfg ⟨b, comp, rt, pt, bmin, bmax, ms, mc⟩ sv sp sd mm) tab blk ow (S0 cl fun k => M.init (lim k) ld) → Below w.heap.size w w' → post (.returned (.pointer (some ⟨cb, 0, none⟩))) w') := by
    intro cb mm tab blk ow w' h1 h2
    rw [← hpost]
    exact ⟨cb, mm, tab, blk, ow, rfl, h1, h2⟩
  rw [hpost]
  clear hpost hsv htk hspan hlim hsyn hcl htk0 hob
  go_enter Yba.func13, Yba.ntmps13
  go_wp2
  go_upto_region 1 with fail
  go_cut [5] (fun v wr => ∃ mm, v = .pointer (some ⟨w.heap.size + 3, 0, none⟩) ∧ NewMid w wr mm #[vX, vE, vE, vO, vC, vZ, vR, vP, vN, vN, vL, vH, vM, vK, vQ, vN]
      #[vX, vE, vE, vO, vC, vZ, vR, vP, vN, vN, vL, vH, vM, vK, vQ, vN, Value.pointer sv, Value.int .i64 tk, Value.bool false, Value.int .i64 0, Value.bool false, Value.map (some mm)])
  case first =>
    have hS0 : AnnAt w.heap.size #[vX, vE, vE, vO, vC, vZ, vR, vP, vN, vN, vL, vH, vM, vK, vQ, vN] (w.alloc (.cells #[vX, vE, vE, vO, vC, vZ, vR, vP, vN, vN, vL, vH, vM, vK, vQ, vN] 45)).drew := heap_alloc_at w _
    refine wp_region_held_drew (S := AnnAt w.heap.size #[vX, vE, vE, vO, vC, vZ, vR, vP, vN, vN, vL, vH, vM, vK, vQ, vN]) (by kernel_rfl) hS0 (fun hHeld => ?_)
    refine wpAnyH_take (i := 0) (v := .agg #[vX, vE, vE, vO, vC, vZ, vR, vP, vN, vN, vL, vH, vM, vK, vQ, vN]) rfl (by kernel_rfl) (by kernel_rfl) (by kernel_rfl) (fun _ _ _ h => h) (yieldsIf_ann (by rfl) (.tmp 2) rfl rfl rfl) hHeld ?_
    simp only [List.getElem_toArray, List.getElem_cons_zero, Act.put, List.setIfInBounds_toArray, List.set_cons_zero, List.set_cons_succ]
    refine wpAnyH_take (i := 1) (v := .pointer sv) rfl (by kernel_rfl) (by kernel_rfl) (by kernel_rfl) (fun _ _ _ h => h) (Or.inl ⟨by rfl, fun W hW => by rfl⟩) hHeld ?_
    simp only [List.getElem_toArray, List.getElem_cons_zero, List.getElem_cons_succ, Act.put, List.setIfInBounds_toArray, List.set_cons_zero, List.set_cons_succ]
    refine wpAnyH_take (i := 2) (v := .agg #[vX, vE, vE, vO, vC, vZ, vR, vP, vN, vN, vL, vH, vM, vK, vQ, vN]) rfl (by kernel_rfl) (by kernel_rfl) (by kernel_rfl) (fun _ _ _ h => h) (yieldsIf_ann (by rfl) (.tmp 2) rfl rfl rfl) hHeld ?_
    simp only [List.getElem_toArray, List.getElem_cons_zero, List.getElem_cons_succ, Act.put, List.setIfInBounds_toArray, List.set_cons_zero, List.set_cons_succ]
    refine wpAnyH_ready (rs := [3, 4]) (by kernel_rfl) (by simp) ?_
    refine AllReadyH.cons rfl (fun K hK => ?_) (AllReadyH.cons rfl (fun K hK => ?_) AllReadyH.nil)
    · go_simp
      go_wp2_with (go_at_call 16; refine (HTK.out _).mono ?_; rintro r w' ⟨rfl, rfl⟩)
      refine hK.out _ _ (AnnAt.allocd hHeld _) (fun h2 => ?_)
      clear hK K
      refine wpAnyH_ready (rs := [4]) (by kernel_rfl) (by simp) ?_
      refine AllReadyH.cons rfl (fun K hK => ?_) AllReadyH.nil
      go_simp
      refine hK.out _ _ (AnnAt.allocd h2 _) (fun h3 => ?_)
      clear hK K
      refine wpAnyH_ready (rs := [5]) (by kernel_rfl) (by simp) ?_
      refine AllReadyH.cons rfl (fun K hK => ?_) AllReadyH.nil
      go_simp
      refine hK.out _ _ h3 (fun h3 => ?_)
      clear hK K
      refine wpAnyH_ready (rs := [6]) (by kernel_rfl) (by simp) ?_
      refine AllReadyH.cons rfl (fun K hK => ?_) AllReadyH.nil
      go_simp
      refine hK.out _ _ (AnnAt.allocd h3 _) (fun h4 => ?_)
      clear hK K
      refine wpAnyH_ready (rs := [7]) (by kernel_rfl) (by simp) ?_
      refine AllReadyH.cons rfl (fun K hK => ?_) AllReadyH.nil
      go_simp
      refine hK.out _ _ h4 (fun h5 => ?_)
      clear hK K
      refine wpAnyH_done (by kernel_rfl) ?_ _
      go_wp2_with fail
      go_meet
      case rel => exact ⟨_, rfl, new_mid2 w _ _ _⟩
    · go_simp
      refine hK.out _ _ (AnnAt.allocd hHeld _) (fun h2 => ?_)
      clear hK K
      refine wpAnyH_ready (rs := [3]) (by kernel_rfl) (by simp) ?_
      refine AllReadyH.cons rfl (fun K hK => ?_) AllReadyH.nil
      go_simp
      go_wp2_with (go_at_call 16; refine (HTK.out _).mono ?_; rintro r w' ⟨rfl, rfl⟩)
      refine hK.out _ _ (AnnAt.allocd h2 _) (fun h3 => ?_)
      clear hK K
      refine wpAnyH_ready (rs := [5]) (by kernel_rfl) (by simp) ?_
      refine AllReadyH.cons rfl (fun K hK => ?_) AllReadyH.nil
      go_simp
      refine hK.out _ _ h3 (fun h3 => ?_)
      clear hK K
      refine wpAnyH_ready (rs := [6]) (by kernel_rfl) (by simp) ?_
      refine AllReadyH.cons rfl (fun K hK => ?_) AllReadyH.nil
      go_simp
      refine hK.out _ _ (AnnAt.allocd h3 _) (fun h4 => ?_)
      clear hK K
      refine wpAnyH_ready (rs := [7]) (by kernel_rfl) (by simp) ?_
      refine AllReadyH.cons rfl (fun K hK => ?_) AllReadyH.nil
      go_simp
      refine hK.out _ _ h4 (fun h5 => ?_)
      clear hK K
      refine wpAnyH_done (by kernel_rfl) ?_ _
      go_wp2_with fail
      go_meet
      case rel => exact ⟨_, rfl, new_mid1 w _ _ _⟩
  case rest =>
    obtain ⟨mm, rfl, hmid⟩ := hcut
    rw [← HvX.out, ← HvE.out, ← HvO.out, ← HvC.out, ← HvZ.out, ← HvR.out, ← HvP.out, ← HvN.out, ← HvL.out, ← HvH.out, ← HvM.out, ← HvK.out, ← HvQ.out] at hmid
    have HMID : Hid _ := hmid
    have hac := cell_of hmid.ann
    have hcc := cell_of hmid.cfg
    have fz := fun o => thawed_of hmid.cfg o none
    have a3 := hac 3
    have k17 := hcc 17; have k18 := hcc 18
    simp only [List.getElem?_toArray, List.getElem?_cons_succ, List.getElem?_cons_zero] at a3 k17 k18
    clear hac hcc hmid
    generalize Value.agg #[vX, vE, vE, vO, vC, vZ, vR, vP, vN, vN, vL, vH, vM, vK, vQ, vN] = va
    go_upto_region 2 with fail
    go_cut [] (fun wr => NewMid w wr mm #[Value.string ⟨#[88]⟩, Value.string ⟨#[]⟩, Value.string ⟨#[]⟩, Value.string ob, Value.int .i64 comp, Value.int .i64 0, Value.int .i64 rt, Value.int .i64 pt, Value.pointer none, Value.pointer none, Value.int .i64 bmin, Value.int .i64 bmax, Value.pointer ms, Value.map mc, Value.map none, Value.pointer none]
      #[Value.string ⟨#[88]⟩, Value.string ⟨#[]⟩, Value.string ⟨#[]⟩, Value.string ob, Value.int .i64 comp, Value.int .i64 0, Value.int .i64 rt, Value.int .i64 pt, Value.pointer none, Value.pointer none, Value.int .i64 bmin, Value.int .i64 bmax, Value.pointer ms, Value.map mc, Value.map none, Value.pointer none, Value.pointer sv, Value.int .i64 tk, Value.bool (b && decide (0 < tk)), Value.int .i64 0, Value.bool false, Value.map (some mm)])
    case first =>
      cases b
      · have hb := HB.out
        go_wp2
        go_meet
        case rel => exact HMID.out.set 18 _
      · have hb := HB.out
        go_wp2
        go_meet
        case rel => exact HMID.out.set 18 _
    case rest =>
      clear a3 k17 k18 fz HMID
      have HMID : Hid _ := hcut
      have hac := cell_of hcut.ann
      have hcc := cell_of hcut.cfg
      have fz := fun o => thawed_of hcut.cfg o none
      have a12 := hac 12
      have k17 := hcc 17; have k19 := hcc 19; have k20 := hcc 20
      simp only [List.getElem?_toArray, List.getElem?_cons_succ, List.getElem?_cons_zero] at a12 k17 k19 k20
      clear hac hcc hcut
      go_upto_region 3 with fail
      go_cut [] (fun wr => NewMid w wr mm #[Value.string ⟨#[88]⟩, Value.string ⟨#[]⟩, Value.string ⟨#[]⟩, Value.string ob, Value.int .i64 comp, Value.int .i64 0, Value.int .i64 rt, Value.int .i64 pt, Value.pointer none, Value.pointer none, Value.int .i64 bmin, Value.int .i64 bmax, Value.pointer ms, Value.map mc, Value.map none, Value.pointer none] (Ann.cfg ⟨b, comp, rt, pt, bmin, bmax, ms, mc⟩ sv sp sd mm).cells)
      case first =>
        go_region_with (go_at_call 17; refine (HSP.out _ ?_).mono ?_; exact HMID.out.below.drew; rintro r w' ⟨rfl, nq, rfl⟩)
        all_goals
          go_wp2_with fail
          go_meet
          case rel => rw [HCF.out]; exact ((HMID.out.drewN _).set 19 _).set 20 _
      case rest =>
        clear a12 k17 k19 k20 fz HMID
        have HMID : Hid _ := hcut
        cases syn with
        | none =>
          have hv : none = sv := HSV.out
          subst hv
          clear hcut
          go_wp2
          have hcl := HCL.out (by simp)
          refine HP.out _ mm [] (fun _ => 0) (fun _ => none) _ ?_ HMID.out.below
          rw [hcl]
          exact rep_empty (c := Ann.cfg ⟨b, comp, rt, pt, bmin, bmax, ms, mc⟩ none sp sd mm) HMID.out
        | some sb =>
          have hv : some (⟨sb, 0, none⟩ : Addr) = sv := HSV.out
          subst hv
          obtain ⟨hs1, hs2, hs3⟩ := HSY.out sb rfl
          have hsl := lt_of_heap hs1
          have hkl := lt_of_heap hs2
          have s0 : wc.cell? ⟨sb, 0, none⟩ = some (.map (some km)) := (hcut.below.cell (p := ⟨sb, 0, none⟩) hsl).trans (cell_of hs1 0)
          have hrg := run_range_cls (W := wc) ((hcut.below.block km hkl).trans hs2)
          have HK : Hid (w.heap[km]? = some (clsObj cl)) := hs2
          have HND : Hid ((cl.map (·.1)).Nodup) := hs3
          have HI0 : Hid _ := inv_start (ini := fun k => M.init (lim k) ld) (cl := cl) (c := Ann.cfg ⟨b, comp, rt, pt, bmin, bmax, ms, mc⟩ (some ⟨sb, 0, none⟩) sp sd mm) HMID.out hkl
          have HA0 : Hid ((wc.alloc (.mapIter (some km) cl.length #[] cl.length)).heap[w.heap.size]? = _) := (heap_alloc_lt wc _ (by rw [hcut.size]; omega)).trans hcut.ann
          clear hcut hs1 hs2 hs3 hsl
          go_wp2
          obtain ⟨it, hit⟩ : ∃ it, wc.heap.size = it := ⟨_, rfl⟩
          obtain ⟨WI, hWI⟩ : ∃ WI, wc.alloc (.mapIter (some km) cl.length #[] cl.length) = WI := ⟨_, rfl⟩
          rw [hWI, hit] at HI0
          rw [hWI] at HA0
          rw [hWI, hit]
          have HMM : Hid (w.heap.size < mm) := HMID.out.mml
          clear hWI hit s0 hrg hkl HMID
          go_loopg [6] cl.length (fun k _ wr => ∃ seen tab blk ow S, k = cl.length - seen.size ∧ NewInv w.heap.size w wr it km (w.heap.size + 3) (Ann.cfg ⟨b, comp, rt, pt, bmin, bmax, ms, mc⟩ (some ⟨sb, 0, none⟩) sp sd mm) cl (fun k => M.init (lim k) ld) seen tab blk ow S ∧
              wr.heap[w.heap.size]? = some (.cells #[Value.string ⟨#[88]⟩, Value.string ⟨#[]⟩, Value.string ⟨#[]⟩, Value.string ob, Value.int .i64 comp, Value.int .i64 0, Value.int .i64 rt, Value.int .i64 pt, Value.pointer none, Value.pointer none, Value.int .i64 bmin, Value.int .i64 bmax, Value.pointer ms, Value.map mc, Value.map none, Value.pointer none] 45 (0, 0)))
          case atStart => exact ⟨#[], [], _, _, _, rfl, HI0.out, HA0.out⟩
          case round =>
            obtain ⟨seen, tab, blk, ow, S, hgk, hI, hA⟩ := hrel
            have HI : Hid _ := hI
            have HGK : Hid (gk = cl.length - seen.size) := hgk
            rcases new_step hI HK.out HND.out 0 with ⟨hall, hnx⟩ | ⟨p, nm, k, W2, hp, hps, hpl, hlk, hnx, hen, hit2, hsz2, hoth, hB2, hR2⟩
            · have HE : Hid (S = S0 cl fun k => M.init (lim k) ld) := new_end hI HND.out hall
              clear hI hA hgk hall
              go_wp2
              refine HP.out _ mm tab blk ow _ ?_ HI.out.below
              rw [← HE.out]
              exact HI.out.rep
            · have HOTH : Hid (∀ j, j ≠ it → W2.heap[j]? = wr.heap[j]?) := hoth
              have HB2 : Hid (Below w.heap.size w W2) := hB2
              have HN : Hid _ := new_round hI hp hps hlk hit2 hB2 hR2
              have hNit : w.heap.size ≠ it := by
                rintro e
                have := hI.iter
                rw [← e, hA] at this
                cases this
              have hA2 : W2.heap[w.heap.size]? = _ := (hoth _ hNit).trans hA
              have hac := cell_of hA2
              have hcc := cell_of hR2.cfg
              have HA2 : Hid _ := hA2
              have hAL : w.heap.size < W2.heap.size := lt_of_heap hA2
              have a4 := hac 4; have a13 := hac 13
              have k21 := hcc 21
              rw [HCF.out] at k21
              simp only [List.getElem?_toArray, List.getElem?_cons_succ, List.getElem?_cons_zero] at a4 a13 k21
              have hl2 := lt_of_heap hR2.cfg
              have hup := run_update (P := Yba.prog) (t := 79) str_isKey str_inj Yba.underlying79 Yba.underlying9 (w := W2.alloc (.cells (initCells (lim k) ld) 88)) (b := mm) (l := tab) ((heap_alloc_lt W2 _ (lt_of_heap hR2.map)).trans hR2.map) nm (.pointer (some ⟨W2.heap.size, 0, none⟩))
              rw [put_none hlk] at hup
              have hlm := HLM.out (W2.alloc (.cells #[.bool true, .int .i64 0, .bool false, .slice none 0 0, .map none, .int .i64 0, .int .i64 0, .int .i64 0] 88)) (hB2.alloc (by omega) _) k
              have HPS : Hid (seen.size < cl.length) := hI.room hpl hps
              unfold initCells at hup
              clear hac hcc hA2 hI hA hgk hp hps hpl hlk hit2 hsz2 hoth hB2 hR2 hNit
              go_wp2_with (go_at_call 18; refine hlm.mono ?_; rintro r w' ⟨rfl, rfl⟩)
              go_roundg (cl.length - (seen.size + 1))
              case measure => have h1 := HPS.out; have h2 := HGK.out; omega
              case rel =>
                refine ⟨_, _, _, _, _, ?_, HN.out, ?_⟩
                · simp
                · exact (heap_block_other (Nat.ne_of_lt HMM.out)).trans ((heap_alloc_lt W2 _ hAL).trans HA2.out)

end Go.Proofs.Ybulkboty
