/-
  checkEntry. Of this seat's own.
-/
import Derived.Test.YbulkbotyNew
import Derived.Test.YbulkbotyEntryMids
import Derived.Deep.DeepCutAuto
namespace Go.Proofs.Ybulkboty
open Go.RowKit Go.ChangeMaps

theorem size69 : (Yba.prog.info? 69).map (·.size) = some 1 := by kernel_rfl
theorem size70 : (Yba.prog.info? 70).map (·.size) = some 1 := by kernel_rfl
theorem size62 : (Yba.prog.info? 62).map (·.size) = some 1 := by kernel_rfl
theorem info70 : Yba.prog.info? 70 = some Yba.t70 := by kernel_rfl
theorem info62 : Yba.prog.info? 62 = some Yba.t62 := by kernel_rfl

theorem wpList_load45 {ops : Array Oper} {rest : List Oper} {op : Oper} {a : Act} {w : World} {Q : Exit → Act → World → Prop} (hgd : op.guard = none) (x : Operand) (ho : op.op = .load 45 x)
    {N : Nat} (hx : a.eval x = .pointer (some ⟨N, 0, none⟩)) {A : Array Value} (hA : AnnAt N A w) (hs : A.size = 16)
    (h : wpList Yba.prog ops Q rest (a.put op.dst (.agg A)) w) : wpList Yba.prog ops Q (op :: rest) a w := by
  refine wpList_load_mid hgd 45 x ho N 0 hx A.toList _ (fun j v hv => ?_) Yba.underlying45 rfl (by rw [size45]; simp [hs]) (by simpa using h)
  rw [cell_of hA, Nat.zero_add]
  simpa using hv

theorem wpList_load68 {ops : Array Oper} {rest : List Oper} {op : Oper} {a : Act} {w : World} {Q : Exit → Act → World → Prop} (hgd : op.guard = none) (x : Operand) (ho : op.op = .load 68 x)
    {b o : Nat} (hx : a.eval x = .pointer (some ⟨b, o, none⟩)) {nm : ByteArray} {r p z : Int} (hc : w.rangeAt b o (bidCells nm r p z).toList)
    (h : wpList Yba.prog ops Q rest (a.put op.dst (.agg #[.string nm, .int .u64 0, .int .i64 0, .pointer none, .string ⟨#[]⟩, .int .i64 r, .int .i64 p, .string ⟨#[]⟩, .int .i64 z])) w) : wpList Yba.prog ops Q (op :: rest) a w :=
  wpList_load_mid hgd 68 x ho b o hx (bidCells nm r p z).toList _ hc Yba.underlying68 rfl size68 h

def EntryOut (r : Ending) (w w' : World) (n : Nat) (f : Nat → ByteArray) : Prop :=
  ∃ rb, r = .returned (.slice (some ⟨rb, 0, none⟩) n n) ∧ w.heap.size ≤ rb ∧ RowAt w' rb 62 n (fun k => .string (f k)) ∧ Below w.heap.size w w'

set_option maxRecDepth 100000 in
set_option maxHeartbeats 4000000 in
theorem entry_any (a : Ann) (syn : Option Nat) (km : Nat) (cl : List (ByteArray × ByteArray)) (lim : ByteArray → Int) (ld : Bool) (sp : Int) (sd : Bool) (w : World)
    (hspan : ∀ W', Below w.heap.size w W' → Calls Yba.prog 17 #[.pointer a.ms, .int .i64 a.tick] W' fun r w' => r = .returned (.tuple #[.int .i64 sp, .bool sd]) ∧ ∃ nq, w' = W'.drewN nq)
    (hlim : ∀ W', Below w.heap.size w W' → ∀ k, Calls Yba.prog 18 #[.map a.mc, .string k, .int .i64 a.comp] W' fun r w' => r = .returned (.tuple #[.int .i64 (lim k), .bool ld]) ∧ w' = W')
    (hsyn : ∀ sb, syn = some sb → w.heap[sb]? = some (.cells #[.map (some km)] 51 (0, 0)) ∧ w.heap[km]? = some (clsObj cl) ∧ (cl.map (·.1)).Nodup) (hcl : syn = none → cl = [])
    (obj : Bool) (mf lf af : Nat → Int) (BB LB TB n m m0 : Nat) (hbu : Built w BB LB n n obj mf lf af) (hn : n ≤ 300) (hm : m ≤ 1024) (hlf : ∀ i, 0 ≤ lf i)
    (tf : Nat → Nat) (hT : ∀ j, j < m → w.cell? ⟨TB, j, none⟩ = some (.int .i64 ((tf j : Nat) : Int))) (htn : ∀ j, j < m → tf j < n) (hTl : TB < w.heap.size) :
    Calls Yba.prog 12 #[.agg a.cells, .pointer (syn.map fun sb => ⟨sb, 0, none⟩), .slice (some ⟨BB, 0, none⟩) n n, .slice (some ⟨LB, 0, none⟩) n n, .slice (some ⟨TB, 0, none⟩) m m0] w fun r w' =>
      EntryOut r w w' n (steps (a.cfg (syn.map fun sb => ⟨sb, 0, none⟩) sp sd 0) (fun i => codeOf (mf i)) (fun i => lvOf (lf i)) af (S0 cl fun k => M.init (lim k) ld) ((List.range m).map tf)).2 := by
  obtain ⟨post, hpost⟩ : ∃ post : Ending → World → Prop, (fun r w' => EntryOut r w w' n (steps (a.cfg (syn.map fun sb => ⟨sb, 0, none⟩) sp sd 0) (fun i => codeOf (mf i)) (fun i => lvOf (lf i)) af (S0 cl fun k => M.init (lim k) ld) ((List.range m).map tf)).2) = post := ⟨_, rfl⟩
  have HP : Hid (∀ rb w', w.heap.size ≤ rb → RowAt w' rb 62 n (fun k => .string ((steps (a.cfg (syn.map fun sb => ⟨sb, 0, none⟩) sp sd 0) (fun i => codeOf (mf i)) (fun i => lvOf (lf i)) af (S0 cl fun k => M.init (lim k) ld) ((List.range m).map tf)).2 k)) → Below w.heap.size w w' → post (.returned (.slice (some ⟨rb, 0, none⟩) n n)) w') := by
    intro rb w' h1 h2 h3
    rw [← hpost]
    exact ⟨rb, rfl, h1, h2, h3⟩
  have hB1 : ∀ W', Below (w.alloc (.cells a.cells 45)).heap.size (w.alloc (.cells a.cells 45)) W' → Below w.heap.size w W' := fun W' h => ((Below.refl _ w).alloc (Nat.le_refl _) _).trans (h.mono (by simp))
  have hnew := new_any a syn km cl lim ld sp sd (w.alloc (.cells a.cells 45)) (fun W' h => hspan W' (hB1 W' h)) (fun W' h => hlim W' (hB1 W' h))
    (fun sb h => by
      obtain ⟨h1, h2, h3⟩ := hsyn sb h
      exact ⟨(heap_alloc_lt _ _ (lt_of_heap h1)).trans h1, (heap_alloc_lt _ _ (lt_of_heap h2)).trans h2, h3⟩) hcl
  have hTick : ∀ mm, (a.cfg (syn.map fun sb => ⟨sb, 0, none⟩) sp sd mm).onT = true → 0 < (a.cfg (syn.map fun sb => ⟨sb, 0, none⟩) sp sd mm).tick := fun mm => cfg_tick a _ sp sd mm
  have hstp : ∀ mm, stp (a.cfg (syn.map fun sb => ⟨sb, 0, none⟩) sp sd mm) = stp (a.cfg (syn.map fun sb => ⟨sb, 0, none⟩) sp sd 0) := fun mm => rfl
  have hS0l := S0_len cl lim ld
  have hasz : a.cells.size = 16 := rfl
  rw [hpost]
  obtain ⟨sv, hsv⟩ : ∃ sv, (syn.map fun sb => (⟨sb, 0, none⟩ : Addr)) = sv := ⟨_, rfl⟩
  obtain ⟨Sx, hSx⟩ : ∃ Sx, (S0 cl fun k => M.init (lim k) ld) = Sx := ⟨_, rfl⟩
  rw [hsv, hSx] at hnew HP
  rw [hSx] at hS0l
  rw [hsv] at hTick hstp ⊢
  obtain ⟨cf, hcf⟩ : ∃ cf : Nat → Cfg, (fun mm => a.cfg sv sp sd mm) = cf := ⟨_, rfl⟩
  have hcf' : ∀ mm, a.cfg sv sp sd mm = cf mm := fun mm => by rw [← hcf]
  simp only [hcf'] at hnew HP hTick hstp
  obtain ⟨A, hA⟩ : ∃ A, a.cells = A := ⟨_, rfl⟩
  rw [hA] at hnew hasz ⊢
  have HLD : Hid (AnnAt w.heap.size A (w.alloc (.cells A 45)) ∧ A.size = 16) := ⟨heap_alloc_at w _, hasz⟩
  have HNEW : Hid (Calls Yba.prog 13 _ _ _) := hnew
  have HTICK : Hid _ := hTick
  have HSTP : Hid _ := hstp
  have HS0' : Hid _ := hS0l
  have HT : Hid _ := hT
  have HTN : Hid _ := htn
  have HLF : Hid _ := hlf
  have HBU : Hid _ := hbu
  have mk1 := fun W => run_make (P := Yba.prog) W 77 70 Yba.t70 _ Yba.underlying77 info70 rfl .i64 .i64 (n : Int) (n : Int) (by omega) (by omega) (by show (8 : Int) * _ ≤ _; omega) (by omega)
  have mk2 := fun W => run_make (P := Yba.prog) W 57 62 Yba.t62 _ Yba.underlying57 info62 rfl .i64 .i64 (n : Int) (n : Int) (by omega) (by omega) (by show (16 : Int) * _ ≤ _; omega) (by omega)
  simp only [Int.toNat_natCast] at mk1 mk2
  obtain ⟨A1, hA1⟩ : ∃ A1, madeCells (Value.pointer none).cells (n * 1) = A1 := ⟨_, rfl⟩
  have mk1' : ∀ w, (Instr.makeSlice 77 (.int .i64 (n : Int)) (.int .i64 (n : Int))).run Yba.prog w = .ok (.slice (some ⟨w.heap.size, 0, none⟩) n n) (w.alloc (.cells A1 70)) := fun w => by rw [← hA1]; exact mk1 w
  have HS1 : Hid (A1.size = n) := by show _ = _; rw [← hA1]; simp [madeCells]
  obtain ⟨A2, hA2⟩ : ∃ A2, madeCells (Value.string ⟨#[]⟩).cells (n * 1) = A2 := ⟨_, rfl⟩
  have mk2' : ∀ w, (Instr.makeSlice 57 (.int .i64 (n : Int)) (.int .i64 (n : Int))).run Yba.prog w = .ok (.slice (some ⟨w.heap.size, 0, none⟩) n n) (w.alloc (.cells A2 62)) := fun w => by rw [← hA2]; exact mk2 w
  have HM2 : Hid (∀ W : World, RowAt (W.alloc (.cells A2 62)) W.heap.size 62 n (fun _ => .string ⟨#[]⟩)) := fun W => by rw [← hA2]; exact RowAt.made W 62 n _ rfl
  obtain ⟨N, hN⟩ : ∃ N, w.heap.size = N := ⟨_, rfl⟩
  have HN : Hid (w.heap.size = N) := hN
  rw [hN] at HP
  have HBBl : Hid (BB < N) := by rw [← hN]; obtain ⟨c, h, _⟩ := hbu.bids; exact lt_of_heap h
  have HLBl : Hid (LB < N) := by rw [← hN]; obtain ⟨c, h, _⟩ := hbu.levs; exact lt_of_heap h
  have HTBl : Hid (TB < N) := by rw [← hN]; exact hTl
  obtain ⟨nm, hnm⟩ : ∃ nm : Nat → ByteArray, (fun i => codeOf (mf i)) = nm := ⟨_, rfl⟩
  obtain ⟨lv, hlv⟩ : ∃ lv : Nat → Int, (fun i => lvOf (lf i)) = lv := ⟨_, rfl⟩
  obtain ⟨rf, hrf⟩ : ∃ rf : Nat → Int, (fun i => if obj then 0 else lvOf (lf i)) = rf := ⟨_, rfl⟩
  obtain ⟨pf, hpf⟩ : ∃ pf : Nat → Int, (fun i => if obj then lvOf (lf i) else 0) = pf := ⟨_, rfl⟩
  obtain ⟨⟨CB, b1, b2, b3⟩, ⟨CL, d1, d2, d3⟩⟩ := hbu
  have HB3 : Hid (∀ i, i < n → ∀ j, j < 9 → CB[i * 9 + j]? = (bidCells (nm i) (rf i) (pf i) (af i))[j]?) := fun i hi j hj => by
    rw [← hnm, ← hrf, ← hpf]; exact b3 i hi j hj
  have HD3 : Hid (∀ i, i < n → CL[i]? = some (.int .i64 (lv i))) := fun i hi => by rw [← hlv]; exact d3 i hi
  have HLV : Hid (∀ i, 0 ≤ lv i) := fun i => by rw [← hlv]; show (0 : Int) ≤ lf i % 99999999999 + 1; have := hlf i; omega
  have HCB : Hid (w.heap[BB]? = some (.cells CB 68 (0, 0)) ∧ w.heap[LB]? = some (.cells CL 69 (0, 0))) := ⟨b1, d1⟩
  rw [hnm, hlv] at HP
  clear mk1 mk2 hA1 hA2 hnew hTick hstp hS0l hT htn hlf hcf hcf' hSx hsv hspan hlim hsyn hcl hB1 hpost hN hTl hA hasz b1 b2 b3 d1 d2 d3 hnm hlv hrf hpf
  go_enter Yba.func12, Yba.ntmps12
  go_upto_region 1 with fail
  go_upto_region 2 with (first | (refine wpList_load45 rfl (.tmp 5) rfl rfl HLD.out.1 HLD.out.2 ?_) | (go_at_call 13; refine HNEW.out.mono ?_; rintro r w1 ⟨cb, mm, tab, blk, ow, rfl, hR, hB⟩))
  obtain ⟨B, hB0⟩ : ∃ B, (w.alloc (.cells A 45)).heap.size = B := ⟨_, rfl⟩
  have HB1 : Hid (N ≤ B) := by have h1 := HN.out; show _ ≤ _; rw [← hB0]; simp; omega
  have HBE0 : Hid (Below N w w1) := by
    have h1 := HN.out
    rw [← h1]
    exact ((Below.refl _ w).alloc (Nat.le_refl _) _).trans (hB.mono (by simp))
  rw [hB0] at hR
  have HR : Hid _ := hR
  obtain ⟨MB, hMB⟩ : ∃ MB, w1.heap.size = MB := ⟨_, rfl⟩
  have HMB : Hid (N ≤ MB) := by have h1 := HN.out; have h2 := HBE0.out.size; show _ ≤ _; omega
  have HM0 : Hid (Mid1 N B w (w1.alloc (.cells A1 70)) cb MB n 0 (cf mm) nm Sx tab blk ow) :=
    ⟨hR.transfer (fun k hk _ => heap_alloc_lt _ _ hk), ⟨A1, by rw [← hMB]; exact heap_alloc_at _ _, HS1.out, fun k hk => absurd hk (by omega)⟩, HBE0.out.alloc (by rw [hMB]; exact HMB.out) _⟩
  clear hR hB hB0 HR HNEW HLD
  go_wp2
  clear hMB
  go_loopg [26] n (fun k i wr => ∃ (t : Nat) (tab : List (ByteArray × Value)) (blk : ByteArray → Nat) (ow : ByteArray → Option Nat), t ≤ n ∧ k = n - t ∧ i = .int .i64 (t : Int) ∧ Mid1 N B w wr cb MB n t (cf mm) nm Sx tab blk ow)
  case atStart => exact ⟨0, tab, blk, ow, Nat.zero_le _, rfl, rfl, HM0.out⟩
  case round =>
    clear HM0
    obtain ⟨t, tab, blk, ow, htn, hgk, rfl, hM⟩ := hrel
    have HM : Hid _ := hM
    have HGK : Hid (gk = n - t) := hgk
    by_cases hti : t < n
    · have hrng : wr.rangeAt BB (t * 9) (bidCells (nm t) (rf t) (pf t) (af t)).toList := fun j v hv => by
        have hj : j < 9 := by
          have := (List.getElem?_eq_some_iff.1 hv).1
          exact this
        rw [cell_of ((hM.below.block BB HBBl.out).trans HCB.out.1), HB3.out t hti j hj]
        simpa using hv
      have HMEM : Hid (∀ o, Calls Yba.prog 15 _ (wr.alloc o) _) := fun o => member_rep (hM.rep.transfer (w' := wr.alloc o) (fun k hk _ => heap_alloc_lt _ _ hk)) (nm t)
      have HRNG : Hid _ := hrng
      clear hM hgk hrng
      go_wp2_with (first | (refine wpList_load68 rfl (.tmp 29) rfl rfl HRNG.out ?_) | (go_at_call 15; refine (HMEM.out _).mono ?_; rintro r w2 ⟨tab', blk', ow', rfl, R', hl, hold, hK⟩; obtain ⟨⟨cv, hcv⟩, hfz, hM'⟩ := HM.out.step hti HB1.out HMB.out HN.out _ R' hl hold hK; have HM' : Hid _ := hM'; clear R' hl hold hK hM'))
      go_roundg (n - (t + 1))
      case measure => have := HGK.out; omega
      case rel => exact ⟨t + 1, tab', blk', ow', by omega, rfl, by go_num, HM'.out⟩
    · have hte : t = n := by omega
      rw [hte] at hM
      obtain ⟨CM, m1, m2, m3⟩ := hM.mem
      have HM3 : Hid (∀ k, k < n → CM[k]? = some (.pointer (some ⟨blk (nm k), 0, none⟩)) ∧ ∃ v, look (nm k) tab = some v) := m3
      obtain ⟨RB, hRB⟩ : ∃ RB, wr.heap.size = RB := ⟨_, rfl⟩
      have HRB : Hid (N ≤ RB) := by have h1 := HN.out; have h2 := hM.below.size; show _ ≤ _; omega
      have HM0 : Hid (Mid2 N B w (wr.alloc (.cells A2 62)) cb MB RB n (cf mm) nm tab blk CM ow (steps (cf mm) nm lv af Sx ((List.range 0).map tf))) :=
        ⟨hM.rep.transfer (fun k hk _ => heap_alloc_lt _ _ hk), (heap_alloc_lt _ _ (lt_of_heap m1)).trans m1, by rw [← hRB]; exact HM2.out wr, hM.below.alloc (by rw [hRB]; exact HRB.out) _⟩
      clear hM HM HGK hgk hte m1 m2 m3 mk1' HS1 HM2
      obtain ⟨wv, hwv⟩ : ∃ wv, wv = wr := ⟨_, rfl⟩
      subst hwv
      go_wp2
      clear hRB
      go_loopg [44] m (fun k i wx => ∃ (j : Nat) (ow : ByteArray → Option Nat), j ≤ m ∧ k = m - j ∧ i = .int .i64 (j : Int) ∧ Mid2 N B w wx cb MB RB n (cf mm) nm tab blk CM ow (steps (cf mm) nm lv af Sx ((List.range j).map tf)))
      case atStart => exact ⟨0, ow, Nat.zero_le _, rfl, rfl, HM0.out⟩
      case round =>
        clear HM0
        obtain ⟨j, ow, hjm, hgk2, rfl, hM⟩ := hrel
        have HM : Hid _ := hM
        have HGK2 : Hid (gk = m - j) := hgk2
        by_cases hj : j < m
        · have hti := HTN.out j hj
          have htc : wr.cell? ⟨TB, j, none⟩ = some (.int .i64 ((tf j : Nat) : Int)) := (hM.below.cell (p := ⟨TB, j, none⟩) HTBl.out).trans (HT.out j hj)
          obtain ⟨hmv0, v0, hlk⟩ := HM3.out (tf j) hti
          have HLK : Hid (look (nm (tf j)) tab = some v0) := hlk
          have hS0 : HS BB CB LB CL MB CM wr.drew := ⟨(hM.below.block BB HBBl.out).trans HCB.out.1, (hM.below.block LB HLBl.out).trans HCB.out.2, hM.mem⟩
          have HS0 : Hid (HS BB CB LB CL MB CM wr.drew) := hS0
          have HCHK : Hid (Calls Yba.prog 14 _ wr.drew _) := check_rep (hM.rep.transfer (w' := wr.drew) (fun _ _ _ => rfl)) (nm (tf j)) hlk (HTICK.out mm) (nm (tf j)) (rf (tf j)) (pf (tf j)) (af (tf j)) (lv (tf j)) (HLV.out _)
            (Nat.le_trans (steps_len _ _ _ _ _ HS0'.out _ _) (by simp; omega))
          have HRG : Hid (∀ W, HS BB CB LB CL MB CM W → W.rangeAt BB (tf j * 9) (bidCells (nm (tf j)) (rf (tf j)) (pf (tf j)) (af (tf j))).toList) := fun W hW q v hv => by
            have hq : q < 9 := (List.getElem?_eq_some_iff.1 hv).1
            rw [cell_of hW.1, HB3.out _ hti q hq]
            simpa using hv
          have HL1 : Hid (∀ W, HS BB CB LB CL MB CM W → W.cell? ⟨LB, tf j * 1, none⟩ = some (.int .i64 (lv (tf j)))) := fun W hW => by
            rw [Nat.mul_one, cell_of hW.2.1]; exact HD3.out _ hti
          have HM1 : Hid (∀ W, HS BB CB LB CL MB CM W → W.cell? ⟨MB, tf j * 1, none⟩ = some (.pointer (some ⟨blk (nm (tf j)), 0, none⟩))) := fun W hW => by
            rw [Nat.mul_one, cell_of hW.2.2]; exact hmv0
          clear hM hgk2 hlk hmv0 hS0
          go_upto_region 12 with fail
          clear htc
          refine wp_region_held_drew (S := HS BB CB LB CL MB CM) (by kernel_rfl) HS0.out (fun hHeld => ?_)
          refine wpAnyH_take (i := 0) (v := .slice (some ⟨RB, 0, none⟩) n n) rfl (by kernel_rfl) (by kernel_rfl) (by kernel_rfl) (fun _ _ _ h => h) (Or.inl ⟨by rfl, fun W hW => by rfl⟩) hHeld ?_
          simp only [List.getElem_toArray, List.getElem_cons_zero, Act.put, List.setIfInBounds_toArray, List.set_cons_zero, List.set_cons_succ]
          refine wpAnyH_take (i := 1) (v := .int .i64 ((tf j : Nat) : Int)) rfl (by kernel_rfl) (by kernel_rfl) (by kernel_rfl) (fun _ _ _ h => h) (Or.inl ⟨by rfl, fun W hW => by rfl⟩) hHeld ?_
          simp only [List.getElem_toArray, List.getElem_cons_zero, List.getElem_cons_succ, Act.put, List.setIfInBounds_toArray, List.set_cons_zero, List.set_cons_succ]
          refine wpAnyH_take (i := 2) (v := .pointer (some ⟨cb, 0, none⟩)) rfl (by kernel_rfl) (by kernel_rfl) (by kernel_rfl) (fun _ _ _ h => h) (Or.inl ⟨by rfl, fun W hW => by rfl⟩) hHeld ?_
          simp only [List.getElem_toArray, List.getElem_cons_zero, List.getElem_cons_succ, Act.put, List.setIfInBounds_toArray, List.set_cons_zero, List.set_cons_succ]
          refine wpAnyH_take (i := 3) (v := .slice (some ⟨BB, 0, none⟩) n n) rfl (by kernel_rfl) (by kernel_rfl) (by kernel_rfl) (fun _ _ _ h => h) (Or.inl ⟨by rfl, fun W hW => by rfl⟩) hHeld ?_
          simp only [List.getElem_toArray, List.getElem_cons_zero, List.getElem_cons_succ, Act.put, List.setIfInBounds_toArray, List.set_cons_zero, List.set_cons_succ]
          refine wpAnyH_take (i := 4) (v := .int .i64 ((tf j : Nat) : Int)) rfl (by kernel_rfl) (by kernel_rfl) (by kernel_rfl) (fun _ _ _ h => h) (Or.inl ⟨by rfl, fun W hW => by rfl⟩) hHeld ?_
          simp only [List.getElem_toArray, List.getElem_cons_zero, List.getElem_cons_succ, Act.put, List.setIfInBounds_toArray, List.set_cons_zero, List.set_cons_succ]
          refine wpAnyH_take (i := 5) (v := .pointer (some ⟨BB, tf j * 9, none⟩)) rfl (by kernel_rfl) (by kernel_rfl) (by kernel_rfl) (fun _ _ _ h => h) (yi_index (by rfl) 52 (.tmp 51) (.tmp 52) rfl rfl rfl hti Yba.underlying52 size68) hHeld ?_
          simp only [List.getElem_toArray, List.getElem_cons_zero, List.getElem_cons_succ, Act.put, List.setIfInBounds_toArray, List.set_cons_zero, List.set_cons_succ]
          refine wpAnyH_take (i := 6) (v := .agg (bidCells (nm (tf j)) (rf (tf j)) (pf (tf j)) (af (tf j)))) rfl (by kernel_rfl) (by kernel_rfl) (by kernel_rfl) (fun _ _ _ h => h) (by exact yieldsIf_load_mid (by rfl) 68 (.tmp 53) rfl BB (tf j * 9) rfl (bidCells (nm (tf j)) (rf (tf j)) (pf (tf j)) (af (tf j))).toList _ HRG.out Yba.underlying68 rfl size68) hHeld ?_
          simp only [List.getElem_toArray, List.getElem_cons_zero, List.getElem_cons_succ, Act.put, List.setIfInBounds_toArray, List.set_cons_zero, List.set_cons_succ]
          refine wpAnyH_take (i := 7) (v := .slice (some ⟨LB, 0, none⟩) n n) rfl (by kernel_rfl) (by kernel_rfl) (by kernel_rfl) (fun _ _ _ h => h) (Or.inl ⟨by rfl, fun W hW => by rfl⟩) hHeld ?_
          simp only [List.getElem_toArray, List.getElem_cons_zero, List.getElem_cons_succ, Act.put, List.setIfInBounds_toArray, List.set_cons_zero, List.set_cons_succ]
          refine wpAnyH_take (i := 8) (v := .int .i64 ((tf j : Nat) : Int)) rfl (by kernel_rfl) (by kernel_rfl) (by kernel_rfl) (fun _ _ _ h => h) (Or.inl ⟨by rfl, fun W hW => by rfl⟩) hHeld ?_
          simp only [List.getElem_toArray, List.getElem_cons_zero, List.getElem_cons_succ, Act.put, List.setIfInBounds_toArray, List.set_cons_zero, List.set_cons_succ]
          refine wpAnyH_take (i := 9) (v := .pointer (some ⟨LB, tf j * 1, none⟩)) rfl (by kernel_rfl) (by kernel_rfl) (by kernel_rfl) (fun _ _ _ h => h) (yi_index (by rfl) 53 (.tmp 55) (.tmp 56) rfl rfl rfl hti Yba.underlying53 size69) hHeld ?_
          simp only [List.getElem_toArray, List.getElem_cons_zero, List.getElem_cons_succ, Act.put, List.setIfInBounds_toArray, List.set_cons_zero, List.set_cons_succ]
          refine wpAnyH_take (i := 10) (v := .int .i64 (lv (tf j))) rfl (by kernel_rfl) (by kernel_rfl) (by kernel_rfl) (fun _ _ _ h => h) (yi_load (by rfl) 69 (.tmp 57) rfl rfl HL1.out Yba.underlying69 rfl) hHeld ?_
          simp only [List.getElem_toArray, List.getElem_cons_zero, List.getElem_cons_succ, Act.put, List.setIfInBounds_toArray, List.set_cons_zero, List.set_cons_succ]
          refine wpAnyH_take (i := 11) (v := .slice (some ⟨MB, 0, none⟩) n n) rfl (by kernel_rfl) (by kernel_rfl) (by kernel_rfl) (fun _ _ _ h => h) (Or.inl ⟨by rfl, fun W hW => by rfl⟩) hHeld ?_
          simp only [List.getElem_toArray, List.getElem_cons_zero, List.getElem_cons_succ, Act.put, List.setIfInBounds_toArray, List.set_cons_zero, List.set_cons_succ]
          refine wpAnyH_take (i := 12) (v := .int .i64 ((tf j : Nat) : Int)) rfl (by kernel_rfl) (by kernel_rfl) (by kernel_rfl) (fun _ _ _ h => h) (Or.inl ⟨by rfl, fun W hW => by rfl⟩) hHeld ?_
          simp only [List.getElem_toArray, List.getElem_cons_zero, List.getElem_cons_succ, Act.put, List.setIfInBounds_toArray, List.set_cons_zero, List.set_cons_succ]
          refine wpAnyH_take (i := 13) (v := .pointer (some ⟨MB, tf j * 1, none⟩)) rfl (by kernel_rfl) (by kernel_rfl) (by kernel_rfl) (fun _ _ _ h => h) (yi_index (by rfl) 77 (.tmp 59) (.tmp 60) rfl rfl rfl hti Yba.underlying77 size70) hHeld ?_
          simp only [List.getElem_toArray, List.getElem_cons_zero, List.getElem_cons_succ, Act.put, List.setIfInBounds_toArray, List.set_cons_zero, List.set_cons_succ]
          refine wpAnyH_take (i := 14) (v := .pointer (some ⟨blk (nm (tf j)), 0, none⟩)) rfl (by kernel_rfl) (by kernel_rfl) (by kernel_rfl) (fun _ _ _ h => h) (yi_load (by rfl) 70 (.tmp 61) rfl rfl HM1.out Yba.underlying70 rfl) hHeld ?_
          simp only [List.getElem_toArray, List.getElem_cons_zero, List.getElem_cons_succ, Act.put, List.setIfInBounds_toArray, List.set_cons_zero, List.set_cons_succ]
          refine wpAnyH_ready (rs := [15]) (by kernel_rfl) (by simp) ?_
          refine AllReadyH.cons rfl (fun K hK => ?_) AllReadyH.nil
          go_simp
          go_wp2_with (go_at_call 14; refine HCHK.out.mono ?_; rintro r w2 ⟨rfl, ow', R', hKe⟩)
          obtain ⟨hs1, hs2, ⟨cv, hcv⟩, hfz, hM'⟩ := HM.out.step HB1.out HRB.out HN.out HS0.out HBBl.out HLBl.out lv af hti HLK.out R' hKe
          refine hK.out _ _ hs1 (fun h2 => ?_)
          clear hK K
          refine wpAnyH_take (i := 16) (v := .pointer (some ⟨RB, tf j * 1, none⟩)) rfl (by kernel_rfl) (by kernel_rfl) (by kernel_rfl) (fun _ _ _ h => h) (yi_index (by rfl) 57 (.tmp 48) (.tmp 49) rfl rfl rfl hti Yba.underlying57 size62) h2 ?_
          simp only [List.getElem_toArray, List.getElem_cons_zero, List.getElem_cons_succ, Act.put, List.setIfInBounds_toArray, List.set_cons_zero, List.set_cons_succ]
          refine wpAnyH_ready (rs := [17]) (by kernel_rfl) (by simp) ?_
          refine AllReadyH.cons rfl (fun K hK => ?_) AllReadyH.nil
          go_simp
          refine hK.out _ _ hs2 (fun h3 => ?_)
          clear hK K
          refine wpAnyH_done (by kernel_rfl) ?_ _
          have HM' : Hid _ := hM'
          clear hM' hs1 hs2 hcv hfz R' hKe h2 h3
          go_wp2
          go_roundg (m - (j + 1))
          case measure => have := HGK2.out; omega
          case rel =>
            refine ⟨j + 1, ow', by omega, rfl, by go_num, ?_⟩
            rw [List.range_succ, List.map_append, List.map_singleton, steps_snoc]
            exact HM'.out
        · have hje : j = m := by omega
          rw [hje] at hM
          have HF : Hid _ := HP.out RB wr HRB.out (by have h1 := hM.rs; unfold steps at h1 ⊢; rw [HSTP.out mm] at h1; exact h1) hM.below
          clear hM hgk2 hje
          go_wp2
          exact HF.out

end Go.Proofs.Ybulkboty
