/-
  LawS3274BSteps: the walk. Of this seat's own.
-/
import Derived.Test.YbulkbotyStepsParts
import Derived.Deep.DeepCutAuto
import Derived.BigQuiet
import Derived.Lib.SliceRun
namespace Go.Proofs.Ybulkboty
open Go.RowKit Go.ChangeMaps

theorem yi_field68 {ops : Array Oper} {S : World → Prop} {op : Oper} {a : Act} (hw : Region.wanted op (yielded ops a.tmps) = true) (q : Nat) (x : Operand) (ho : op.op = .fieldAddr 68 x q)
    {v v' : Value} (hx : a.eval x = v) (hr : ∀ W, (Instr.fieldAt 68 v q).run Yba.prog W = .ok v' W) : YieldsIf Yba.prog ops S op v' a :=
  .inl ⟨hw, fun W _ => by
    unfold execOp
    simp only [ho, hx, Sem.run_bind, Sem.run_pure, Result.andThen_ok, hr W]⟩

theorem info4' : Yba.prog.info? 4 = some Yba.t4 := by kernel_rfl

theorem run_neq_nil (w : World) (t e : TypeId) (a : Option Addr) (n c : Nat) (h : Yba.prog.underlying t = some (.slice e)) : (binOp .neq t (.slice a n c) (.slice none 0 0)).run Yba.prog w = .ok (.bool (!a.isNone)) w := by
  simp only [binOp]
  simp [Op.equal, Op.maxDepth, Go.Lib.run_equalIn_slice_nil w 9999 t e a n c 0 0 h]

set_option maxRecDepth 100000 in
set_option maxHeartbeats 4000000 in
theorem steps_main (obj : Bool) (tick bmin bmax span : Int) (hsp : Bool) (cap : Int) (hc : Bool) (comp : Int) (sa ra ta : Option Addr) (ns sc n rc m tc : Nat) (sf mf lf af tf : Nat → Int) (w : World) (hn : n ≤ 300) (hm : m ≤ 1024) (hns : ns ≤ 300)
    (hsf : ∀ i, 0 ≤ sf i ∧ sf i ≤ 255) (hmf : ∀ i, 0 ≤ mf i ∧ mf i ≤ 255) (hlf : ∀ i, 0 ≤ lf i ∧ lf i ≤ 4294967295) (haf : ∀ i, -2147483648 ≤ af i ∧ af i ≤ 2147483647) (htf : ∀ i, 0 ≤ tf i ∧ tf i ≤ 255)
    (htick : 0 ≤ tick ∧ tick ≤ 65535) (hbmin : -32768 ≤ bmin ∧ bmin ≤ 32767) (hbmax : -32768 ≤ bmax ∧ bmax ≤ 32767) (hspan : 0 ≤ span ∧ span ≤ 255)
    (hcomp : -2147483648 ≤ comp ∧ comp ≤ 2147483647) (hcap : 0 ≤ cap ∧ cap ≤ 4294967295) (hS : ArgU8 w sa ns sf) (hR : ArgRaw w ra n mf lf af) (hT : ArgU8 w ta m tf) :
    Calls Yba.prog 6 #[.bool obj, .int .u16 tick, .int .i16 bmin, .int .i16 bmax, .int .u8 span, .bool hsp, .int .u32 cap, .bool hc, .int .i32 comp, .slice sa ns sc, .slice ra n rc, .slice ta m tc] w fun r w' => r = .returned (.bool true) ∧ Below w.heap.size w w' := by
  have HSF : Hid _ := hsf
  have HBUILD : Hid (∀ W, Below w.heap.size w W → Calls Yba.prog 11 _ W _) := fun W hW => build_all obj n rc m tc ra ta mf lf af tf W hn hm hmf hlf haf htf (hR.mono (Nat.le_refl _) hW) (hT.mono (Nat.le_refl _) hW)
  have HLF : Hid (∀ i, 0 ≤ lf i) := fun i => (hlf i).1
  have HS : Hid (ArgU8 w sa ns sf) := hS
  obtain ⟨c1, c2⟩ := hcomp
  obtain ⟨p1, p2⟩ := hcap
  obtain ⟨t1, t2⟩ := htick
  obtain ⟨m1, m2⟩ := hbmin
  obtain ⟨x1, x2⟩ := hbmax
  obtain ⟨s1, s2⟩ := hspan
  have hmm := @run_makeMap Yba.prog
  have hnil := fun W => run_neq_nil W 33 5 sa ns sc Yba.underlying33
  clear hsf hmf hlf haf htf hS hR hT
  go_enter Yba.func6, Yba.ntmps6
  go_upto_if 63 with fail
  go_cut [] (fun wx => ∃ rt pt, Prep w.heap.size w wx w.heap.size ⟨obj, comp, rt, pt, bmin, bmax, none, none⟩ (fun _ => 0) false 0 false ∧ 0 ≤ (Ann.mk obj comp rt pt bmin bmax none none).tick ∧ (Ann.mk obj comp rt pt bmin bmax none none).tick ≤ 65535)
  case first =>
    cases obj
    · go_wp2
      go_meet
      case rel => exact ⟨tick, 0, Prep.start (heap_alloc_at w _) rfl rfl ((Below.refl _ w).alloc (Nat.le_refl _) _) (Nat.le_refl _), t1, t2⟩
    · go_wp2
      go_meet
      case rel => exact ⟨0, tick, Prep.start (heap_alloc_at w _) rfl rfl ((Below.refl _ w).alloc (Nat.le_refl _) _) (Nat.le_refl _), t1, t2⟩
  case rest =>
    obtain ⟨rt, pt, hP, k1, k2⟩ := hcut
    have HP1 : Hid _ := hP
    have HSZ1 : Hid (w.heap.size < wc.heap.size) := lt_of_heap hP.ann
    have hA12 : wc.cell? ⟨w.heap.size, 12, none⟩ = some (.pointer none) := by rw [cell_of hP.ann]; rfl
    have hF12 := thawed_of hP.ann 12 none
    obtain ⟨w1, hw1⟩ : ∃ w1, w1 = wc := ⟨_, rfl⟩
    subst hw1
    clear hP
    go_upto_if 71 with fail
    go_cut [] (fun wx => ∃ ms sp sd, Prep w.heap.size w wx w.heap.size ⟨obj, comp, rt, pt, bmin, bmax, ms, none⟩ (fun _ => 0) false sp sd)
    case first =>
      have HN : Hid (w.heap.size ≤ w1.heap.size) := Nat.le_of_lt HSZ1.out
      cases hsp
      · go_wp2
        go_meet
        case rel => exact ⟨none, 0, false, HP1.out⟩
      · have HP2 : Hid _ := HP1.out.withSpan HN.out span s1 s2 k1 k2
        have hlt : w.heap.size < w1.heap.size := HSZ1.out
        go_wp2
        go_meet
        case rel =>
          have hp := HP2.out
          rw [World.setCell_alloc_past _ _ _ _ HSZ1.out] at hp
          exact ⟨_, _, _, hp⟩
    case rest =>
      obtain ⟨ms, sp, sd, hP⟩ := hcut
      clear HP1 HSZ1 k1 k2 hA12 hF12
      have HP1 : Hid _ := hP
      have HSZ1 : Hid (w.heap.size < wc.heap.size) := lt_of_heap hP.ann
      obtain ⟨w2, hw2⟩ : ∃ w2, w2 = wc := ⟨_, rfl⟩
      subst hw2
      clear hP
      go_upto_if 75 with fail
      go_cut [] (fun wx => ∃ mc lim ld, Prep w.heap.size w wx w.heap.size ⟨obj, comp, rt, pt, bmin, bmax, ms, mc⟩ lim ld sp sd)
      case first =>
        cases hc
        · go_wp2
          go_meet
          case rel => exact ⟨none, _, _, HP1.out⟩
        · have u1 := run_cap1 w2 (cap % 1000001)
          have u2 := run_cap2 w2 (cap % 1000001) (1000000 - cap % 1000001)
          obtain ⟨hA, hF⟩ := HP1.out.capCell (cap % 1000001) (1000000 - cap % 1000001)
          have y0 : 0 ≤ cap % 1000001 := by omega
          have y1 : cap % 1000001 ≤ 1000000 := by omega
          have HP2 : Hid _ := HP1.out.withCap (Nat.le_of_lt HSZ1.out) (cap % 1000001) (1000000 - cap % 1000001) y0 y1 (by omega) (by omega) c1 c2
          go_wp2
          go_meet
          case rel => exact ⟨_, _, _, HP2.out⟩
      case rest =>
        obtain ⟨mc, lim, ld, hP⟩ := hcut
        clear HP1 HSZ1
        have HP1 : Hid _ := hP
        have HSZ1 : Hid (w.heap.size < wc.heap.size) := lt_of_heap hP.ann
        have HBW : Hid (Below w.heap.size w wc) := hP.below
        obtain ⟨w3, hw3⟩ : ∃ w3, w3 = wc := ⟨_, rfl⟩
        subst hw3
        clear hP c1 c2 p1 p2 t1 t2 m1 m2 x1 x2 s1 s2
        go_upto_if 86 with fail
        go_cut [28] (fun v wx => ∃ so km cl, v = .pointer (so.map fun sb => ⟨sb, 0, none⟩) ∧ SynAt wx so km cl ∧ Below w3.heap.size w3 wx)
        case first =>
          cases sa with
          | none =>
            go_wp2
            go_meet
            case rel => exact ⟨none, 0, [], rfl, ⟨fun sb e => (by cases e), fun _ => rfl⟩, Below.refl _ _⟩
          | some ad =>
            have HV0 : Hid (VInv w3 (w3.alloc (.map #[] 0)) w3.heap.size []) := ⟨heap_alloc_at w3 _, List.nodup_nil, (Below.refl _ w3).alloc (Nat.le_refl _) _⟩
            go_wp2
            go_loopg [30] ns (fun k i wr => ∃ (t : Nat) (cl : List (ByteArray × ByteArray)), t ≤ ns ∧ k = ns - t ∧ i = .int .i64 (t : Int) ∧ VInv w3 wr w3.heap.size cl)
            case atStart => exact ⟨0, [], Nat.zero_le _, rfl, rfl, HV0.out⟩
            case round =>
              clear HV0
              obtain ⟨t, cl, htn, hgk, rfl, hU⟩ := hrel
              have HU : Hid _ := hU
              have HGK : Hid (gk = ns - t) := hgk
              by_cases hti : t < ns
              · obtain ⟨sb, so, had, q2, q3⟩ := HS.out (by omega)
                cases had
                have hc0 := ((hU.below.cell (p := ⟨sb, so + t, none⟩) (Nat.lt_trans q2 HSZ1.out)).trans ((HBW.out.cell (p := ⟨sb, so + t, none⟩) q2).trans (q3 t hti)))
                obtain ⟨x, hx⟩ : ∃ x, sf t = x := ⟨_, rfl⟩
                have x0 := HSF.out t
                rw [hx] at hc0 x0
                obtain ⟨x1, x2⟩ := x0
                have HCODE : Hid (∀ W, Calls Yba.prog 10 _ W _) := fun W => code_any x W x1 x2
                by_cases hb : x / 5 % 2 = 1
                · have hup := run_cput hU.map (codeOf x) ⟨#[66]⟩
                  have HU' : Hid _ := hU.step (Nat.le_refl _) (codeOf x) ⟨#[66]⟩
                  clear hU hgk q3 hx
                  go_wp2_with (go_at_call 10; refine (HCODE.out _).mono ?_; rintro r w' ⟨rfl, rfl⟩)
                  go_roundg (ns - (t + 1))
                  case measure => have := HGK.out; omega
                  case rel => exact ⟨t + 1, _, by omega, rfl, by go_num, HU'.out⟩
                · have hup := run_cput hU.map (codeOf x) ⟨#[65]⟩
                  have HU' : Hid _ := hU.step (Nat.le_refl _) (codeOf x) ⟨#[65]⟩
                  clear hU hgk q3 hx
                  go_wp2_with (go_at_call 10; refine (HCODE.out _).mono ?_; rintro r w' ⟨rfl, rfl⟩)
                  go_roundg (ns - (t + 1))
                  case measure => have := HGK.out; omega
                  case rel => exact ⟨t + 1, _, by omega, rfl, by go_num, HU'.out⟩
              · have HSY : Hid (SynAt (wr.alloc (.cells #[.map (some w3.heap.size)] 51)) (some wr.heap.size) w3.heap.size cl) :=
                  ⟨fun sb e => by cases e; exact ⟨heap_alloc_at _ _, (heap_alloc_lt _ _ (lt_of_heap hU.map)).trans hU.map, hU.nd⟩, by simp⟩
                have HBB : Hid (Below w3.heap.size w3 (wr.alloc (.cells #[.map (some w3.heap.size)] 51))) := hU.below.alloc hU.below.size _
                clear hU hgk
                go_wp2
                go_meet
                case rel => exact ⟨some wr.heap.size, _, cl, rfl, HSY.out, HBB.out⟩
        case rest =>
          obtain ⟨so, km, cl, rfl, hSy, hB4⟩ := hcut
          obtain ⟨w4, hw4⟩ : ∃ w4, w4 = wc := ⟨_, rfl⟩
          subst hw4
          have HP4 : Hid _ := HP1.out.mono (Nat.le_of_lt HSZ1.out) hB4
          have HB4 : Hid (Below w.heap.size w w4) := HBW.out.trans (hB4.mono (Nat.le_of_lt HSZ1.out))
          have HSY : Hid _ := hSy
          clear hSy hB4 HP1 HSZ1 HBW HSF HS
          obtain ⟨sv, hsv⟩ : ∃ sv, (so.map fun sb => (⟨sb, 0, none⟩ : Addr)) = sv := ⟨_, rfl⟩
          have HSV : Hid ((so.map fun sb => (⟨sb, 0, none⟩ : Addr)) = sv) := hsv
          rw [hsv]
          clear hsv
          go_upto_region 27 with (go_at_call 11; refine (HBUILD.out _ HB4.out).mono ?_; rintro r w5 ⟨BB, LB, TB, m', ps, rfl, hBi⟩)
          have HBI : Hid _ := hBi
          have hP5 := HP4.out.mono HB4.out.size hBi.below
          have hSy5 := HSY.out.mono hBi.below
          have HANC : Hid ((Ann.cells ⟨obj, comp, rt, pt, bmin, bmax, ms, mc⟩).size = 16) := rfl
          have HENT : Hid (Calls Yba.prog 12 _ w5 _) := entry_any ⟨obj, comp, rt, pt, bmin, bmax, ms, mc⟩ so km cl lim ld sp sd w5 (fun W' h => hP5.span W' (Apart.ofBelow h)) (fun W' h => hP5.lim W' (Apart.ofBelow h)) hSy5.some hSy5.none
            obj mf lf af BB LB TB n m' m hBi.built hn (Nat.le_trans hBi.le hm) HLF.out ps hBi.time hBi.lt hBi.tlt
          have HNEW : Hid (∀ w6, Below w5.heap.size w5 w6 → Calls Yba.prog 13 _ w6 _) := fun w6 h6 => new_any ⟨obj, comp, rt, pt, bmin, bmax, ms, mc⟩ so km cl lim ld sp sd w6
            (fun W' h => hP5.span W' (Apart.ofBelow (h6.trans (h.mono h6.size)))) (fun W' h => hP5.lim W' (Apart.ofBelow (h6.trans (h.mono h6.size)))) (hSy5.mono h6).some hSy5.none
          have HAN : Hid (AnnAt w.heap.size (Ann.cells ⟨obj, comp, rt, pt, bmin, bmax, ms, mc⟩) w5) := hP5.ann
          have HB5 : Hid (Below w.heap.size w w5) := HB4.out.trans (hBi.below.mono HB4.out.size)
          have HM' : Hid (m' ≤ m) := hBi.le
          have HTICK : Hid _ := fun mm => cfg_tick ⟨obj, comp, rt, pt, bmin, bmax, ms, mc⟩ (so.map fun sb => ⟨sb, 0, none⟩) sp sd mm
          have HSTP : Hid (∀ mm, stp ((Ann.mk obj comp rt pt bmin bmax ms mc).cfg (so.map fun sb => ⟨sb, 0, none⟩) sp sd mm) = stp ((Ann.mk obj comp rt pt bmin bmax ms mc).cfg (so.map fun sb => ⟨sb, 0, none⟩) sp sd 0)) := fun mm => rfl
          have HS0L : Hid _ := S0_len cl lim ld
          rw [HSV.out] at HENT HNEW HTICK HSTP
          obtain ⟨A, hA⟩ : ∃ A, Ann.cells ⟨obj, comp, rt, pt, bmin, bmax, ms, mc⟩ = A := ⟨_, rfl⟩
          obtain ⟨cf, hcf⟩ : ∃ cf : Nat → Cfg, (fun mm => (Ann.mk obj comp rt pt bmin bmax ms mc).cfg sv sp sd mm) = cf := ⟨_, rfl⟩
          have hcf' : ∀ mm, (Ann.mk obj comp rt pt bmin bmax ms mc).cfg sv sp sd mm = cf mm := fun mm => by rw [← hcf]
          obtain ⟨Sx, hSx⟩ : ∃ Sx, (S0 cl fun k => M.init (lim k) ld) = Sx := ⟨_, rfl⟩
          simp only [hcf', hSx, hA] at HENT HNEW HTICK HSTP HS0L HAN HANC
          have hms : (m' : Int) ≤ 1024 := by have := HM'.out; omega
          clear hBi hP5 hSy5 HP4 HSY HB4 HBUILD hA hcf hcf' hSx HSV
          have mk1 := fun W => run_make (P := Yba.prog) W 61 4 Yba.t4 _ Yba.underlying61 info4' rfl .i64 .i64 (n : Int) (n : Int) (by omega) (by omega) (by show (1 : Int) * _ ≤ _; omega) (by omega)
          have mk2 := fun W => run_make (P := Yba.prog) W 57 62 Yba.t62 _ Yba.underlying57 info62 rfl .i64 .i64 (n : Int) (n : Int) (by omega) (by omega) (by show (16 : Int) * _ ≤ _; omega) (by omega)
          simp only [Int.toNat_natCast] at mk1 mk2
          obtain ⟨A1, hA1⟩ : ∃ A1, madeCells (Value.bool false).cells (n * 1) = A1 := ⟨_, rfl⟩
          have mk1' : ∀ w, (Instr.makeSlice 61 (.int .i64 (n : Int)) (.int .i64 (n : Int))).run Yba.prog w = .ok (.slice (some ⟨w.heap.size, 0, none⟩) n n) (w.alloc (.cells A1 4)) := fun w => by rw [← hA1]; exact mk1 w
          have HM1 : Hid (∀ W : World, RowAt (W.alloc (.cells A1 4)) W.heap.size 4 n (fun _ => .bool false)) := fun W => by rw [← hA1]; exact RowAt.made W 4 n _ rfl
          obtain ⟨A2, hA2⟩ : ∃ A2, madeCells (Value.string ⟨#[]⟩).cells (n * 1) = A2 := ⟨_, rfl⟩
          have mk2' : ∀ w, (Instr.makeSlice 57 (.int .i64 (n : Int)) (.int .i64 (n : Int))).run Yba.prog w = .ok (.slice (some ⟨w.heap.size, 0, none⟩) n n) (w.alloc (.cells A2 62)) := fun w => by rw [← hA2]; exact mk2 w
          have HM2 : Hid (∀ W : World, RowAt (W.alloc (.cells A2 62)) W.heap.size 62 n (fun _ => .string ⟨#[]⟩)) := fun W => by rw [← hA2]; exact RowAt.made W 62 n _ rfl
          clear mk1 mk2 hA1 hA2
          go_upto_region 30 with (first | (refine wpList_load45 rfl (.tmp 25) rfl rfl HAN.out HANC.out ?_) | (go_at_call 12; refine HENT.out.mono ?_; rintro r w6 ⟨rb, rfl, hrb, hrow, hB6⟩))
          have HROW : Hid (RowAt w6 rb 62 n _) := hrow
          have HB6 : Hid (Below w5.heap.size w5 w6) := hB6
          have HAN6 : Hid (AnnAt w.heap.size A w6) := (hB6.block _ (lt_of_heap HAN.out)).trans HAN.out
          clear hrow hB6 hrb HENT HAN
          go_upto_region 31 with (first | (refine wpList_load45 rfl (.tmp 25) rfl rfl HAN6.out HANC.out ?_) | (go_at_call 13; refine (HNEW.out w6 HB6.out).mono ?_; rintro r w7 ⟨cb, mm, tab, blk, ow, rfl, hRep, hB7⟩))
          obtain ⟨nm, hnm⟩ : ∃ nm : Nat → ByteArray, (fun i => codeOf (mf i)) = nm := ⟨_, rfl⟩
          obtain ⟨lv, hlv⟩ : ∃ lv : Nat → Int, (fun i => lvOf (lf i)) = lv := ⟨_, rfl⟩
          obtain ⟨rf, hrf⟩ : ∃ rf : Nat → Int, (fun i => if obj then 0 else lvOf (lf i)) = rf := ⟨_, rfl⟩
          obtain ⟨pf, hpf⟩ : ∃ pf : Nat → Int, (fun i => if obj then lvOf (lf i) else 0) = pf := ⟨_, rfl⟩
          obtain ⟨⟨CB, b1, b2, b3⟩, ⟨CL, d1, d2, d3⟩⟩ := HBI.out.built
          have HB3 : Hid (∀ i, i < n → ∀ j, j < 9 → CB[i * 9 + j]? = (bidCells (nm i) (rf i) (pf i) (af i))[j]?) := fun i hi j hj => by
            rw [← hnm, ← hrf, ← hpf]; exact b3 i hi j hj
          have HD3 : Hid (∀ i, i < n → CL[i]? = some (.int .i64 (lv i))) := fun i hi => by rw [← hlv]; exact d3 i hi
          have HLV : Hid (∀ i, 0 ≤ lv i) := fun i => by rw [← hlv]; show (0 : Int) ≤ lf i % 99999999999 + 1; have := HLF.out i; omega
          rw [hnm, hlv] at HROW
          obtain ⟨N, hN⟩ : ∃ N, w6.heap.size = N := ⟨_, rfl⟩
          have HN : Hid (w6.heap.size = N) := hN
          have HBBl : Hid (BB < N) := by rw [← hN]; exact Nat.lt_of_lt_of_le (lt_of_heap b1) HB6.out.size
          have HLBl : Hid (LB < N) := by rw [← hN]; exact Nat.lt_of_lt_of_le (lt_of_heap d1) HB6.out.size
          have HTBl : Hid (TB < N) := by rw [← hN]; exact Nat.lt_of_lt_of_le HBI.out.tlt HB6.out.size
          have HRBl : Hid (rb < N) := by rw [← hN]; exact HROW.out.lt
          have HCB : Hid (HB BB CB LB CL w6) := ⟨(HB6.out.block _ (lt_of_heap b1)).trans b1, (HB6.out.block _ (lt_of_heap d1)).trans d1⟩
          have HTC : Hid (∀ j, j < m' → w6.cell? ⟨TB, j, none⟩ = some (.int .i64 ((ps j : Nat) : Int))) := fun j hj => (HB6.out.cell (p := ⟨TB, j, none⟩) HBI.out.tlt).trans (HBI.out.time j hj)
          have HPN : Hid (∀ j, j < m' → ps j < n) := HBI.out.lt
          have HBW6 : Hid (Below w.heap.size w w6) := HB5.out.trans (HB6.out.mono HB5.out.size)
          rw [hN] at hRep hB7
          obtain ⟨WB, hWB⟩ : ∃ WB, w7.heap.size = WB := ⟨_, rfl⟩
          obtain ⟨QB, hQB⟩ : ∃ QB, WB + 1 = QB := ⟨_, rfl⟩
          have h7s := hB7.size
          have HWB : Hid (N ≤ WB) := by show _ ≤ _; omega
          have HQB : Hid (N ≤ QB) := by show _ ≤ _; omega
          have HST0 : Hid (St3 N w6 ((w7.alloc (.cells A2 62)).alloc (.cells A1 4)) cb WB QB n (cf mm) tab blk ow (steps (cf mm) nm lv af Sx ((List.range 0).map ps)) (fun i => decide (i ∈ (List.range 0).map ps))) := by
            refine ⟨(hRep.transfer (fun k hk _ => heap_alloc_lt _ _ hk)).transfer (fun k hk _ => heap_alloc_lt _ _ hk), ?_, ?_, (hB7.alloc (by omega) _).alloc (by simp; omega) _⟩
            · rw [← hWB]
              exact (HM2.out w7).kept (heap_alloc_lt _ _ (by simp))
            · have e : (w7.alloc (.cells A2 62)).heap.size = QB := by simp; omega
              rw [← e]
              exact (HM1.out (w7.alloc (.cells A2 62))).congr (fun k _ => by simp)
          clear hnm hlv hrf hpf b1 b2 b3 d1 d2 d3 hN h7s hRep hB7 HM1 HM2 HB6 HBI HB5 HNEW HAN6 HANC HLF
          go_wp2
          clear hWB hQB
          go_loopg [40] m' (fun k i wx => ∃ (j : Nat) (tab : List (ByteArray × Value)) (blk : ByteArray → Nat) (ow : ByteArray → Option Nat), j ≤ m' ∧ k = m' - j ∧ i = .int .i64 (j : Int) ∧
            St3 N w6 wx cb WB QB n (cf mm) tab blk ow (steps (cf mm) nm lv af Sx ((List.range j).map ps)) (fun i => decide (i ∈ (List.range j).map ps)))
          case atStart => exact ⟨0, tab, blk, ow, Nat.zero_le _, rfl, rfl, HST0.out⟩
          case round =>
            clear HST0
            obtain ⟨j, tab, blk, ow, hjm, hgk2, rfl, hM⟩ := hrel
            have HM : Hid _ := hM
            have HGK2 : Hid (gk = m' - j) := hgk2
            by_cases hj : j < m'
            · have hti := HPN.out j hj
              have htc : wr.cell? ⟨TB, j, none⟩ = some (.int .i64 ((ps j : Nat) : Int)) := (hM.below.cell (p := ⟨TB, j, none⟩) HTBl.out).trans (HTC.out j hj)
              have HSX : Hid (HB BB CB LB CL wr) := ⟨(hM.below.block BB HBBl.out).trans HCB.out.1, (hM.below.block LB HLBl.out).trans HCB.out.2⟩
              have HMEM : Hid (Calls Yba.prog 15 _ wr.drew _) := member_rep (hM.rep.transfer (w' := wr.drew) (fun _ _ _ => rfl)) (nm (ps j))
              have HLEN : Hid (((steps (cf mm) nm lv af Sx ((List.range j).map ps)).1 (nm (ps j))).ls.length ≤ 100000) := Nat.le_trans (steps_len _ _ _ _ _ HS0L.out _ _) (by simp; omega)
              have HRG : Hid (∀ W, HB BB CB LB CL W → W.rangeAt BB (ps j * 9) (bidCells (nm (ps j)) (rf (ps j)) (pf (ps j)) (af (ps j))).toList) := fun W hW q v hv => by
                have hq : q < 9 := (List.getElem?_eq_some_iff.1 hv).1
                rw [cell_of hW.1, HB3.out _ hti q hq]
                simpa using hv
              have HNC : Hid (∀ W, HB BB CB LB CL W → W.cell? ⟨BB, ps j * 9, none⟩ = some (.string (nm (ps j)))) := fun W hW => HRG.out W hW 0 _ rfl
              have HL1 : Hid (∀ W, HB BB CB LB CL W → W.cell? ⟨LB, ps j * 1, none⟩ = some (.int .i64 (lv (ps j)))) := fun W hW => by
                rw [Nat.mul_one, cell_of hW.2]; exact HD3.out _ hti
              clear hM hgk2
              go_upto_region 37 with fail
              clear htc
              refine wp_region_held_drew (S := HB BB CB LB CL) (by kernel_rfl) HSX.out (fun hHeld => ?_)
              refine wpAnyH_take (i := 0) (v := .slice (some ⟨WB, 0, none⟩) n n) rfl (by kernel_rfl) (by kernel_rfl) (by kernel_rfl) (fun _ _ _ h => h) (Or.inl ⟨by rfl, fun W hW => by rfl⟩) hHeld ?_
              simp only [List.getElem_toArray, List.getElem_cons_zero, Act.put, List.setIfInBounds_toArray, List.set_cons_zero, List.set_cons_succ]
              refine wpAnyH_take (i := 1) (v := .int .i64 ((ps j : Nat) : Int)) rfl (by kernel_rfl) (by kernel_rfl) (by kernel_rfl) (fun _ _ _ h => h) (Or.inl ⟨by rfl, fun W hW => by rfl⟩) hHeld ?_
              simp only [List.getElem_toArray, List.getElem_cons_zero, List.getElem_cons_succ, Act.put, List.setIfInBounds_toArray, List.set_cons_zero, List.set_cons_succ]
              refine wpAnyH_take (i := 2) (v := .pointer (some ⟨cb, 0, none⟩)) rfl (by kernel_rfl) (by kernel_rfl) (by kernel_rfl) (fun _ _ _ h => h) (Or.inl ⟨by rfl, fun W hW => by rfl⟩) hHeld ?_
              simp only [List.getElem_toArray, List.getElem_cons_zero, List.getElem_cons_succ, Act.put, List.setIfInBounds_toArray, List.set_cons_zero, List.set_cons_succ]
              refine wpAnyH_take (i := 3) (v := .slice (some ⟨BB, 0, none⟩) n n) rfl (by kernel_rfl) (by kernel_rfl) (by kernel_rfl) (fun _ _ _ h => h) (Or.inl ⟨by rfl, fun W hW => by rfl⟩) hHeld ?_
              simp only [List.getElem_toArray, List.getElem_cons_zero, List.getElem_cons_succ, Act.put, List.setIfInBounds_toArray, List.set_cons_zero, List.set_cons_succ]
              refine wpAnyH_take (i := 4) (v := .int .i64 ((ps j : Nat) : Int)) rfl (by kernel_rfl) (by kernel_rfl) (by kernel_rfl) (fun _ _ _ h => h) (Or.inl ⟨by rfl, fun W hW => by rfl⟩) hHeld ?_
              simp only [List.getElem_toArray, List.getElem_cons_zero, List.getElem_cons_succ, Act.put, List.setIfInBounds_toArray, List.set_cons_zero, List.set_cons_succ]
              refine wpAnyH_take (i := 5) (v := .pointer (some ⟨BB, ps j * 9, none⟩)) rfl (by kernel_rfl) (by kernel_rfl) (by kernel_rfl) (fun _ _ _ h => h) (yi_index (by rfl) 52 (.tmp 151) (.tmp 152) rfl rfl rfl hti Yba.underlying52 size68) hHeld ?_
              simp only [List.getElem_toArray, List.getElem_cons_zero, List.getElem_cons_succ, Act.put, List.setIfInBounds_toArray, List.set_cons_zero, List.set_cons_succ]
              refine wpAnyH_take (i := 6) (v := .agg (bidCells (nm (ps j)) (rf (ps j)) (pf (ps j)) (af (ps j)))) rfl (by kernel_rfl) (by kernel_rfl) (by kernel_rfl) (fun _ _ _ h => h) (by exact yieldsIf_load_mid (by rfl) 68 (.tmp 153) rfl BB (ps j * 9) rfl (bidCells (nm (ps j)) (rf (ps j)) (pf (ps j)) (af (ps j))).toList _ HRG.out Yba.underlying68 rfl size68) hHeld ?_
              simp only [List.getElem_toArray, List.getElem_cons_zero, List.getElem_cons_succ, Act.put, List.setIfInBounds_toArray, List.set_cons_zero, List.set_cons_succ]
              refine wpAnyH_take (i := 7) (v := .slice (some ⟨LB, 0, none⟩) n n) rfl (by kernel_rfl) (by kernel_rfl) (by kernel_rfl) (fun _ _ _ h => h) (Or.inl ⟨by rfl, fun W hW => by rfl⟩) hHeld ?_
              simp only [List.getElem_toArray, List.getElem_cons_zero, List.getElem_cons_succ, Act.put, List.setIfInBounds_toArray, List.set_cons_zero, List.set_cons_succ]
              refine wpAnyH_take (i := 8) (v := .int .i64 ((ps j : Nat) : Int)) rfl (by kernel_rfl) (by kernel_rfl) (by kernel_rfl) (fun _ _ _ h => h) (Or.inl ⟨by rfl, fun W hW => by rfl⟩) hHeld ?_
              simp only [List.getElem_toArray, List.getElem_cons_zero, List.getElem_cons_succ, Act.put, List.setIfInBounds_toArray, List.set_cons_zero, List.set_cons_succ]
              refine wpAnyH_take (i := 9) (v := .pointer (some ⟨LB, ps j * 1, none⟩)) rfl (by kernel_rfl) (by kernel_rfl) (by kernel_rfl) (fun _ _ _ h => h) (yi_index (by rfl) 53 (.tmp 155) (.tmp 156) rfl rfl rfl hti Yba.underlying53 size69) hHeld ?_
              simp only [List.getElem_toArray, List.getElem_cons_zero, List.getElem_cons_succ, Act.put, List.setIfInBounds_toArray, List.set_cons_zero, List.set_cons_succ]
              refine wpAnyH_take (i := 10) (v := .int .i64 (lv (ps j))) rfl (by kernel_rfl) (by kernel_rfl) (by kernel_rfl) (fun _ _ _ h => h) (yi_load (by rfl) 69 (.tmp 157) rfl rfl HL1.out Yba.underlying69 rfl) hHeld ?_
              simp only [List.getElem_toArray, List.getElem_cons_zero, List.getElem_cons_succ, Act.put, List.setIfInBounds_toArray, List.set_cons_zero, List.set_cons_succ]
              refine wpAnyH_take (i := 11) (v := .pointer (some ⟨cb, 0, none⟩)) rfl (by kernel_rfl) (by kernel_rfl) (by kernel_rfl) (fun _ _ _ h => h) (Or.inl ⟨by rfl, fun W hW => by rfl⟩) hHeld ?_
              simp only [List.getElem_toArray, List.getElem_cons_zero, List.getElem_cons_succ, Act.put, List.setIfInBounds_toArray, List.set_cons_zero, List.set_cons_succ]
              refine wpAnyH_take (i := 12) (v := .slice (some ⟨BB, 0, none⟩) n n) rfl (by kernel_rfl) (by kernel_rfl) (by kernel_rfl) (fun _ _ _ h => h) (Or.inl ⟨by rfl, fun W hW => by rfl⟩) hHeld ?_
              simp only [List.getElem_toArray, List.getElem_cons_zero, List.getElem_cons_succ, Act.put, List.setIfInBounds_toArray, List.set_cons_zero, List.set_cons_succ]
              refine wpAnyH_take (i := 13) (v := .int .i64 ((ps j : Nat) : Int)) rfl (by kernel_rfl) (by kernel_rfl) (by kernel_rfl) (fun _ _ _ h => h) (Or.inl ⟨by rfl, fun W hW => by rfl⟩) hHeld ?_
              simp only [List.getElem_toArray, List.getElem_cons_zero, List.getElem_cons_succ, Act.put, List.setIfInBounds_toArray, List.set_cons_zero, List.set_cons_succ]
              refine wpAnyH_take (i := 14) (v := .pointer (some ⟨BB, ps j * 9, none⟩)) rfl (by kernel_rfl) (by kernel_rfl) (by kernel_rfl) (fun _ _ _ h => h) (yi_index (by rfl) 52 (.tmp 160) (.tmp 161) rfl rfl rfl hti Yba.underlying52 size68) hHeld ?_
              simp only [List.getElem_toArray, List.getElem_cons_zero, List.getElem_cons_succ, Act.put, List.setIfInBounds_toArray, List.set_cons_zero, List.set_cons_succ]
              refine wpAnyH_take (i := 15) (v := .pointer (some ⟨BB, ps j * 9, none⟩)) rfl (by kernel_rfl) (by kernel_rfl) (by kernel_rfl) (fun _ _ _ h => h) (yi_field68 (by rfl) 0 (.tmp 162) rfl rfl (fun W => by go_simp)) hHeld ?_
              simp only [List.getElem_toArray, List.getElem_cons_zero, List.getElem_cons_succ, Act.put, List.setIfInBounds_toArray, List.set_cons_zero, List.set_cons_succ]
              refine wpAnyH_take (i := 16) (v := .string (nm (ps j))) rfl (by kernel_rfl) (by kernel_rfl) (by kernel_rfl) (fun _ _ _ h => h) (yi_load (by rfl) 9 (.tmp 163) rfl rfl HNC.out Yba.underlying9 rfl) hHeld ?_
              simp only [List.getElem_toArray, List.getElem_cons_zero, List.getElem_cons_succ, Act.put, List.setIfInBounds_toArray, List.set_cons_zero, List.set_cons_succ]
              refine wpAnyH_ready (rs := [17]) (by kernel_rfl) (by simp) ?_
              refine AllReadyH.cons rfl (fun K hK => ?_) AllReadyH.nil
              go_simp
              go_wp2_with (go_at_call 15; refine HMEM.out.mono ?_; rintro r w8 ⟨tab', blk', ow', rfl, R', hl, hold, hKe⟩)
              have hM8 := HM.out.member HN.out HSX.out R' hl hKe
              have HM8 : Hid _ := hM8
              obtain ⟨v8, hv8⟩ := hl
              have HCHK : Hid (Calls Yba.prog 14 _ w8 _) := check_rep hM8.st.rep (nm (ps j)) hv8 (HTICK.out mm) (nm (ps j)) (rf (ps j)) (pf (ps j)) (af (ps j)) (lv (ps j)) (HLV.out _) HLEN.out
              refine hK.out _ _ hM8.hs (fun h2 => ?_)
              clear hK K R' hold hKe hM8 hv8
              refine wpAnyH_ready (rs := [18]) (by kernel_rfl) (by simp) ?_
              refine AllReadyH.cons rfl (fun K hK => ?_) AllReadyH.nil
              go_simp
              go_wp2_with (go_at_call 14; refine HCHK.out.mono ?_; rintro r w9 ⟨rfl, ow9, R9, hK9⟩)
              obtain ⟨hs1, hs2, ⟨cv, hcv⟩, hfz, hM9⟩ := HM8.out.check HN.out HBBl.out HLBl.out HWB.out hti lv af R9 hK9
              refine hK.out _ _ hs1 (fun h3 => ?_)
              clear hK K
              refine wpAnyH_take (i := 19) (v := .pointer (some ⟨WB, ps j * 1, none⟩)) rfl (by kernel_rfl) (by kernel_rfl) (by kernel_rfl) (fun _ _ _ h => h) (yi_index (by rfl) 57 (.tmp 148) (.tmp 149) rfl rfl rfl hti Yba.underlying57 size62) h3 ?_
              simp only [List.getElem_toArray, List.getElem_cons_zero, List.getElem_cons_succ, Act.put, List.setIfInBounds_toArray, List.set_cons_zero, List.set_cons_succ]
              refine wpAnyH_ready (rs := [20]) (by kernel_rfl) (by simp) ?_
              refine AllReadyH.cons rfl (fun K hK => ?_) AllReadyH.nil
              go_simp
              refine hK.out _ _ hs2 (fun h4 => ?_)
              clear hK K
              refine wpAnyH_done (by kernel_rfl) ?_ _
              obtain ⟨⟨cq, hcq⟩, hfq, hM10⟩ := hM9.mark (g' := fun i => decide (i ∈ (List.range (j + 1)).map ps)) HQB.out hti (fun k => by
                rw [List.range_succ, List.map_append, List.map_singleton]
                by_cases e : k = ps j
                · simp [e]
                · simp [e])
              have HM10 : Hid _ := hM10
              clear hM9 hM10 hs1 hs2 hcv hfz R9 hK9 h2 h3 h4 hHeld HCHK HM8 HMEM HRG HNC HL1 HSX
              go_wp2
              go_roundg (m' - (j + 1))
              case measure => have := HGK2.out; omega
              case rel =>
                refine ⟨j + 1, tab', blk', ow9, by omega, rfl, by go_num, ?_⟩
                have h10 := HM10.out
                rw [← steps_snoc] at h10
                rw [List.range_succ, List.map_append, List.map_singleton] at h10 ⊢
                exact h10
            · have hje : j = m' := by omega
              rw [hje] at hM
              have HSEEN : Hid (RowAt wr QB 4 n (fun i => .bool (decide (i ∈ (List.range m').map ps)))) := hM.seen
              obtain ⟨f, hf⟩ : ∃ f, (steps (cf 0) nm lv af Sx ((List.range m').map ps)).2 = f := ⟨_, rfl⟩
              have HWANT : Hid (RowAt wr WB 62 n (fun k => .string (f k))) := by
                have h1 := hM.want
                rw [← hf]
                unfold steps at h1 ⊢
                rw [HSTP.out mm] at h1
                exact h1
              rw [hf] at HROW
              have HGOT : Hid (RowAt wr rb 62 n (fun k => .string (f k))) := HROW.out.kept (hM.below.block _ HRBl.out)
              have HF1 : Hid (∀ i, i ∉ (List.range m').map ps → f i = ⟨#[]⟩) := fun i hi => by rw [← hf]; exact steps_unseen _ _ _ _ _ i _ hi
              have HBE : Hid (Below w.heap.size w wr) := HBW6.out.trans (hM.below.mono (by rw [← HN.out]; exact HBW6.out.size))
              clear hM hgk2 hje HM HGK2 hf
              obtain ⟨wq, hwq⟩ : ∃ wq, wq = wr := ⟨_, rfl⟩
              subst hwq
              go_wp2
              go_loopg [42] n (fun k i wx => ∃ (i' nq : Nat), i' ≤ n ∧ k = n - i' ∧ i = .int .i64 (i' : Int) ∧ wx = wq.drewN nq)
              case atStart => exact ⟨0, 0, Nat.zero_le _, rfl, rfl, rfl⟩
              case round =>
                obtain ⟨i, nq0, hin, hgk3, rfl, hwr⟩ := hrel
                subst hwr
                have HGK3 : Hid (gk = n - i) := hgk3
                clear hgk3
                by_cases hi : i < n
                · have hsc := HSEEN.out.cell hi
                  have hgc := HGOT.out.cell hi
                  have hwc := HWANT.out.cell hi
                  by_cases hs : i ∈ (List.range m').map ps
                  · have hd : decide (i ∈ (List.range m').map ps) = true := by simp [hs]
                    rw [hd] at hsc
                    clear hs hd
                    go_wp2_with fail
                    go_quiet (fail)
                    go_wp2
                    go_roundg (n - (i + 1))
                    case measure => have := HGK3.out; omega
                    case rel => exact ⟨i + 1, _, by omega, rfl, by go_num, rfl⟩
                  · have hd : decide (i ∈ (List.range m').map ps) = false := by simp [hs]
                    rw [hd] at hsc
                    rw [HF1.out i hs] at hgc hwc
                    clear hs hd
                    go_wp2_with fail
                    go_quiet (fail)
                    go_wp2
                    go_roundg (n - (i + 1))
                    case measure => have := HGK3.out; omega
                    case rel => exact ⟨i + 1, _, by omega, rfl, by go_num, rfl⟩
                · go_wp2
                  go_ret
                  exact ⟨rfl, HBE.out.trans ⟨rfl, rfl, rfl, Nat.le_refl _, fun _ _ => rfl⟩⟩

end Go.Proofs.Ybulkboty
