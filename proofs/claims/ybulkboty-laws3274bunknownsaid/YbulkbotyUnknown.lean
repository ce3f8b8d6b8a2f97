/-
  LawS3274BUnknown: the walk. Of this seat's own.
-/
import Derived.Test.YbulkbotyPrep
import Derived.Deep.DeepCutAuto
namespace Go.Proofs.Ybulkboty
open Go.RowKit Go.ChangeMaps

/-- In the loop over the syndicate. -/
structure UInv (w W : World) (km gb : Nat) (cl : List (ByteArray × ByteArray)) (lb : Nat → Bool) : Prop where
  map : W.heap[km]? = some (clsObj cl)
  nd : (cl.map (·.1)).Nodup
  lst : RowAt W gb 73 5 (fun k => .bool (lb k))
  out : ∀ x : Int, lb (x % 5).toNat = false → clsLook (codeOf x) cl = none
  below : Below w.heap.size w W

theorem UInv.step {w W : World} {km gb : Nat} {cl : List (ByteArray × ByteArray)} {lb : Nat → Bool} (h : UInv w W km gb cl lb) (hk : w.heap.size ≤ km) (hg : w.heap.size ≤ gb) {kk : Nat} (h5 : kk < 5) {x : Int} (hx : x % 5 = kk) (v : ByteArray) :
    (∃ u, (setBlock W km (clsObj (cput (codeOf x) v cl))).cell? ⟨gb, kk, none⟩ = some u) ∧ (setBlock W km (clsObj (cput (codeOf x) v cl))).frozen? ⟨gb, kk, none⟩ = false ∧
      UInv w ((setBlock W km (clsObj (cput (codeOf x) v cl))).setCell ⟨gb, kk, none⟩ (.bool true)) km gb (cput (codeOf x) v cl) (fun k => if k = kk then true else lb k) := by
  have hne : gb ≠ km := by
    rintro rfl
    obtain ⟨c, h1, _⟩ := h.lst
    rw [h.map] at h1
    cases h1
  have hr : RowAt (setBlock W km (clsObj (cput (codeOf x) v cl))) gb 73 5 (fun k => .bool (lb k)) := h.lst.kept (heap_block_other hne)
  refine ⟨⟨_, hr.cell h5⟩, hr.thawed kk, ⟨?_, cput_nodup _ _ h.nd, ?_, ?_, ?_⟩⟩
  · rw [heap_set_other _ (Ne.symm hne)]
    exact heap_block_at h.map
  · refine (hr.set h5 _).congr (fun k _ => ?_)
    split <;> rfl
  · intro y hy
    rw [clsLook_cput]
    split at hy
    · cases hy
    · rename_i hne
      have : ¬ codeOf x = codeOf y := fun e => hne (by have := codeOf_inj e; omega)
      rw [if_neg this]
      exact h.out y hy
  · refine ⟨h.below.os, h.below.tape, h.below.output, ?_, fun k hk2 => ?_⟩
    · have := h.below.size
      simpa [ChangeMaps.setBlock] using this
    · rw [heap_set_other _ (by omega), heap_block_other (by omega)]
      exact h.below.block k hk2

theorem UInv.start (w : World) : UInv w ((w.alloc (.map #[] 0)).alloc (.cells #[.bool false, .bool false, .bool false, .bool false, .bool false] 73)) w.heap.size (w.heap.size + 1) [] (fun _ => false) := by
  refine ⟨(heap_alloc_lt _ _ (by simp)).trans (heap_alloc_at w _), List.nodup_nil, ⟨#[.bool false, .bool false, .bool false, .bool false, .bool false], ?_, rfl, fun k hk => ?_⟩, fun _ _ => rfl, ((Below.refl _ w).alloc (Nat.le_refl _) _).alloc (by simp) _⟩
  · have := heap_alloc_at (w.alloc (.map #[] 0)) (.cells #[.bool false, .bool false, .bool false, .bool false, .bool false] 73)
    rwa [World.size_alloc] at this
  · have : k = 0 ∨ k = 1 ∨ k = 2 ∨ k = 3 ∨ k = 4 := by omega
    rcases this with rfl | rfl | rfl | rfl | rfl <;> rfl

theorem info4 : Yba.prog.info? 4 = some Yba.t4 := by kernel_rfl

set_option maxRecDepth 100000 in
set_option maxHeartbeats 4000000 in
theorem unknown_main (sa ra ta : Option Addr) (ns sc n rc m tc : Nat) (sf mf lf af tf : Nat → Int) (comp cap : Int) (hc : Bool) (w : World) (hn : n ≤ 300) (hm : m ≤ 1024) (hns : ns ≤ 300)
    (hsf : ∀ i, 0 ≤ sf i ∧ sf i ≤ 255) (hmf : ∀ i, 0 ≤ mf i ∧ mf i ≤ 255) (hlf : ∀ i, 0 ≤ lf i ∧ lf i ≤ 4294967295) (haf : ∀ i, -2147483648 ≤ af i ∧ af i ≤ 2147483647) (htf : ∀ i, 0 ≤ tf i ∧ tf i ≤ 255)
    (hcomp : -2147483648 ≤ comp ∧ comp ≤ 2147483647) (hcap : 0 ≤ cap ∧ cap ≤ 4294967295) (hS : ArgU8 w sa ns sf) (hR : ArgRaw w ra n mf lf af) (hT : ArgU8 w ta m tf) :
    Calls Yba.prog 7 #[.slice sa ns sc, .slice ra n rc, .slice ta m tc, .int .i32 comp, .int .u32 cap, .bool hc] w fun r w' => r = .returned (.bool true) ∧ Below w.heap.size w w' := by
  have HSF : Hid _ := hsf
  have HMF : Hid _ := hmf
  have HBUILD : Hid (∀ W, Below w.heap.size w W → Calls Yba.prog 11 _ W _) := fun W hW => build_all false n rc m tc ra ta mf lf af tf W hn hm hmf hlf haf htf (hR.mono (Nat.le_refl _) hW) (hT.mono (Nat.le_refl _) hW)
  have HLF : Hid (∀ i, 0 ≤ lf i) := fun i => (hlf i).1
  have HS : Hid (ArgU8 w sa ns sf) := hS
  have HR : Hid (ArgRaw w ra n mf lf af) := hR
  obtain ⟨c1, c2⟩ := hcomp
  obtain ⟨p1, p2⟩ := hcap
  have hmm := @run_makeMap Yba.prog
  clear hsf hmf hlf haf htf hS hR hT
  go_enter Yba.func7, Yba.ntmps7
  go_upto_if 44 with fail
  go_cut [] (fun wx => ∃ mc lim ld, Prep w.heap.size w wx w.heap.size ⟨false, comp, 0, 0, 0, 0, none, mc⟩ lim ld 0 false)
  case first =>
    have HP0 : Hid (Prep w.heap.size w (w.alloc (.cells (Ann.cells ⟨false, comp, 0, 0, 0, 0, none, none⟩) 45)) w.heap.size ⟨false, comp, 0, 0, 0, 0, none, none⟩ (fun _ => 0) false 0 false) :=
      Prep.start (heap_alloc_at w _) rfl rfl ((Below.refl _ w).alloc (Nat.le_refl _) _) (Nat.le_refl _)
    cases hc
    · go_wp2
      go_meet
      case rel => exact ⟨none, _, _, HP0.out⟩
    · obtain ⟨wa, hwa⟩ : ∃ wa, w.alloc (.cells (Ann.cells ⟨false, comp, 0, 0, 0, 0, none, none⟩) 45) = wa := ⟨_, rfl⟩
      have hsz : wa.heap.size = w.heap.size + 1 := by rw [← hwa]; simp
      rw [hwa] at HP0
      obtain ⟨hA, hF⟩ := HP0.out.capCell (cap % 1000001) (cap % 1000001)
      have u1 := run_cap1 wa (cap % 1000001)
      have u2 := run_cap2 wa (cap % 1000001) (cap % 1000001)
      have x0 : 0 ≤ cap % 1000001 := by omega
      have x1 : cap % 1000001 ≤ 1000000 := by omega
      have HP1 : Hid _ := HP0.out.withCap (by omega) (cap % 1000001) (cap % 1000001) x0 x1 x0 x1 c1 c2
      change Code.wp _ _ _ _ (w.alloc (.cells (Ann.cells ⟨false, comp, 0, 0, 0, 0, none, none⟩) 45))
      rw [hwa]
      clear hwa
      rw [hsz] at u1 u2 HP1 hA hF
      go_wp2
      go_meet
      case rel => exact ⟨_, _, _, HP1.out⟩
  case rest =>
    obtain ⟨mc, lim, ld, hP⟩ := hcut
    have HP : Hid _ := hP
    have HBW : Hid (Below w.heap.size w wc) := hP.below
    have HU0 : Hid _ := UInv.start wc
    have HSZ : Hid (w.heap.size < wc.heap.size) := lt_of_heap hP.ann
    clear hP c1 c2 p1 p2
    go_wp2
    go_loopg [17] ns (fun k i wr => ∃ (t : Nat) (cl : List (ByteArray × ByteArray)) (lb : Nat → Bool), t ≤ ns ∧ k = ns - t ∧ i = .int .i64 (t : Int) ∧ UInv wc wr wc.heap.size (wc.heap.size + 1) cl lb)
    case atStart => exact ⟨0, [], _, Nat.zero_le _, rfl, rfl, HU0.out⟩
    case round =>
      clear HU0
      obtain ⟨t, cl, lb, htn, hgk, rfl, hU⟩ := hrel
      have HU : Hid _ := hU
      have HGK : Hid (gk = ns - t) := hgk
      by_cases hti : t < ns
      · obtain ⟨sb, so, rfl, s2, s3⟩ := HS.out (by omega)
        have hc0 := ((hU.below.cell (p := ⟨sb, so + t, none⟩) (Nat.lt_trans s2 HSZ.out)).trans ((HBW.out.cell (p := ⟨sb, so + t, none⟩) s2).trans (s3 t hti)))
        obtain ⟨x, hx⟩ : ∃ x, sf t = x := ⟨_, rfl⟩
        have x0 := HSF.out t
        rw [hx] at hc0 x0
        obtain ⟨x1, x2⟩ := x0
        obtain ⟨kk, hkk⟩ : ∃ kk : Nat, x % 3 = (kk : Int) := ⟨(x % 3).toNat, by omega⟩
        have hk3 : kk < 3 := by omega
        have HCODE : Hid (∀ W, Calls Yba.prog 10 _ W _) := fun W => code_any (kk : Int) W (by omega) (by omega)
        have hup := run_cput hU.map (codeOf (kk : Int)) ⟨#[65]⟩
        obtain ⟨⟨cv, hcv⟩, hfz, hU'⟩ := hU.step (Nat.le_refl _) (by omega) (kk := kk) (x := (kk : Int)) (by omega) (by omega) ⟨#[65]⟩
        have HU' : Hid _ := hU'
        clear hU hU' hgk s3 hx
        go_wp2_with (go_at_call 10; refine (HCODE.out _).mono ?_; rintro r w' ⟨rfl, rfl⟩)
        go_roundg (ns - (t + 1))
        case measure => have := HGK.out; omega
        case rel => exact ⟨t + 1, _, _, by omega, rfl, by go_num, HU'.out⟩
      · have hB5 : Below wc.heap.size wc (wr.alloc (.cells #[.map (some wc.heap.size)] 51)) := hU.below.alloc hU.below.size _
        have HB5 : Hid (Below w.heap.size w (wr.alloc (.cells #[.map (some wc.heap.size)] 51))) := HBW.out.trans (hB5.mono (Nat.le_of_lt HSZ.out))
        have HP5 : Hid _ := HP.out.mono (Nat.le_of_lt HSZ.out) hB5
        have HSYN : Hid (SynAt (wr.alloc (.cells #[.map (some wc.heap.size)] 51)) (some wr.heap.size) wc.heap.size cl) :=
          ⟨fun sb e => by cases e; exact ⟨heap_alloc_at _ _, (heap_alloc_lt _ _ (lt_of_heap hU.map)).trans hU.map, hU.nd⟩, by simp⟩
        have HLST : Hid (RowAt (wr.alloc (.cells #[.map (some wc.heap.size)] 51)) (wc.heap.size + 1) 73 5 (fun k => .bool (lb k))) := hU.lst.kept (heap_alloc_lt _ _ hU.lst.lt)
        have HOUT : Hid (∀ x : Int, lb (x % 5).toNat = false → clsLook (codeOf x) cl = none) := hU.out
        obtain ⟨sb, hsb⟩ : ∃ sb, wr.heap.size = sb := ⟨_, rfl⟩
        obtain ⟨gb, hgb⟩ : ∃ gb, wc.heap.size + 1 = gb := ⟨_, rfl⟩
        obtain ⟨km, hkm⟩ : ∃ km, wc.heap.size = km := ⟨_, rfl⟩
        rw [hgb] at HLST
        rw [hsb] at HSYN
        rw [hkm] at HB5 HP5 HSYN HLST
        clear hU HU hgk HGK HP hB5
        go_upto_region 15 with fail
        rw [hgb, hkm]
        obtain ⟨wv, hwv⟩ : ∃ wv, wv = wr := ⟨_, rfl⟩
        subst hwv
        go_upto_region 16 with fail
        obtain ⟨W5, hW5⟩ : ∃ W5, wv.alloc (.cells #[.map (some km)] 51) = W5 := ⟨_, rfl⟩
        rw [hW5] at HB5 HP5 HSYN HLST ⊢
        clear hW5 hsb hkm hgb HBW HSZ
        go_upto_region 18 with (go_at_call 11; refine (HBUILD.out _ HB5.out).mono ?_; rintro r w6 ⟨BB, LB, TB, m', ps, rfl, hBi⟩)
        have HBI : Hid _ := hBi
        have hP6 := HP5.out.mono HB5.out.size hBi.below
        have hSy6 := HSYN.out.mono hBi.below
        have HAN : Hid (AnnAt w.heap.size (Ann.cells ⟨false, comp, 0, 0, 0, 0, none, mc⟩) w6 ∧ (Ann.cells ⟨false, comp, 0, 0, 0, 0, none, mc⟩).size = 16) := ⟨hP6.ann, rfl⟩
        have HENT : Hid (Calls Yba.prog 12 _ w6 _) := entry_any ⟨false, comp, 0, 0, 0, 0, none, mc⟩ (some sb) km cl lim ld 0 false w6 (fun W' h => hP6.span W' (Apart.ofBelow h)) (fun W' h => hP6.lim W' (Apart.ofBelow h)) hSy6.some hSy6.none
          false mf lf af BB LB TB n m' m hBi.built hn (Nat.le_trans hBi.le hm) HLF.out ps hBi.time hBi.lt hBi.tlt
        have HLST6 : Hid (RowAt w6 gb 73 5 (fun k => .bool (lb k))) := HLST.out.kept (hBi.below.block gb HLST.out.lt)
        have HB6 : Hid (Below w.heap.size w w6) := HB5.out.trans (hBi.below.mono HB5.out.size)
        have HM' : Hid (m' ≤ m) := hBi.le
        obtain ⟨f, hf⟩ : ∃ f, (steps ((Ann.mk false comp 0 0 0 0 none mc).cfg (Option.map (fun sb => (⟨sb, 0, none⟩ : Addr)) (some sb)) 0 false 0) (fun i => codeOf (mf i)) (fun i => lvOf (lf i)) af (S0 cl fun k => M.init (lim k) ld) ((List.range m').map ps)).2 = f := ⟨_, rfl⟩
        have HF1 : Hid (∀ i, i ∉ (List.range m').map ps → f i = ⟨#[]⟩) := fun i hi => by rw [← hf]; exact steps_unseen _ _ _ _ _ i _ hi
        have HF2 : Hid (∀ i, i ∈ (List.range m').map ps → lb (mf i % 5).toNat = false → f i = rUnknown) := fun i hi hl => by
          rw [← hf]
          refine steps_unknown _ _ _ _ _ i rfl rfl ?_ _ hi
          show (S0 cl _ (codeOf (mf i))).ins = false
          unfold S0
          rw [HOUT.out _ hl]
          rfl
        rw [hf] at HENT
        obtain ⟨A, hA⟩ : ∃ A, Ann.cells ⟨false, comp, 0, 0, 0, 0, none, mc⟩ = A := ⟨_, rfl⟩
        rw [hA] at HAN HENT
        have hms : (m' : Int) ≤ 1024 := by have := HM'.out; omega
        clear hBi hP6 hSy6 HP5 HSYN HLST HB5 HOUT HBUILD hf hA
        have mk1 := fun W => run_make (P := Yba.prog) W 61 4 Yba.t4 _ Yba.underlying61 info4 rfl .i64 .i64 (n : Int) (n : Int) (by omega) (by omega) (by show (1 : Int) * _ ≤ _; omega) (by omega)
        simp only [Int.toNat_natCast] at mk1
        obtain ⟨A1, hA1⟩ : ∃ A1, madeCells (Value.bool false).cells (n * 1) = A1 := ⟨_, rfl⟩
        have mk1' : ∀ w, (Instr.makeSlice 61 (.int .i64 (n : Int)) (.int .i64 (n : Int))).run Yba.prog w = .ok (.slice (some ⟨w.heap.size, 0, none⟩) n n) (w.alloc (.cells A1 4)) := fun w => by rw [← hA1]; exact mk1 w
        have HM1 : Hid (∀ W : World, RowAt (W.alloc (.cells A1 4)) W.heap.size 4 n (fun _ => .bool false)) := fun W => by rw [← hA1]; exact RowAt.made W 4 n _ rfl
        clear mk1 hA1
        go_upto_region 21 with (first | (refine wpList_load45 rfl (.tmp 13) rfl rfl HAN.out.1 HAN.out.2 ?_) | (go_at_call 12; refine HENT.out.mono ?_; rintro r w7 ⟨rb, rfl, hrb, hrow, hB7⟩))
        have HROW : Hid (RowAt w7 rb 62 n (fun k => .string (f k))) := hrow
        have HB7 : Hid (Below w6.heap.size w6 w7) := hB7
        obtain ⟨QB, hQB⟩ : ∃ QB, w7.heap.size = QB := ⟨_, rfl⟩
        have HQB : Hid (w7.heap.size = QB) := hQB
        have HR0 : Hid (RowAt (w7.alloc (.cells A1 4)) QB 4 n (fun i => .bool (decide (i ∈ (List.range 0).map ps)))) := by rw [← hQB]; exact (HM1.out w7).congr (fun k _ => by simp)
        clear hrow hB7 hrb HM1
        go_wp2
        clear hQB
        go_loopg [26] m' (fun k i wx => ∃ j : Nat, j ≤ m' ∧ k = m' - j ∧ i = .int .i64 (j : Int) ∧ RowAt wx QB 4 n (fun i => .bool (decide (i ∈ (List.range j).map ps))) ∧ Below QB w7 wx)
        case atStart => exact ⟨0, Nat.zero_le _, rfl, rfl, HR0.out, (Below.refl _ w7).alloc (by rw [HQB.out]; exact Nat.le_refl _) _⟩
        case round =>
          clear HR0
          obtain ⟨j, hjm, hgk2, rfl, hrw, hbx⟩ := hrel
          have HGK2 : Hid (gk = m' - j) := hgk2
          have HRW : Hid _ := hrw
          have HBX : Hid (Below QB w7 wr) := hbx
          by_cases hj : j < m'
          · have htl : TB < w7.heap.size := Nat.lt_of_lt_of_le HBI.out.tlt HB7.out.size
            have hpc : wr.cell? ⟨TB, j, none⟩ = some (.int .i64 ((ps j : Nat) : Int)) := (hbx.cell (p := ⟨TB, j, none⟩) (by rw [← HQB.out]; exact htl)).trans ((HB7.out.cell (p := ⟨TB, j, none⟩) HBI.out.tlt).trans (HBI.out.time j hj))
            have hpn := HBI.out.lt j hj
            have hqc := hrw.cell hpn
            have hqf := hrw.thawed (ps j)
            have HN : Hid (RowAt (wr.setCell ⟨QB, ps j, none⟩ (.bool true)) QB 4 n (fun i => .bool (decide (i ∈ (List.range (j + 1)).map ps)))) := (hrw.set hpn _).congr (fun k _ => by
              rw [List.range_succ, List.map_append, List.map_singleton]
              by_cases e : k = ps j
              · simp [e]
              · simp [e])
            have HNB : Hid (Below QB w7 (wr.setCell ⟨QB, ps j, none⟩ (.bool true))) := hbx.setCell (Nat.le_refl _) _
            clear hrw hbx hgk2 htl
            go_wp2
            go_roundg (m' - (j + 1))
            case measure => have := HGK2.out; omega
            case rel => exact ⟨j + 1, by omega, rfl, by go_num, HN.out, HNB.out⟩
          · have hje : j = m' := by omega
            rw [hje] at hrw
            have HSEEN : Hid (RowAt wr QB 4 n (fun i => .bool (decide (i ∈ (List.range m').map ps)))) := hrw
            have hq : w7.heap.size ≤ QB := by rw [HQB.out]; exact Nat.le_refl _
            have HGOT : Hid (RowAt wr rb 62 n (fun k => .string (f k))) := HROW.out.kept (hbx.block _ (Nat.lt_of_lt_of_le HROW.out.lt hq))
            have HLS : Hid (RowAt wr gb 73 5 (fun k => .bool (lb k))) := (HLST6.out.kept (HB7.out.block _ HLST6.out.lt)).kept (hbx.block _ (Nat.lt_of_lt_of_le (Nat.lt_of_lt_of_le HLST6.out.lt HB7.out.size) hq))
            have HBE : Hid (Below w.heap.size w wr) := (HB6.out.trans (HB7.out.mono HB6.out.size)).trans (hbx.mono (by have := HB6.out.size; have := HB7.out.size; omega))
            clear hrw hbx hgk2 hje HRW HBX HGK2 HROW HLST6 HB7 HB6 HENT HAN
            obtain ⟨wq, hwq⟩ : ∃ wq, wq = wr := ⟨_, rfl⟩
            subst hwq
            go_wp2
            go_loopg [27] n (fun k i wx => ∃ j : Nat, j ≤ n ∧ k = n - j ∧ i = .int .i64 (j : Int) ∧ wx = wq)
            case atStart => exact ⟨0, Nat.zero_le _, rfl, rfl, rfl⟩
            case round =>
              obtain ⟨i, hin, hgk3, rfl, hwr⟩ := hrel
              subst hwr
              have HGK3 : Hid (gk = n - i) := hgk3
              clear hgk3
              by_cases hi : i < n
              · have hsc := HSEEN.out.cell hi
                have hgc := HGOT.out.cell hi
                by_cases hs : i ∈ (List.range m').map ps
                · have hd : decide (i ∈ (List.range m').map ps) = true := by simp [hs]
                  rw [hd] at hsc
                  obtain ⟨rb', ro, hra, r2, r3⟩ := HR.out (by omega)
                  subst hra
                  have hrc := (HBE.out.cell (p := ⟨rb', ro + i * 3, none⟩) r2).trans (r3 i hi).1
                  obtain ⟨x, hx⟩ : ∃ x, mf i = x := ⟨_, rfl⟩
                  have x0 := HMF.out i
                  have hf2 := HF2.out i hs
                  rw [hx] at hrc x0 hf2
                  obtain ⟨x1, x2⟩ := x0
                  obtain ⟨kk, hkk⟩ : ∃ kk : Nat, x % 5 = (kk : Int) := ⟨(x % 5).toNat, by omega⟩
                  have hk5 : kk < 5 := by omega
                  rw [hkk, Int.toNat_natCast] at hf2
                  have hlc := HLS.out.cell hk5
                  cases hl : lb kk with
                  | true =>
                    rw [hl] at hlc
                    clear hf2 hs hd r3 hx
                    go_wp2
                    go_roundg (n - (i + 1))
                    case measure => have := HGK3.out; omega
                    case rel => exact ⟨i + 1, by omega, rfl, by go_num, rfl⟩
                  | false =>
                    rw [hl] at hlc
                    rw [hf2 hl] at hgc
                    unfold rUnknown at hgc
                    clear hf2 hs hd r3 hx
                    go_wp2
                    go_roundg (n - (i + 1))
                    case measure => have := HGK3.out; omega
                    case rel => exact ⟨i + 1, by omega, rfl, by go_num, rfl⟩
                · have hd : decide (i ∈ (List.range m').map ps) = false := by simp [hs]
                  rw [hd] at hsc
                  rw [HF1.out i hs] at hgc
                  clear hs hd
                  go_wp2
                  go_roundg (n - (i + 1))
                  case measure => have := HGK3.out; omega
                  case rel => exact ⟨i + 1, by omega, rfl, by go_num, rfl⟩
              · go_wp2
                go_ret
                exact ⟨rfl, HBE.out⟩

end Go.Proofs.Ybulkboty
