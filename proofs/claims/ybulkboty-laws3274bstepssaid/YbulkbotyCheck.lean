/-
  (*EntryChecks).check: the plain function, and the parts of its walk. Of this seat's own.
-/
import Derived.Test.YbulkbotyAccept
import Derived.Deep.DeepCutAuto
namespace Go.Proofs.Ybulkboty
open Go.RowKit Go.ChangeMaps

/-- The announcement's cells, as these laws build it. -/
def annCells (obj : ByteArray) (comp rt pt bmin bmax : Int) (ms : Option Addr) (mc : Option Nat) : Array Value :=
  #[.string ⟨#[88]⟩, .string ⟨#[]⟩, .string ⟨#[]⟩, .string obj, .int .i64 comp, .int .i64 0, .int .i64 rt, .int .i64 pt, .pointer none, .pointer none, .int .i64 bmin, .int .i64 bmax, .pointer ms, .map mc, .map none, .pointer none]

/-- A bid's cells. -/
def bidCells (nm : ByteArray) (rate price amt : Int) : Array Value :=
  #[.string nm, .int .u64 0, .int .i64 0, .pointer none, .string ⟨#[]⟩, .int .i64 rate, .int .i64 price, .string ⟨#[]⟩, .int .i64 amt]

/-- What the checks of a tender go by. -/
structure Cfg where
  obj : ByteArray
  comp : Int
  rt : Int
  pt : Int
  bmin : Int
  bmax : Int
  ms : Option Addr
  mc : Option Nat
  syn : Option Addr
  tick : Int
  onT : Bool
  span : Int
  spd : Bool
  mm : Nat

def Cfg.cells (c : Cfg) : Array Value :=
  #[.string ⟨#[88]⟩, .string ⟨#[]⟩, .string ⟨#[]⟩, .string c.obj, .int .i64 c.comp, .int .i64 0, .int .i64 c.rt, .int .i64 c.pt, .pointer none, .pointer none, .int .i64 c.bmin, .int .i64 c.bmax, .pointer c.ms, .map c.mc, .map none, .pointer none,
    .pointer c.syn, .int .i64 c.tick, .bool c.onT, .int .i64 c.span, .bool c.spd, .map (some c.mm)]

/-- A member's state. -/
structure M where
  ins : Bool
  cap : Int
  capd : Bool
  ls : List Int
  lo : Int
  hi : Int
  tot : Int

def M.cells (m : M) (few many : Value) : Array Value := #[.bool m.ins, .int .i64 m.cap, .bool m.capd, few, many, .int .i64 m.lo, .int .i64 m.hi, .int .i64 m.tot]

/-- BLOCK e IS THE ENTRY OF A MEMBER IN STATE m; ow: the block of its levels. -/
def Ent (w : World) (e : Nat) (m : M) (ow : Option Nat) : Prop :=
  ∃ few many, w.heap[e]? = some (.cells (m.cells few many) 88 (0, 0)) ∧ Lev w few many m.ls ∧ m.ls.Nodup ∧ ow = auxOf few many

def M.acc (m : M) (l amt : Int) : M :=
  { m with ls := m.ls ++ [l], lo := if m.ls = [] then l else min m.lo l, hi := if m.ls = [] then l else max m.hi l, tot := wrap64 (m.tot + amt) }

def rTick : ByteArray := ⟨#[116, 105, 99, 107]⟩
def rUnknown : ByteArray := ⟨#[117, 110, 107, 110, 111, 119, 110, 45, 109, 101, 109, 98, 101, 114]⟩
def rSize : ByteArray := ⟨#[115, 105, 122, 101]⟩
def rDup : ByteArray := ⟨#[100, 117, 112, 108, 105, 99, 97, 116, 101, 45, 108, 101, 118, 101, 108]⟩
def rSpan : ByteArray := ⟨#[115, 112, 97, 110]⟩
def rCap : ByteArray := ⟨#[109, 101, 109, 98, 101, 114, 45, 99, 97, 112]⟩

/-- THE CHECK OF ONE BID, AS A PLAIN FUNCTION. -/
def chk (c : Cfg) (m : M) (l amt : Int) : ByteArray × M :=
  if c.onT && (l % c.tick != 0) then (rTick, m)
  else if c.syn.isSome && !m.ins then (rUnknown, m)
  else if (decide (0 < c.bmin) && decide (amt < c.bmin)) || (decide (0 < c.bmax) && decide (c.bmax < amt)) then (rSize, m)
  else if decide (l ∈ m.ls) then (rDup, m)
  else if c.spd && !m.ls.isEmpty && decide (c.span < wrap64 (max m.hi l - min m.lo l)) then (rSpan, m)
  else if m.capd && decide (m.cap < wrap64 (m.tot + amt)) then (rCap, m)
  else (⟨#[]⟩, m.acc l amt)

/-- The accepted bid: what is left, out of what 'accept' leaves. -/
theorem check_close {w W W' w' : World} {e : Nat} {m : M} {ow : Option Nat} {few many : Value} {l amt : Int} {A B : Int} (how : ow = auxOf few many) (hK : Kept e ow w W) (hnd : m.ls.Nodup) (hnot : l ∉ m.ls)
    (hW : Kept e ow W W') (hA : A = (m.acc l amt).lo) (hB : B = (m.acc l amt).hi)
    (h : Added W' w' e (.bool m.ins) (.int .i64 m.cap) (.bool m.capd) few many (.int .i64 A) (.int .i64 B) (.int .i64 (wrap64 (m.tot + amt))) (m.ls ++ [l])) :
    ∃ ow', Ent w' e (m.acc l amt) ow' ∧ Kept e ow w w' ∧ (ow' = ow ∨ ∃ g, ow' = some g ∧ w.heap.size ≤ g) := by
  subst hA hB
  obtain ⟨few', many', he, hL, hK2, hloc⟩ := h
  have hKW := hK.trans hW (fun g hg => .inl hg)
  refine ⟨auxOf few' many', ⟨few', many', he, hL, ?_, rfl⟩, ?_, ?_⟩
  · show (m.ls ++ [l]).Nodup
    rw [List.nodup_append]
    exact ⟨hnd, by simp, by rintro a ha b hb rfl; simp at hb; subst hb; exact hnot ha⟩
  · rw [← how] at hK2
    exact hKW.trans hK2 (fun g hg => .inl hg)
  · rw [← how] at hloc
    rcases hloc with h | ⟨g, h, h2⟩
    · exact .inl h
    · exact .inr ⟨g, h, Nat.le_trans hKW.size h2⟩

set_option maxRecDepth 100000 in
set_option maxHeartbeats 4000000 in
/-- (*EntryChecks).check IS 'chk'. -/
theorem check_any (cb e : Nat) (c : Cfg) (m : M) (ow : Option Nat) (nm : ByteArray) (rate price amt l : Int) (w : World) (hc : w.heap[cb]? = some (.cells c.cells 81 (0, 0)))
    (hE : Ent w e m ow) (ht : c.onT = true → 0 < c.tick) (hl : 0 ≤ l) (hb : m.ls.length ≤ 100000) :
    Calls Yba.prog 14 #[.pointer (some ⟨cb, 0, none⟩), .agg (bidCells nm rate price amt), .int .i64 l, .pointer (some ⟨e, 0, none⟩)] w fun r w' =>
      r = .returned (.string (chk c m l amt).1) ∧ ∃ ow', Ent w' e (chk c m l amt).2 ow' ∧ Kept e ow w w' ∧ (ow' = ow ∨ ∃ g, ow' = some g ∧ w.heap.size ≤ g) := by
  obtain ⟨ret, hret⟩ : ∃ ret, chk c m l amt = ret := ⟨_, rfl⟩
  have HR : Hid (chk c m l amt = ret) := hret
  rw [hret]
  clear hret
  have HC : Hid (w.heap[cb]? = some (.cells c.cells 81 (0, 0))) := hc
  have HE : Hid (Ent w e m ow) := hE
  have hcc := cell_of hc
  have k0 := hcc 0; have k1 := hcc 1; have k2 := hcc 2; have k3 := hcc 3; have k4 := hcc 4; have k5 := hcc 5; have k6 := hcc 6; have k7 := hcc 7
  have k8 := hcc 8; have k9 := hcc 9; have k10 := hcc 10; have k11 := hcc 11; have k12 := hcc 12; have k13 := hcc 13; have k14 := hcc 14; have k15 := hcc 15
  clear hcc
  simp only [Cfg.cells, List.getElem?_toArray, List.getElem?_cons_succ, List.getElem?_cons_zero] at k0 k1 k2 k3 k4 k5 k6 k7 k8 k9 k10 k11 k12 k13 k14 k15
  have hlt := lt_of_heap hc
  have HT : Hid (c.onT = true → 0 < c.tick) := ht
  clear hc hE ht
  unfold bidCells
  go_enter Yba.func14, Yba.ntmps14
  go_wp2
  obtain ⟨W, hW⟩ : ∃ W, (w.alloc (.cells (bidCells nm rate price amt) 68)).alloc (.cells (annCells c.obj c.comp c.rt c.pt c.bmin c.bmax c.ms c.mc) 45) = W := ⟨_, rfl⟩
  have H0 : Hid ((w.alloc (.cells (bidCells nm rate price amt) 68)).alloc (.cells (annCells c.obj c.comp c.rt c.pt c.bmin c.bmax c.ms c.mc) 45) = W) := hW
  unfold bidCells annCells at hW
  rw [hW]
  clear hW k0 k1 k2 k3 k4 k5 k6 k7 k8 k9 k10 k11 k12 k13 k14 k15
  generalize Value.agg #[Value.string nm, Value.int .u64 0, Value.int .i64 0, Value.pointer none, Value.string ⟨#[]⟩, Value.int .i64 rate, Value.int .i64 price, Value.string ⟨#[]⟩, Value.int .i64 amt] = vb
  generalize Value.agg #[Value.string ⟨#[88]⟩, Value.string ⟨#[]⟩, Value.string ⟨#[]⟩, Value.string c.obj, Value.int .i64 c.comp, Value.int .i64 0, Value.int .i64 c.rt, Value.int .i64 c.pt, Value.pointer none, Value.pointer none, Value.int .i64 c.bmin, Value.int .i64 c.bmax, Value.pointer c.ms, Value.map c.mc, Value.map none, Value.pointer none] = va
  have a15 : W.cell? ⟨w.heap.size + 1, 15, none⟩ = some (.pointer none) := by
    rw [← H0.out]; exact (World.cell?_alloc_at _ _ _ _ (by simp))
  go_quiet (fail)
  clear a15
  obtain ⟨W1, hW1⟩ : ∃ W1, W.drewN nq = W1 := ⟨_, rfl⟩
  have H1 : Hid (((w.alloc (.cells (bidCells nm rate price amt) 68)).alloc (.cells (annCells c.obj c.comp c.rt c.pt c.bmin c.bmax c.ms c.mc) 45)).drewN nq = W1) := by
    show _ = _
    rw [H0.out, hW1]
  rw [hW1]
  clear hW1 H0
  have a10 : W1.cell? ⟨w.heap.size + 1, 10, none⟩ = some (.int .i64 c.bmin) := by
    rw [← H1.out, World.cell?_drewN]; exact (World.cell?_alloc_at _ _ _ _ (by simp))
  have a11 : W1.cell? ⟨w.heap.size + 1, 11, none⟩ = some (.int .i64 c.bmax) := by
    rw [← H1.out, World.cell?_drewN]; exact (World.cell?_alloc_at _ _ _ _ (by simp))
  have b8 : W1.cell? ⟨w.heap.size, 8, none⟩ = some (.int .i64 amt) := by
    rw [← H1.out, World.cell?_drewN, World.cell?_alloc_lt _ _ _ (by simp)]; exact (World.cell?_alloc_at _ _ _ _ rfl)
  obtain ⟨few, many, hEb, hLv, hnd, how⟩ := HE.out
  have oldb : ∀ k, k < w.heap.size → W1.heap[k]? = w.heap[k]? := by
    intro k hk
    rw [← H1.out, World.heap_drewN, heap_alloc_lt _ _ (by simp; omega), heap_alloc_lt _ _ hk]
  have HEW : Hid (W1.heap[e]? = some (.cells (m.cells few many) 88 (0, 0))) := (oldb e (lt_of_heap hEb)).trans hEb
  have HLW : Hid (Lev W1 few many m.ls) := hLv.kept (fun g hg => oldb g (hLv.lt g hg))
  have HCW : Hid (W1.heap[cb]? = some (.cells c.cells 81 (0, 0))) := (oldb cb hlt).trans HC.out
  have hec := cell_of HEW.out
  have e0 := hec 0; have e1 := hec 1; have e2 := hec 2; have e3 := hec 3; have e4 := hec 4; have e5 := hec 5; have e6 := hec 6; have e7 := hec 7
  have hcc := cell_of HCW.out
  have k16 := hcc 16; have k17 := hcc 17; have k18 := hcc 18; have k19 := hcc 19; have k20 := hcc 20
  simp only [Cfg.cells, M.cells, List.getElem?_toArray, List.getElem?_cons_succ, List.getElem?_cons_zero] at k16 k17 k18 k19 k20 e0 e1 e2 e3 e4 e5 e6 e7
  have HND : Hid (m.ls.Nodup) := hnd
  have HOW : Hid (ow = auxOf few many) := how
  have HKW : Hid (Kept e ow w W1) := by
    show Kept _ _ _ _
    rw [← H1.out]
    exact (((Kept.refl _ _ _).alloc _).alloc _).drewN nq
  clear hec hcc hEb hLv hnd how oldb
  have FIN : Hid (∀ n : Nat, Ent (W1.drewN n) e m ow ∧ Kept e ow w (W1.drewN n)) := by
    intro n
    exact ⟨⟨few, many, HEW.out, HLW.out, HND.out, HOW.out⟩, HKW.out.drewN n⟩
  go_upto_region 4 with fail
  go_cut [28] (fun v wr => v = .bool (c.onT && (l % c.tick != 0)) ∧ W1 = wr)
  case first =>
    cases hon : c.onT
    · rw [hon] at k18
      go_wp2
      go_meet
      case rel => exact ⟨by simp [hon], rfl⟩
    · rw [hon] at k18
      have htk := HT.out hon
      have htz : (c.tick == 0) = false := by simp; omega
      go_wp2
      go_meet
      case rel => exact ⟨by simp [hon], rfl⟩
  case rest =>
    obtain ⟨rfl, rfl⟩ := hcut
    by_cases b1 : (c.onT && (l % c.tick != 0)) = true
    · have hr : Hid (ret = (rTick, m)) := by show _ = _; rw [← HR.out]; unfold chk; rw [if_pos b1]
      rw [b1]
      clear b1
      go_wp2
      go_ret
      rw [hr.out]; exact ⟨rfl, ow, (FIN.out 0).1, (FIN.out 0).2, .inl rfl⟩
    have B1 : Hid (¬ (c.onT && (l % c.tick != 0)) = true) := b1
    rw [Bool.not_eq_true] at b1
    rw [b1]
    clear b1
    go_upto_region 6 with fail
    go_cut [42] (fun v wr => v = .bool (c.syn.isSome && !m.ins) ∧ W1 = wr)
    case first =>
      cases hs : c.syn with
      | none =>
        rw [hs] at k16
        go_wp2
        go_meet
        case rel => exact ⟨by simp [hs], rfl⟩
      | some sa =>
        rw [hs] at k16
        go_wp2
        go_meet
        case rel => exact ⟨by simp [hs], rfl⟩
    case rest =>
      obtain ⟨rfl, rfl⟩ := hcut
      by_cases b2 : (c.syn.isSome && !m.ins) = true
      · have hr : Hid (ret = (rUnknown, m)) := by show _ = _; rw [← HR.out]; unfold chk; rw [if_neg B1.out, if_pos b2]
        rw [b2]
        clear b2
        go_wp2
        go_ret
        rw [hr.out]; exact ⟨rfl, ow, (FIN.out 0).1, (FIN.out 0).2, .inl rfl⟩
      have B2 : Hid (¬ (c.syn.isSome && !m.ins) = true) := b2
      rw [Bool.not_eq_true] at b2
      rw [b2]
      clear b2
      go_upto_region 8 with fail
      go_cut [55] (fun v wr => v = .bool (decide (0 < c.bmin) && decide (amt < c.bmin)) ∧ W1 = wr)
      case first =>
        by_cases h1 : 0 < c.bmin
        · go_wp2
          go_meet
          case rel => exact ⟨by simp [h1], rfl⟩
        · have h1' : decide (0 < c.bmin) = false := by simpa using h1
          go_wp2
          go_meet
          case rel => exact ⟨by simp [h1'], rfl⟩
      case rest =>
        obtain ⟨rfl, rfl⟩ := hcut
        by_cases b3 : (decide (0 < c.bmin) && decide (amt < c.bmin)) = true
        · have hr : Hid (ret = (rSize, m)) := by show _ = _; rw [← HR.out]; unfold chk; rw [if_neg B1.out, if_neg B2.out, if_pos (by rw [b3]; rfl)]
          rw [b3]
          clear b3
          go_wp2
          go_ret
          rw [hr.out]; exact ⟨rfl, ow, (FIN.out 0).1, (FIN.out 0).2, .inl rfl⟩
        have B3 : Hid ((decide (0 < c.bmin) && decide (amt < c.bmin)) = false) := by rw [Bool.not_eq_true] at b3; exact b3
        rw [Bool.not_eq_true] at b3
        rw [b3]
        clear b3
        go_upto_region 9 with fail
        go_cut [55] (fun v wr => v = .bool (decide (0 < c.bmax) && decide (c.bmax < amt)) ∧ W1 = wr)
        case first =>
          by_cases h1 : 0 < c.bmax
          · go_wp2
            go_meet
            case rel => exact ⟨by simp [h1], rfl⟩
          · have h1' : decide (0 < c.bmax) = false := by simpa using h1
            go_wp2
            go_meet
            case rel => exact ⟨by simp [h1'], rfl⟩
        case rest =>
          obtain ⟨rfl, rfl⟩ := hcut
          by_cases b4 : (decide (0 < c.bmax) && decide (c.bmax < amt)) = true
          · have hr : Hid (ret = (rSize, m)) := by show _ = _; rw [← HR.out]; unfold chk; rw [if_neg B1.out, if_neg B2.out, if_pos (by rw [b4]; simp)]
            rw [b4]
            clear b4
            go_wp2
            go_ret
            rw [hr.out]; exact ⟨rfl, ow, (FIN.out 0).1, (FIN.out 0).2, .inl rfl⟩
          have B4 : Hid (¬ ((decide (0 < c.bmin) && decide (amt < c.bmin)) || (decide (0 < c.bmax) && decide (c.bmax < amt))) = true) := by
            rw [Bool.not_eq_true] at b4
            show ¬ _
            rw [B3.out, b4]
            simp
          rw [Bool.not_eq_true] at b4
          rw [b4]
          clear b4
          have hhas := has_any e few many m.ls l (W1) e3 e4 HLW.out
          by_cases b5 : l ∈ m.ls
          · have hr : Hid (ret = (rDup, m)) := by show _ = _; rw [← HR.out]; unfold chk; rw [if_neg B1.out, if_neg B2.out, if_neg B4.out, if_pos (by simpa using b5)]
            have hd : decide (l ∈ m.ls) = true := by simpa using b5
            rw [hd] at hhas
            clear b5 hd
            go_wp2_with (go_at_call 20; refine hhas.mono ?_; rintro r w' ⟨rfl, rfl⟩)
            go_ret
            rw [hr.out]; exact ⟨rfl, ow, (FIN.out 0).1, (FIN.out 0).2, .inl rfl⟩
          have B5 : Hid (¬ l ∈ m.ls) := b5
          have hd : decide (l ∈ m.ls) = false := by simpa using b5
          rw [hd] at hhas
          clear b5 hd
          go_upto_region 13 with (go_at_call 20; refine hhas.mono ?_; rintro r w' ⟨rfl, hw⟩; obtain rfl : W1 = w' := hw.symm)
          clear hhas
          go_cut [82] (fun v wr => v = .bool (c.spd && !m.ls.isEmpty && decide (c.span < wrap64 (max m.hi l - min m.lo l))) ∧ ∃ n, wr = W1.drewN n)
          case first =>
            cases hs : c.spd
            · rw [hs] at k20
              go_quiet (fail)
              go_wp2
              go_meet
              case rel => exact ⟨by simp [hs], _, rfl⟩
            · rw [hs] at k20
              by_cases hem : m.ls = []
              · have h0 : decide ((0 : Int) < (m.ls.length : Int)) = false := by simp [hem]
                go_quiet ((go_at_call 21; exact Calls.quiet_of (len_any e few many m.ls _ hb e3 e4 HLW.out)))
                go_wp2
                go_meet
                case rel => exact ⟨by simp [hem], _, rfl⟩
              · have h0 : decide (0 < m.ls.length) = true := by
                  have : m.ls.length ≠ 0 := fun h => hem (List.eq_nil_of_length_eq_zero h)
                  simp only [decide_eq_true_eq]
                  omega
                by_cases h1 : m.hi < l
                · by_cases h2 : l < m.lo
                  · go_quiet ((go_at_call 21; exact Calls.quiet_of (len_any e few many m.ls _ hb e3 e4 HLW.out)))
                    go_wp2
                    go_meet
                    case rel => exact ⟨by rw [hs, show m.ls.isEmpty = false by simpa using hem, show max m.hi l = l by omega, show min m.lo l = l by omega, Int.sub_self, show wrap64 0 = 0 by unfold wrap64; omega]; rfl, _, rfl⟩
                  · go_quiet ((go_at_call 21; exact Calls.quiet_of (len_any e few many m.ls _ hb e3 e4 HLW.out)))
                    go_wp2
                    go_meet
                    case rel => exact ⟨by simp [hem, hs, show max m.hi l = l by omega, show min m.lo l = m.lo by omega], _, rfl⟩
                · by_cases h2 : l < m.lo
                  · go_quiet ((go_at_call 21; exact Calls.quiet_of (len_any e few many m.ls _ hb e3 e4 HLW.out)))
                    go_wp2
                    go_meet
                    case rel => exact ⟨by simp [hem, hs, show max m.hi l = m.hi by omega, show min m.lo l = l by omega], _, rfl⟩
                  · go_quiet ((go_at_call 21; exact Calls.quiet_of (len_any e few many m.ls _ hb e3 e4 HLW.out)))
                    go_wp2
                    go_meet
                    case rel => exact ⟨by simp [hem, hs, show max m.hi l = m.hi by omega, show min m.lo l = m.lo by omega], _, rfl⟩
          case rest =>
            obtain ⟨rfl, nn, rfl⟩ := hcut
            by_cases b6 : (c.spd && !m.ls.isEmpty && decide (c.span < wrap64 (max m.hi l - min m.lo l))) = true
            · have hr : Hid (ret = (rSpan, m)) := by show _ = _; rw [← HR.out]; unfold chk; rw [if_neg B1.out, if_neg B2.out, if_neg B4.out, if_neg (by simpa using B5.out), if_pos b6]
              rw [b6]
              clear b6
              go_wp2
              go_ret
              rw [hr.out]; exact ⟨rfl, ow, (FIN.out nn).1, (FIN.out nn).2, .inl rfl⟩
            have B6 : Hid (¬ (c.spd && !m.ls.isEmpty && decide (c.span < wrap64 (max m.hi l - min m.lo l))) = true) := b6
            rw [Bool.not_eq_true] at b6
            rw [b6]
            clear b6
            go_upto_region 15 with fail
            go_cut [114] (fun v wr => v = .bool (m.capd && decide (m.cap < wrap64 (m.tot + amt))) ∧ ∃ n, wr = W1.drewN n)
            case first =>
              cases hs : m.capd
              · rw [hs] at e2
                go_quiet (fail)
                go_wp2
                go_meet
                case rel => exact ⟨by simp [hs], nn + nq, by simp⟩
              · rw [hs] at e2
                go_quiet (fail)
                go_wp2
                go_meet
                case rel => exact ⟨by simp [hs], nn + nq, by simp⟩
            case rest =>
              obtain ⟨rfl, n2, rfl⟩ := hcut
              by_cases b7 : (m.capd && decide (m.cap < wrap64 (m.tot + amt))) = true
              · have hr : Hid (ret = (rCap, m)) := by show _ = _; rw [← HR.out]; unfold chk; rw [if_neg B1.out, if_neg B2.out, if_neg B4.out, if_neg (by simpa using B5.out), if_neg B6.out, if_pos b7]
                rw [b7]
                clear b7
                go_wp2
                go_ret
                rw [hr.out]; exact ⟨rfl, ow, (FIN.out n2).1, (FIN.out n2).2, .inl rfl⟩
              have hr : Hid (ret = (⟨#[]⟩, m.acc l amt)) := by show _ = _; rw [← HR.out]; unfold chk; rw [if_neg B1.out, if_neg B2.out, if_neg B4.out, if_neg (by simpa using B5.out), if_neg B6.out, if_neg b7]
              rw [Bool.not_eq_true] at b7
              rw [b7]
              clear b7
              by_cases hem : m.ls = []
              · have hacc := accept_none e few many (.bool m.ins) (.int .i64 m.cap) (.bool m.capd) m.lo m.hi m.tot l amt (W1.drewN n2) HEW.out (by have := HLW.out; rw [hem] at this; exact this)
                have RC : Hid (∀ w', Added (W1.drewN n2) w' e (.bool m.ins) (.int .i64 m.cap) (.bool m.capd) few many (.int .i64 l) (.int .i64 l) (.int .i64 (wrap64 (m.tot + amt))) [l] →
                    ∃ ow', Ent w' e (m.acc l amt) ow' ∧ Kept e ow w w' ∧ (ow' = ow ∨ ∃ g, ow' = some g ∧ w.heap.size ≤ g)) := by
                  intro w' hadd
                  exact check_close (A := l) (B := l) HOW.out HKW.out HND.out B5.out ((Kept.refl _ _ _).drewN n2) (by simp [M.acc, hem]) (by simp [M.acc, hem]) (by rw [hem]; exact hadd)
                clear hem
                go_wp2_with (go_at_call 22; refine hacc.mono ?_; rintro r w' ⟨rfl, hadd⟩; replace hadd := RC.out w' hadd)
                go_ret
                rw [hr.out]
                exact ⟨rfl, hadd⟩
              · have hacc := accept_some e few many (.bool m.ins) (.int .i64 m.cap) (.bool m.capd) m.lo m.hi m.tot m.ls l amt (W1.drewN n2) HEW.out HLW.out HND.out B5.out hb hem
                have RC : Hid (∀ w', Added (W1.drewN n2) w' e (.bool m.ins) (.int .i64 m.cap) (.bool m.capd) few many (.int .i64 (min m.lo l)) (.int .i64 (max m.hi l)) (.int .i64 (wrap64 (m.tot + amt))) (m.ls ++ [l]) →
                    ∃ ow', Ent w' e (m.acc l amt) ow' ∧ Kept e ow w w' ∧ (ow' = ow ∨ ∃ g, ow' = some g ∧ w.heap.size ≤ g)) := by
                  intro w' hadd
                  exact check_close HOW.out HKW.out HND.out B5.out ((Kept.refl _ _ _).drewN n2) (by simp [M.acc, hem]) (by simp [M.acc, hem]) hadd
                clear hem
                go_wp2_with (go_at_call 22; refine hacc.mono ?_; rintro r w' ⟨rfl, hadd⟩; replace hadd := RC.out w' hadd)
                go_ret
                rw [hr.out]
                exact ⟨rfl, hadd⟩
end Go.Proofs.Ybulkboty
