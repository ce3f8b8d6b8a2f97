/-
  What the two B-laws share: the announcement, the syndicate, the bids; and the plain laws on 'steps'. Of this seat's own.
-/
import Derived.Test.YbulkbotyEntry
import Derived.Test.YbulkbotyBuild
import Derived.Laws.OwnMore
namespace Go.Proofs.Ybulkboty
open Go.RowKit Go.ChangeMaps

def cput (k v : ByteArray) : List (ByteArray × ByteArray) → List (ByteArray × ByteArray)
  | [] => [(k, v)]
  | p :: r => if p.1 = k then (k, v) :: r else p :: cput k v r

theorem clsKV_cput (k v : ByteArray) : ∀ cl, clsKV (cput k v cl) = put k (.string v) (clsKV cl)
  | [] => rfl
  | p :: r => by
    have ih := clsKV_cput k v r
    unfold clsKV at ih
    unfold clsKV cput
    simp only [List.map_cons, put]
    by_cases h : p.1 = k
    · simp [h]
    · simp [h, ih]

theorem clsObj_eq (cl : List (ByteArray × ByteArray)) : clsObj cl = mapOf Value.string (clsKV cl) := by
  unfold clsObj mapOf clsKV
  simp

theorem run_cput {w : World} {b : Nat} {cl : List (ByteArray × ByteArray)} (hb : w.heap[b]? = some (clsObj cl)) (k v : ByteArray) :
    (Instr.mapUpdate 48 (.map (some b)) (.string k) (.string v)).run Yba.prog w = .ok () (setBlock w b (clsObj (cput k v cl))) := by
  rw [clsObj_eq] at hb
  have := run_update (P := Yba.prog) (t := 48) str_isKey str_inj Yba.underlying48 Yba.underlying9 hb k (.string v)
  rw [this, clsObj_eq, clsKV_cput]

theorem clsLook_cput (x k v : ByteArray) : ∀ cl, clsLook x (cput k v cl) = if k = x then some v else clsLook x cl
  | [] => by simp [cput, clsLook]
  | p :: r => by
    have ih := clsLook_cput x k v r
    by_cases h : p.1 = k
    · simp only [cput, h, if_true, clsLook]
      by_cases e : k = x
      · simp [e]
      · simp [e]
    · simp only [cput, h, if_false, clsLook, ih]
      by_cases e : k = x
      · simp [e]
        intro e2
        exact absurd (e2.trans e.symm) h
      · simp [e]

theorem clsKV_keys (cl : List (ByteArray × ByteArray)) : (clsKV cl).map (·.1) = cl.map (·.1) := by
  unfold clsKV
  rw [List.map_map]
  rfl

theorem cput_nodup (k v : ByteArray) {cl : List (ByteArray × ByteArray)} (h : (cl.map (·.1)).Nodup) : ((cput k v cl).map (·.1)).Nodup := by
  rw [← clsKV_keys, clsKV_cput]
  exact put_nodup k _ (by rw [clsKV_keys]; exact h)

theorem codeOf_inj {x y : Int} (h : codeOf x = codeOf y) : x % 5 = y % 5 := by
  unfold codeOf at h
  have hx : x % 5 = 0 ∨ x % 5 = 1 ∨ x % 5 = 2 ∨ x % 5 = 3 ∨ x % 5 = 4 := by omega
  have hy : y % 5 = 0 ∨ y % 5 = 1 ∨ y % 5 = 2 ∨ y % 5 = 3 ∨ y % 5 = 4 := by omega
  rcases hx with hx | hx | hx | hx | hx <;> rcases hy with hy | hy | hy | hy | hy <;> simp [hx, hy] at h ⊢

/-- All that lay in W, but for block ab, lies in W'. -/
def Apart (ab : Nat) (W W' : World) : Prop := W.heap.size ≤ W'.heap.size ∧ ∀ k, k < W.heap.size → k ≠ ab → W'.heap[k]? = W.heap[k]?
theorem Apart.refl (ab : Nat) (W : World) : Apart ab W W := ⟨Nat.le_refl _, fun _ _ _ => rfl⟩
theorem Apart.trans {ab : Nat} {A B C : World} (h : Apart ab A B) (k : Apart ab B C) : Apart ab A C := ⟨Nat.le_trans h.1 k.1, fun i hi hn => (k.2 i (Nat.lt_of_lt_of_le hi h.1) hn).trans (h.2 i hi hn)⟩
theorem Apart.ofBelow {ab : Nat} {W W' : World} (h : Below W.heap.size W W') : Apart ab W W' := ⟨h.size, fun k hk _ => h.block k hk⟩

/-- THE ANNOUNCEMENT LIES IN BLOCK ab; what its cap and its span give. -/
structure Prep (N : Nat) (w W : World) (ab : Nat) (a : Ann) (lim : ByteArray → Int) (ld : Bool) (sp : Int) (sd : Bool) : Prop where
  ann : W.heap[ab]? = some (.cells a.cells 45 (0, 0))
  span : ∀ W', Apart ab W W' → Calls Yba.prog 17 #[.pointer a.ms, .int .i64 a.tick] W' fun r w' => r = .returned (.tuple #[.int .i64 sp, .bool sd]) ∧ ∃ nq, w' = W'.drewN nq
  lim : ∀ W', Apart ab W W' → ∀ k, Calls Yba.prog 18 #[.map a.mc, .string k, .int .i64 a.comp] W' fun r w' => r = .returned (.tuple #[.int .i64 (lim k), .bool ld]) ∧ w' = W'
  below : Below N w W
  hab : N ≤ ab

theorem Prep.mono {N : Nat} {w W W2 : World} {ab : Nat} {a : Ann} {lim : ByteArray → Int} {ld : Bool} {sp : Int} {sd : Bool} (h : Prep N w W ab a lim ld sp sd) (hN : N ≤ W.heap.size) (hb : Below W.heap.size W W2) : Prep N w W2 ab a lim ld sp sd :=
  ⟨(hb.block ab (lt_of_heap h.ann)).trans h.ann, fun W' k => h.span W' ((Apart.ofBelow hb).trans k), fun W' k => h.lim W' ((Apart.ofBelow hb).trans k), h.below.trans (hb.mono hN), h.hab⟩

theorem Prep.start {N : Nat} {w W : World} {ab : Nat} {a : Ann} (h : W.heap[ab]? = some (.cells a.cells 45 (0, 0))) (h1 : a.ms = none) (h2 : a.mc = none) (hb : Below N w W) (hN : N ≤ ab) : Prep N w W ab a (fun _ => 0) false 0 false :=
  ⟨h, fun W' _ => by rw [h1]; exact span_nil _ _, fun W' _ k => by rw [h2]; exact limit_nil _ _ _, hb, hN⟩

theorem Prep.withSpan {N : Nat} {w W : World} {ab : Nat} {b : Bool} {comp rt pt bmin bmax : Int} {mc : Option Nat} {lim : ByteArray → Int} {ld : Bool} {sp : Int} {sd : Bool} (h : Prep N w W ab ⟨b, comp, rt, pt, bmin, bmax, none, mc⟩ lim ld sp sd) (hN : N ≤ W.heap.size) (s : Int) (s0 : 0 ≤ s) (s1 : s ≤ 255)
    (t0 : 0 ≤ (Ann.mk b comp rt pt bmin bmax none mc).tick) (t1 : (Ann.mk b comp rt pt bmin bmax none mc).tick ≤ 65535) :
    Prep N w ((W.alloc (.cells #[.int .i64 s] 2)).setCell ⟨ab, 12, none⟩ (.pointer (some ⟨W.heap.size, 0, none⟩))) ab ⟨b, comp, rt, pt, bmin, bmax, some ⟨W.heap.size, 0, none⟩, mc⟩ lim ld (s * (Ann.mk b comp rt pt bmin bmax none mc).tick) true := by
  have hal := lt_of_heap h.ann
  have ha := h.hab
  have hap : Apart ab W ((W.alloc (.cells #[.int .i64 s] 2)).setCell ⟨ab, 12, none⟩ (.pointer (some ⟨W.heap.size, 0, none⟩))) := ⟨by simp, fun k hk hn => (heap_set_other _ hn _ _ _).trans (heap_alloc_lt _ _ hk)⟩
  refine ⟨?_, fun W' hW => ?_, fun W' hW => h.lim W' (hap.trans hW), ?_, ha⟩
  · have := heap_set_at ((heap_alloc_lt W (.cells #[.int .i64 s] 2) hal).trans h.ann) 12 (.pointer (some ⟨W.heap.size, 0, none⟩))
    exact this
  · refine span_some W.heap.size s _ W' ?_ s0 s1 t0 t1
    have e1 : ((W.alloc (.cells #[.int .i64 s] 2)).setCell ⟨ab, 12, none⟩ (.pointer (some ⟨W.heap.size, 0, none⟩))).heap[W.heap.size]? = some (.cells #[.int .i64 s] 2 (0, 0)) := (heap_set_other _ (by omega) _ _ _).trans (heap_alloc_at W _)
    have e2 := (hW.2 W.heap.size (by simp) (by omega)).trans e1
    rw [cell_of e2]
    rfl
  · exact (h.below.alloc hN _).setCell ha _

def capOf (pa pb : Int) (k : ByteArray) : Int := if k = ⟨#[65]⟩ then pa else if k = ⟨#[66]⟩ then pb else 0
def capL (pa pb : Int) : List (ByteArray × Value) := [(⟨#[65]⟩, .int .i64 pa), (⟨#[66]⟩, .int .i64 pb)]

theorem run_cap1 (W : World) (p : Int) : (Instr.mapUpdate 42 (.map (some W.heap.size)) (.string ⟨#[65]⟩) (.int .i64 p)).run Yba.prog (W.alloc (.map #[] 0)) = .ok () (setBlock (W.alloc (.map #[] 0)) W.heap.size (mapOf Value.string [(⟨#[65]⟩, .int .i64 p)])) :=
  run_update (P := Yba.prog) (t := 42) str_isKey str_inj Yba.underlying42 Yba.underlying46 (l := []) (heap_alloc_at W _) ⟨#[65]⟩ (.int .i64 p)
theorem run_cap2 (W : World) (p q : Int) : (Instr.mapUpdate 42 (.map (some W.heap.size)) (.string ⟨#[66]⟩) (.int .i64 q)).run Yba.prog (setBlock (W.alloc (.map #[] 0)) W.heap.size (mapOf Value.string [(⟨#[65]⟩, .int .i64 p)])) =
    .ok () (setBlock (setBlock (W.alloc (.map #[] 0)) W.heap.size (mapOf Value.string [(⟨#[65]⟩, .int .i64 p)])) W.heap.size (mapOf Value.string (capL p q))) := by
  have := run_update (P := Yba.prog) (t := 42) str_isKey str_inj Yba.underlying42 Yba.underlying46 (l := [(⟨#[65]⟩, .int .i64 p)]) (heap_block_at (o' := mapOf Value.string [(⟨#[65]⟩, .int .i64 p)]) (heap_alloc_at W (.map #[] 0))) ⟨#[66]⟩ (.int .i64 q)
  rw [this]
  have e : put (⟨#[66]⟩ : ByteArray) (.int .i64 q) [(⟨#[65]⟩, .int .i64 p)] = capL p q := by
    have : ¬ ((⟨#[65]⟩ : ByteArray) = ⟨#[66]⟩) := by simp
    simp [put, capL, this]
  rw [e]

theorem cap_bd {p c : Int} (h1 : 0 ≤ p) (h2 : p ≤ 1000000) (h3 : -2147483648 ≤ c) (h4 : c ≤ 2147483647) : -100000000000000000 ≤ p * c ∧ p * c ≤ 100000000000000000 := by
  have k1 : p.natAbs ≤ 1000000 := by omega
  have k2 : c.natAbs ≤ 2147483648 := by omega
  have k3 : (p * c).natAbs ≤ 1000000 * 2147483648 := by rw [Int.natAbs_mul]; exact Nat.mul_le_mul k1 k2
  omega

theorem Prep.withCap {N : Nat} {w W : World} {ab : Nat} {b : Bool} {comp rt pt bmin bmax : Int} {ms : Option Addr} {lim : ByteArray → Int} {ld : Bool} {sp : Int} {sd : Bool} (h : Prep N w W ab ⟨b, comp, rt, pt, bmin, bmax, ms, none⟩ lim ld sp sd) (hN : N ≤ W.heap.size) (pa pb : Int) (a0 : 0 ≤ pa) (a1 : pa ≤ 1000000)
    (b0 : 0 ≤ pb) (b1 : pb ≤ 1000000) (k0 : -2147483648 ≤ comp) (k1 : comp ≤ 2147483647) :
    Prep N w ((setBlock (setBlock (W.alloc (.map #[] 0)) W.heap.size (mapOf Value.string [(⟨#[65]⟩, .int .i64 pa)])) W.heap.size (mapOf Value.string (capL pa pb))).setCell ⟨ab, 13, none⟩ (.map (some W.heap.size))) ab ⟨b, comp, rt, pt, bmin, bmax, ms, some W.heap.size⟩
      (fun k => ofZ (capOf pa pb k * comp)) true sp sd := by
  have hal := lt_of_heap h.ann
  have ha := h.hab
  obtain ⟨V, hV⟩ : ∃ V, setBlock (setBlock (W.alloc (.map #[] 0)) W.heap.size (mapOf Value.string [(⟨#[65]⟩, .int .i64 pa)])) W.heap.size (mapOf Value.string (capL pa pb)) = V := ⟨_, rfl⟩
  have hVs : V.heap.size = W.heap.size + 1 := by rw [← hV]; simp [ChangeMaps.setBlock]
  have hVq : V.heap[W.heap.size]? = some (mapOf Value.string (capL pa pb)) := by
    rw [← hV]
    exact heap_block_at (heap_block_at (o' := mapOf Value.string [(⟨#[65]⟩, .int .i64 pa)]) (heap_alloc_at W (.map #[] 0)))
  have hVo : ∀ k, k < W.heap.size → V.heap[k]? = W.heap[k]? := fun k hk => by
    rw [← hV, heap_block_other (by omega), heap_block_other (by omega), heap_alloc_lt W _ hk]
  have hVb : Below W.heap.size W V := ⟨by rw [← hV]; rfl, by rw [← hV]; rfl, by rw [← hV]; rfl, by omega, hVo⟩
  rw [hV]
  have hap : Apart ab W (V.setCell ⟨ab, 13, none⟩ (.map (some W.heap.size))) := ⟨by simp; omega, fun k hk hn => (heap_set_other _ hn _ _ _).trans (hVo k hk)⟩
  refine ⟨?_, fun W' hW => h.span W' (hap.trans hW), fun W' hW k => ?_, ?_, ha⟩
  · exact heap_set_at ((hVo ab hal).trans h.ann) 13 (.map (some W.heap.size))
  · have e2 : W'.heap[W.heap.size]? = some (mapOf Value.string (capL pa pb)) := (hW.2 W.heap.size (by simp; omega) (by omega)).trans ((heap_set_other _ (by omega) _ _ _).trans hVq)
    have hlk : (look k (capL pa pb)).getD (.int .i64 0) = .int .i64 (capOf pa pb k) := by
      unfold capL capOf
      by_cases e : k = ⟨#[65]⟩
      · subst e
        simp [look]
      · have e' : ¬ (⟨#[65]⟩ : ByteArray) = k := fun h => e h.symm
        by_cases f : k = ⟨#[66]⟩
        · subst f
          simp [look]
        · have f' : ¬ (⟨#[66]⟩ : ByteArray) = k := fun h => f h.symm
          simp [look, e, e', f, f']
    have hbd : 0 ≤ capOf pa pb k ∧ capOf pa pb k ≤ 1000000 := by
      unfold capOf
      split
      · exact ⟨a0, a1⟩
      split
      · exact ⟨b0, b1⟩
      · omega
    obtain ⟨d1, d2⟩ := cap_bd hbd.1 hbd.2 k0 k1
    exact limit_some W.heap.size (capL pa pb) k (capOf pa pb k) comp W' e2 hlk d1 d2
  · exact (h.below.trans (hVb.mono hN)).setCell ha _

theorem Prep.capCell {N : Nat} {w W : World} {ab : Nat} {b : Bool} {comp rt pt bmin bmax : Int} {ms : Option Addr} {lim : ByteArray → Int} {ld : Bool} {sp : Int} {sd : Bool} (h : Prep N w W ab ⟨b, comp, rt, pt, bmin, bmax, ms, none⟩ lim ld sp sd) (pa pb : Int) :
    (setBlock (setBlock (W.alloc (.map #[] 0)) W.heap.size (mapOf Value.string [(⟨#[65]⟩, .int .i64 pa)])) W.heap.size (mapOf Value.string (capL pa pb))).cell? ⟨ab, 13, none⟩ = some (.map none) ∧
    (setBlock (setBlock (W.alloc (.map #[] 0)) W.heap.size (mapOf Value.string [(⟨#[65]⟩, .int .i64 pa)])) W.heap.size (mapOf Value.string (capL pa pb))).frozen? ⟨ab, 13, none⟩ = false := by
  have hal := lt_of_heap h.ann
  have e : (setBlock (setBlock (W.alloc (.map #[] 0)) W.heap.size (mapOf Value.string [(⟨#[65]⟩, .int .i64 pa)])) W.heap.size (mapOf Value.string (capL pa pb))).heap[ab]? = _ :=
    (heap_block_other (by omega)).trans ((heap_block_other (by omega)).trans ((heap_alloc_lt W _ hal).trans h.ann))
  exact ⟨by rw [cell_of e]; rfl, thawed_of e _ _⟩

/-- THE SYNDICATE. -/
structure SynAt (W : World) (syn : Option Nat) (km : Nat) (cl : List (ByteArray × ByteArray)) : Prop where
  some : ∀ sb, syn = some sb → W.heap[sb]? = some (.cells #[.map (some km)] 51 (0, 0)) ∧ W.heap[km]? = some (clsObj cl) ∧ (cl.map (·.1)).Nodup
  none : syn = none → cl = []

theorem SynAt.mono {W W2 : World} {syn : Option Nat} {km : Nat} {cl : List (ByteArray × ByteArray)} (h : SynAt W syn km cl) (hb : Below W.heap.size W W2) : SynAt W2 syn km cl :=
  ⟨fun sb e => by
    obtain ⟨h1, h2, h3⟩ := h.some sb e
    exact ⟨(hb.block _ (lt_of_heap h1)).trans h1, (hb.block _ (lt_of_heap h2)).trans h2, h3⟩, h.none⟩

/-- A slice of small numbers that is handed in. -/
def ArgU8 (w : World) (a : Option Addr) (n : Nat) (f : Nat → Int) : Prop :=
  0 < n → ∃ b o, a = some ⟨b, o, none⟩ ∧ b < w.heap.size ∧ ∀ j, j < n → w.cell? ⟨b, o + j, none⟩ = some (.int .u8 (f j))
/-- The drawn bids that are handed in. -/
def ArgRaw (w : World) (a : Option Addr) (n : Nat) (mf lf af : Nat → Int) : Prop :=
  0 < n → ∃ b o, a = some ⟨b, o, none⟩ ∧ b < w.heap.size ∧ ∀ i, i < n → w.cell? ⟨b, o + i * 3, none⟩ = some (.int .u8 (mf i)) ∧ w.cell? ⟨b, o + i * 3 + 1, none⟩ = some (.int .u32 (lf i)) ∧ w.cell? ⟨b, o + i * 3 + 2, none⟩ = some (.int .i32 (af i))

theorem ArgU8.mono {w W : World} {a : Option Addr} {n : Nat} {f : Nat → Int} (h : ArgU8 w a n f) {N : Nat} (hN : w.heap.size ≤ N) (hb : Below N w W) : ArgU8 W a n f := fun hn => by
  obtain ⟨b, o, h1, h2, h3⟩ := h hn
  exact ⟨b, o, h1, Nat.lt_of_lt_of_le h2 hb.size, fun j hj => (hb.cell (p := ⟨b, o + j, none⟩) (Nat.lt_of_lt_of_le h2 hN)).trans (h3 j hj)⟩
theorem ArgRaw.mono {w W : World} {a : Option Addr} {n : Nat} {mf lf af : Nat → Int} (h : ArgRaw w a n mf lf af) {N : Nat} (hN : w.heap.size ≤ N) (hb : Below N w W) : ArgRaw W a n mf lf af := fun hn => by
  obtain ⟨b, o, h1, h2, h3⟩ := h hn
  refine ⟨b, o, h1, Nat.lt_of_lt_of_le h2 hb.size, fun i hi => ?_⟩
  obtain ⟨c0, c1, c2⟩ := h3 i hi
  exact ⟨(hb.cell (p := ⟨b, o + i * 3, none⟩) (Nat.lt_of_lt_of_le h2 hN)).trans c0, (hb.cell (p := ⟨b, o + i * 3 + 1, none⟩) (Nat.lt_of_lt_of_le h2 hN)).trans c1, (hb.cell (p := ⟨b, o + i * 3 + 2, none⟩) (Nat.lt_of_lt_of_le h2 hN)).trans c2⟩

/-- WHAT zzs3274bbuild LEAVES, as it is used. -/
structure Bids (w w' : World) (BB LB TB n m' m : Nat) (obj : Bool) (mf lf af : Nat → Int) (ps : Nat → Nat) : Prop where
  built : Built w' BB LB n n obj mf lf af
  time : ∀ j, j < m' → w'.cell? ⟨TB, j, none⟩ = some (.int .i64 ((ps j : Nat) : Int))
  lt : ∀ j, j < m' → ps j < n
  le : m' ≤ m
  tlt : TB < w'.heap.size
  below : Below w.heap.size w w'

theorem build_all (obj : Bool) (n rc m tc : Nat) (ra ta : Option Addr) (mf lf af tf : Nat → Int) (w : World) (hn : n ≤ 300) (hm : m ≤ 1024)
    (hmf : ∀ i, 0 ≤ mf i ∧ mf i ≤ 255) (hlf : ∀ i, 0 ≤ lf i ∧ lf i ≤ 4294967295) (haf : ∀ i, -2147483648 ≤ af i ∧ af i ≤ 2147483647) (htf : ∀ i, 0 ≤ tf i ∧ tf i ≤ 255) (hR : ArgRaw w ra n mf lf af) (hT : ArgU8 w ta m tf) :
    Calls Yba.prog 11 #[.bool obj, .slice ra n rc, .slice ta m tc] w fun r w' => ∃ BB LB TB m' ps, r = .returned (.tuple #[.slice (some ⟨BB, 0, none⟩) n n, .slice (some ⟨LB, 0, none⟩) n n, .slice (some ⟨TB, 0, none⟩) m' m]) ∧
      Bids w w' BB LB TB n m' m obj mf lf af ps := by
  by_cases h0 : 0 < n
  · obtain ⟨rb, ro, rfl, h2, h3⟩ := hR h0
    refine (build_pos obj n rc m tc rb ro ta mf lf af w hn h0 hm hmf hlf haf h3 h2 tf htf hT).mono ?_
    rintro r w' ⟨tb, rfl, hB, hO, hle, hBe⟩
    refine ⟨_, _, tb, m, fun q => (tf q % n).toNat, rfl, ⟨hB, fun j hj => ?_, fun j _ => ?_, Nat.le_refl _, (hO.lt _ rfl).2, hBe⟩⟩
    · have := hO.cellAt j (by omega)
      rw [this]
      have e : ((tf j % (n : Int)).toNat : Int) = tf j % n := Int.toNat_of_nonneg (Int.emod_nonneg _ (by omega))
      rw [e]
      simp [hj]
    · have h1 : tf j % (n : Int) < n := Int.emod_lt_of_pos _ (by omega)
      have h2 : 0 ≤ tf j % (n : Int) := Int.emod_nonneg _ (by omega)
      show (tf j % (n : Int)).toNat < n
      omega
  · obtain rfl : n = 0 := by omega
    refine (build_zero obj rc m tc ra ta mf lf af tf w hm).mono ?_
    rintro r w' ⟨tb, rfl, hB, hO, hle, hBe⟩
    exact ⟨_, _, tb, 0, fun _ => 0, rfl, ⟨hB, fun j hj => absurd hj (by omega), fun j hj => absurd hj (by omega), Nat.zero_le _, (hO.lt _ rfl).2, hBe⟩⟩

/-! ### The plain laws on 'steps' -/
theorem chk_ins (c : Cfg) (m : M) (l a : Int) : (chk c m l a).2.ins = m.ins := by
  unfold chk
  split
  · rfl
  split
  · rfl
  split
  · rfl
  split
  · rfl
  split
  · rfl
  split
  · rfl
  rfl

theorem foldl_ins (c : Cfg) (nm : Nat → ByteArray) (lv am : Nat → Int) : ∀ (ps : List Nat) (s : (ByteArray → M) × (Nat → ByteArray)) (x : ByteArray), ((ps.foldl (stp c nm lv am) s).1 x).ins = (s.1 x).ins
  | [], _, _ => rfl
  | i :: ps, s, x => by
    rw [List.foldl_cons, foldl_ins c nm lv am ps]
    simp only [stp, upd]
    split
    · rename_i e
      rw [chk_ins, e]
    · rfl

/-- A place that is never named keeps the empty reason. -/
theorem steps_unseen (c : Cfg) (nm : Nat → ByteArray) (lv am : Nat → Int) (S : ByteArray → M) (i : Nat) : ∀ ps : List Nat, i ∉ ps → (steps c nm lv am S ps).2 i = ⟨#[]⟩ := by
  have key : ∀ (ps : List Nat) (s : (ByteArray → M) × (Nat → ByteArray)), i ∉ ps → (ps.foldl (stp c nm lv am) s).2 i = s.2 i := by
    intro ps
    induction ps with
    | nil => intro s _; rfl
    | cons q ps ih =>
      intro s h
      rw [List.foldl_cons, ih _ (fun e => h (List.mem_cons_of_mem _ e))]
      simp only [stp]
      rw [if_neg (fun e => h (by rw [e]; exact List.mem_cons_self))]
  exact fun ps h => key ps _ h

/-- A place that is named and whose member the syndicate does not list is rejected. -/
theorem steps_unknown (c : Cfg) (nm : Nat → ByteArray) (lv am : Nat → Int) (S : ByteArray → M) (i : Nat) (hT : c.onT = false) (hs : c.syn.isSome = true) (hi : (S (nm i)).ins = false) :
    ∀ ps : List Nat, i ∈ ps → (steps c nm lv am S ps).2 i = rUnknown := by
  have hc : ∀ m l a, m.ins = false → (chk c m l a).1 = rUnknown := by
    intro m l a h
    unfold chk
    simp [hT, hs, h]
  have key : ∀ (ps : List Nat) (s : (ByteArray → M) × (Nat → ByteArray)), (s.1 (nm i)).ins = false → (i ∈ ps ∨ s.2 i = rUnknown) → (ps.foldl (stp c nm lv am) s).2 i = rUnknown := by
    intro ps
    induction ps with
    | nil =>
      rintro s _ (h | h)
      · cases h
      · exact h
    | cons q ps ih =>
      intro s h1 h2
      rw [List.foldl_cons]
      refine ih _ ?_ ?_
      · have := foldl_ins c nm lv am [q] s (nm i)
        simp only [List.foldl_cons, List.foldl_nil] at this
        rw [this, h1]
      · by_cases e : q = i
        · right
          subst e
          simp only [stp]
          rw [if_pos trivial]
          exact hc _ _ _ h1
        · rcases h2 with h2 | h2
          · left
            rcases List.mem_cons.1 h2 with h | h
            · exact absurd h.symm e
            · exact h
          · right
            simp only [stp]
            rw [if_neg (fun h => e h.symm)]
            exact h2
  exact fun ps h => key ps _ hi (.inl h)

end Go.Proofs.Ybulkboty
