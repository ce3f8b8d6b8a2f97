/-
  The small functions under NewEntryChecks: tick, tickSpan, classLimit; and zzs3274bcode. Of this seat's own.
-/
import Derived.Test.YbulkbotyMember
namespace Go.Proofs.Ybulkboty
open Go.RowKit Go.ChangeMaps

def oPrice : ByteArray := ⟨#[112, 114, 105, 99, 101]⟩
def oRate : ByteArray := ⟨#[114, 97, 116, 101]⟩
def objOf (b : Bool) : ByteArray := if b then oPrice else oRate

def codeOf (x : Int) : ByteArray :=
  if x % 5 = 0 then ⟨#[65, 49]⟩ else if x % 5 = 1 then ⟨#[66, 45, 50]⟩ else if x % 5 = 2 then ⟨#[99, 95, 51]⟩ else if x % 5 = 3 then ⟨#[88, 57]⟩ else ⟨#[89, 56]⟩

theorem code_any (x : Int) (w : World) (h0 : 0 ≤ x) (h1 : x ≤ 255) :
    Calls Yba.prog 10 #[.int .u8 x] w fun e w' => e = .returned (.string (codeOf x)) ∧ w' = w := by
  have h : x % 5 = 0 ∨ x % 5 = 1 ∨ x % 5 = 2 ∨ x % 5 = 3 ∨ x % 5 = 4 := by omega
  obtain ⟨r, hr⟩ : ∃ r, codeOf x = r := ⟨_, rfl⟩
  have HR : Hid (codeOf x = r) := hr
  rw [hr]
  clear hr
  rcases h with h | h | h | h | h
  all_goals
    have HR2 : Hid (r = codeOf x) := HR.out.symm
    have HX := HR2.out
    unfold codeOf at HX
    rw [h] at HX
    simp only [if_true, Int.reduceEq, if_false] at HX
    have HY : Hid (r = _) := HX
    clear HX
    go_enter Yba.func10, Yba.ntmps10
    go_wp2
    go_ret
    exact ⟨by rw [HY.out]; rfl, rfl⟩

/-- (Announcement).tick. -/
theorem tick_any (b : Bool) (comp rt pt bmin bmax : Int) (ms : Option Addr) (mc : Option Nat) (w : World) :
    Calls Yba.prog 16 #[.agg (annCells (objOf b) comp rt pt bmin bmax ms mc)] w fun r w' => r = .returned (.int .i64 (if b then pt else rt)) ∧ w' = w.alloc (.cells (annCells (objOf b) comp rt pt bmin bmax ms mc) 45) := by
  cases b
  · have e0 : (if false = true then pt else rt) = rt := rfl
    rw [e0]
    unfold annCells objOf oRate oPrice
    simp only [Bool.false_eq_true, if_false]
    go_enter Yba.func16, Yba.ntmps16
    go_wp2
    go_ret
    exact ⟨rfl, rfl⟩
  · have e0 : (if true = true then pt else rt) = pt := rfl
    rw [e0]
    unfold annCells objOf oRate oPrice
    simp only [if_true]
    go_enter Yba.func16, Yba.ntmps16
    go_wp2
    go_ret
    exact ⟨rfl, rfl⟩

theorem span_nil (tick : Int) (w : World) : Calls Yba.prog 17 #[.pointer none, .int .i64 tick] w fun r w' => r = .returned (.tuple #[.int .i64 0, .bool false]) ∧ ∃ nq, w' = w.drewN nq := by
  go_enter Yba.func17, Yba.ntmps17
  go_wp2
  go_ret2
  exact ⟨rfl, 0, rfl⟩

theorem span_some (b : Nat) (n tick : Int) (w : World) (hc : w.cell? ⟨b, 0, none⟩ = some (.int .i64 n)) (h0 : 0 ≤ n) (h1 : n ≤ 255) (t0 : 0 ≤ tick) (t1 : tick ≤ 65535) :
    Calls Yba.prog 17 #[.pointer (some ⟨b, 0, none⟩), .int .i64 tick] w fun r w' => r = .returned (.tuple #[.int .i64 (n * tick), .bool true]) ∧ ∃ nq, w' = w.drewN nq := by
  have p0 : 0 ≤ n * tick := Int.mul_nonneg h0 t0
  have p1 : n * tick ≤ 16711425 := by
    have := Int.mul_le_mul h1 t1 t0 (by omega)
    omega
  by_cases h : 0 < tick
  · have hd : n ≤ 99999999999 / tick := (Int.le_ediv_iff_mul_le h).2 (by omega)
    go_enter Yba.func17, Yba.ntmps17
    go_wp2
    go_quiet (fail)
    go_wp2
    go_ret2
    exact ⟨rfl, _, rfl⟩
  · have hd : decide (0 < tick) = false := by simpa using h
    go_enter Yba.func17, Yba.ntmps17
    go_wp2
    go_quiet (fail)
    go_wp2
    go_ret2
    exact ⟨rfl, _, rfl⟩

theorem zero24 (w : World) : (zeroValue 24).run Yba.prog w = .ok (.int .i64 0) w := by kernel_rfl

theorem limit_nil (cl : ByteArray) (comp : Int) (w : World) : Calls Yba.prog 18 #[.map none, .string cl, .int .i64 comp] w fun r w' => r = .returned (.tuple #[.int .i64 0, .bool false]) ∧ w' = w := by
  have hnm := fun r => run_eql_map_nil (P := Yba.prog) w 42 _ _ r Yba.underlying42
  go_enter Yba.func18, Yba.ntmps18
  go_wp2
  go_ret2
  exact ⟨rfl, rfl⟩

theorem limit_some (q : Nat) (pcs : List (ByteArray × Value)) (cl : ByteArray) (p comp : Int) (w : World) (hq : w.heap[q]? = some (mapOf Value.string pcs)) (hp : (look cl pcs).getD (.int .i64 0) = .int .i64 p)
    (b1 : -100000000000000000 ≤ p * comp) (b2 : p * comp ≤ 100000000000000000) :
    Calls Yba.prog 18 #[.map (some q), .string cl, .int .i64 comp] w fun r w' => r = .returned (.tuple #[.int .i64 (ofZ (p * comp)), .bool true]) ∧ w' = w := by
  have hnm := fun r => run_eql_map_nil (P := Yba.prog) w 42 _ _ r Yba.underlying42
  have hl := run_lookup (P := Yba.prog) (t := 42) str_isKey str_inj Yba.underlying42 Yba.underlying46 (zero24 w) hq cl
  rw [hp] at hl
  have hof := of_any p comp w b1 b2
  go_enter Yba.func18, Yba.ntmps18
  go_wp2_with (go_at_call 8; refine hof.mono ?_; rintro e w' ⟨rfl, rfl⟩)
  go_ret2
  exact ⟨rfl, rfl⟩
end Go.Proofs.Ybulkboty
