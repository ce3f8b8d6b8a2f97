/-
  Operations that may be taken first in a region that draws its order. Of this seat's own.
-/
import Derived.Test.YbulkbotyProg
import Derived.Deep.MidRow
import Derived.Deep.RegionHeld
namespace Go.Proofs.Ybulkboty

theorem run_index {P : Program} {t : TypeId} {b n c i s : Nat} {k : IntKind} (W : World) (hi : i < n) (hu : P.underlying t = some (.slice (P.elem t))) (hs : (P.info? (P.elem t)).map (·.size) = some s) :
    (Instr.indexAt t (.slice (some ⟨b, 0, none⟩) n c) (.int k (i : Int))).run P W = .ok (.pointer (some ⟨b, i * s, none⟩)) W := by
  have h1 : (0 : Int) ≤ (i : Int) ∧ (i : Int) < (n : Int) := ⟨by omega, by omega⟩
  cases hq : P.info? (P.elem t) with
  | none => simp [hq] at hs
  | some j =>
    have hs' : j.size = s := by simpa [hq] using hs
    rw [run_indexAt_slice _ _ _ _ _ _ _ hu, if_pos h1]
    simp [sizeOf, typeInfo, hq, hs', Addr.add_mid]

theorem yi_index {P : Program} {ops : Array Oper} {S : World → Prop} {op : Oper} {a : Act} (hw : Region.wanted op (yielded ops a.tmps) = true) (t : TypeId) (x y : Operand) (ho : op.op = .indexAddr t x y)
    {b n c i s : Nat} {k : IntKind} (hx : a.eval x = .slice (some ⟨b, 0, none⟩) n c) (hy : a.eval y = .int k (i : Int)) (hi : i < n)
    (hu : P.underlying t = some (.slice (P.elem t))) (hs : (P.info? (P.elem t)).map (·.size) = some s) : YieldsIf P ops S op (.pointer (some ⟨b, i * s, none⟩)) a :=
  .inl ⟨hw, fun W _ => by
    unfold execOp
    simp only [ho, hx, hy, Sem.run_bind, Sem.run_pure, Result.andThen_ok, run_index W hi hu hs]⟩

theorem run_load1 {P : Program} {t : TypeId} {b o : Nat} {v : Value} {d : TypeDesc} (W : World) (hc : W.cell? ⟨b, o, none⟩ = some v) (hu : P.underlying t = some d) (hd : d.isRow = false) :
    (Instr.loadAt t (.pointer (some ⟨b, o, none⟩))).run P W = .ok v W := by
  have hagg : (isAgg t).run P W = .ok false W := by
    unfold isAgg
    rw [Sem.run_bind, run_underlying hu W]
    cases d <;> simp_all
  simp [Instr.loadAt, Instr.sureAddr, loadVar, Sem.run_bind, hagg, hc]

theorem yi_load {P : Program} {ops : Array Oper} {S : World → Prop} {op : Oper} {a : Act} (hw : Region.wanted op (yielded ops a.tmps) = true) (t : TypeId) (x : Operand) (ho : op.op = .load t x)
    {b o : Nat} {v : Value} {d : TypeDesc} (hx : a.eval x = .pointer (some ⟨b, o, none⟩)) (hS : ∀ W, S W → W.cell? ⟨b, o, none⟩ = some v)
    (hu : P.underlying t = some d) (hd : d.isRow = false) : YieldsIf P ops S op v a :=
  .inl ⟨hw, fun W hW => by
    unfold execOp
    simp only [ho, hx, Sem.run_bind, Sem.run_pure, Result.andThen_ok, run_load1 W (hS W hW) hu hd]⟩

end Go.Proofs.Ybulkboty
