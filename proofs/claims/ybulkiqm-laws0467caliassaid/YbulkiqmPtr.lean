import Derived.Test.YbulkiqmRows
import Derived.WalkKit
import Derived.WalkSpells
import Derived.LaidEqlPtr
namespace Go.Proofs.Ybulkiqm
open Go.RowKit

section
variable {P : Program} (w : World)

/-- a block of plain cells, none of them frozen -/
def PlainAt (w : World) (b : Nat) : Prop := ∃ c t, w.heap[b]? = some (.cells c t (0, 0))

theorem ptr_same_run (tp te : TypeId) (a : Addr) (hp : P.underlying tp = some (.pointer te)) (hte : ∃ j, P.info? te = some j) (d : Nat) :
    (Op.equalIn (d + 1) tp (.pointer (some a)) (.pointer (some a))).run P w = .ok true w := by
  obtain ⟨j, hte⟩ := hte
  simp [Op.equalIn, run_underlying hp, sizeOf, typeInfo, hte, run_sameAddr_same]

theorem ptr_other_run (tp te : TypeId) (a b : Addr) (hp : P.underlying tp = some (.pointer te)) (hte : ∃ j, P.info? te = some j ∧ j.size ≠ 0) (hne : a ≠ b) (ha : PlainAt w a.block) (hb : PlainAt w b.block) (d : Nat) :
    (Op.equalIn (d + 1) tp (.pointer (some a)) (.pointer (some b))).run P w = .ok false w := by
  obtain ⟨j, hte, hsz⟩ := hte
  obtain ⟨ca, ta, ha⟩ := ha
  obtain ⟨cb, tb, hb⟩ := hb
  simp [Op.equalIn, run_underlying hp, sizeOf, typeInfo, hte, hsz, run_sameAddr_other w hne ha hb]

theorem eql_ptr_same (tp te : TypeId) (a : Addr) (hp : P.underlying tp = some (.pointer te)) (hte : ∃ j, P.info? te = some j) :
    (binOp .eql tp (.pointer (some a)) (.pointer (some a))).run P w = .ok (.bool true) w := by
  simp only [binOp]
  simp [Op.equal, Op.maxDepth, ptr_same_run w tp te a hp hte 9999]

theorem neq_ptr_same (tp te : TypeId) (a : Addr) (hp : P.underlying tp = some (.pointer te)) (hte : ∃ j, P.info? te = some j) :
    (binOp .neq tp (.pointer (some a)) (.pointer (some a))).run P w = .ok (.bool false) w := by
  simp only [binOp]
  simp [Op.equal, Op.maxDepth, ptr_same_run w tp te a hp hte 9999]

theorem eql_ptr_other (tp te : TypeId) (a b : Addr) (hp : P.underlying tp = some (.pointer te)) (hte : ∃ j, P.info? te = some j ∧ j.size ≠ 0) (hne : a ≠ b) (ha : PlainAt w a.block) (hb : PlainAt w b.block) :
    (binOp .eql tp (.pointer (some a)) (.pointer (some b))).run P w = .ok (.bool false) w := by
  simp only [binOp]
  simp [Op.equal, Op.maxDepth, ptr_other_run w tp te a b hp hte hne ha hb 9999]

theorem neq_ptr_other (tp te : TypeId) (a b : Addr) (hp : P.underlying tp = some (.pointer te)) (hte : ∃ j, P.info? te = some j ∧ j.size ≠ 0) (hne : a ≠ b) (ha : PlainAt w a.block) (hb : PlainAt w b.block) :
    (binOp .neq tp (.pointer (some a)) (.pointer (some b))).run P w = .ok (.bool true) w := by
  simp only [binOp]
  simp [Op.equal, Op.maxDepth, ptr_other_run w tp te a b hp hte hne ha hb 9999]

theorem info_ne {e n : Nat} (h : (P.info? e).map (·.size) = some (n + 1)) : ∃ j, P.info? e = some j ∧ j.size ≠ 0 := by
  obtain ⟨j, hj, hs⟩ := Option.map_eq_some_iff.1 h
  exact ⟨j, hj, by omega⟩

theorem info_ex {e n : Nat} (h : (P.info? e).map (·.size) = some n) : ∃ j, P.info? e = some j := by
  obtain ⟨j, hj, _⟩ := Option.map_eq_some_iff.1 h
  exact ⟨j, hj⟩
end

theorem Yba.size54 : (Yba.prog.info? 54).map (·.size) = some 2 := by kernel_rfl
theorem Yba.size51 : (Yba.prog.info? 51).map (·.size) = some 46 := by kernel_rfl
theorem Yba.size45 : (Yba.prog.info? 45).map (·.size) = some 8 := by kernel_rfl
end Go.Proofs.Ybulkiqm
