import Derived.Test.YbulkiraRSearch
import Derived.Deep.AppendLies
import Derived.Deep.RegionHeld3
import Derived.Deep.DrawnRows
import Derived.Laws.CopyOwn
import Derived.Laws.CopyRow
namespace Go.Proofs.Ybulkira
open Go.RowKit
set_option linter.unusedVariables false
attribute [local go_sem ↓] Go.wp_at_zero Go.wp_at_succ

section
variable {P : Program}

/-- copy, where an element is s cells -/
theorem run_copy_sized (w : World) (s : Nat) (hs0 : 0 < s) (dT sT ty elem : TypeId) (g o dLen dCap : Nat) (a : Addr) (sLen sCap : Nat) (cur : Array Value) (t : TypeId) (cs : List Value)
    (hu : P.underlying dT = some (.slice elem)) (hs : (P.info? elem).map (·.size) = some s)
    (hg : w.heap[g]? = some (.cells cur t (0, 0))) (hn : cs.length = Nat.min sLen dLen * s)
    (hsrc : ∀ j v, cs[j]? = some v → w.cell? (a.add j) = some v) (hfit : o + cs.length ≤ cur.size) (h1 : ∀ v ∈ cs, v.oneCell' = true) :
    (Builtin.copy_ #[dT, sT] ty #[.slice (some ⟨g, o, none⟩) dLen dCap, .slice (some a) sLen sCap]).run P w =
      .ok (goInt (Nat.min sLen dLen)) (w.setRow g (splice cur.toList o cs).toArray) := by
  have hl := run_loadCells_list (P := P) w a cs hsrc
  have hst := run_storeCells_at P g o t cs 0 cur w hg (by simpa using hfit) h1
  cases hq : P.info? elem with
  | none => simp [hq] at hs
  | some i =>
    have hi : i.size = s := by simpa [hq] using hs
    simp [Builtin.copy_, run_underlying hu, Builtin.lenOf, Builtin.firstCells, sizeOf, typeInfo, hq, hi, ← hn, hl, hst, splice]
end

theorem grown_setRow (w : World) (g : Nat) (cs : Array Value) : w.grownBy (w.setRow g cs) (some g) :=
  ⟨rfl, rfl, rfl, by simp [World.setRow], fun k _ hne => setRow_other w g k cs (fun e => hne (by rw [e]))⟩

/-- .. as one step of a region that draws -/
theorem step_copy_sized {P : Program} {ops : Array Oper} {o : Oper} {a : Act} {w : World} {K : Act → World → Prop} {Q : Exit → Act → World → Prop} {E : Prop} (hgd : o.guard = none) (d s : Operand) (dT sT : TypeId)
    (ho : o.op = .call { callee := .builtin .copy, args := #[d, s], argTypes := #[dT, sT] }) (elem : TypeId) (z : Nat) (hz : 0 < z) (hu : P.underlying dT = some (.slice elem)) (hsz : (P.info? elem).map (·.size) = some z)
    (g off dLen dCap : Nat) (ad : Addr) (sLen sCap : Nat) (hd : a.eval d = .slice (some ⟨g, off, none⟩) dLen dCap) (hs : a.eval s = .slice (some ad) sLen sCap)
    (cur : Array Value) (t : TypeId) (hg : w.heap[g]? = some (.cells cur t (0, 0))) (cs : List Value) (hn : cs.length = Nat.min sLen dLen * z)
    (hsrc : ∀ j v, cs[j]? = some v → w.cell? (ad.add j) = some v)
    (hfit : off + cs.length ≤ cur.size) (h1 : ∀ v ∈ cs, v.oneCell' = true)
    (h : ∀ w', Hid (w'.heap[g]? = some (.cells (splice cur.toList off cs).toArray t (0, 0))) → Hid (w.grownBy w' (some g)) → K (a.put o.dst (goInt (Nat.min sLen dLen))) w') :
    if Region.wanted o (yielded ops a.tmps) = true then Oper.wp P o a w K Q else E := by
  have hw : Region.wanted o (yielded ops a.tmps) = true := by simp [Region.wanted, hgd]
  rw [if_pos hw]
  have hrun := run_copy_sized (P := P) w z hz dT sT o.type elem g off dLen dCap ad sLen sCap cur t cs hu hsz hg hn hsrc hfit h1
  unfold Oper.wp
  simp [execOp, ho, resolve, invoke, builtin, hd, hs, hrun, Result.andThen]
  exact h _ (show _ = _ from setRow_heap w g _ _ t _ hg) (grown_setRow w g _)

/-- the cells of an item are single cells -/
theorem itemCells_one (xs : List Nat) : ∀ v ∈ itemCells xs, v.oneCell' = true := by
  intro v hv
  simp only [itemCells, List.mem_flatMap] at hv
  obtain ⟨x, _, hv⟩ := hv
  simp at hv
  rcases hv with rfl | rfl <;> rfl

theorem itemCells_append (xs ys : List Nat) : itemCells (xs ++ ys) = itemCells xs ++ itemCells ys := by simp [itemCells]
theorem itemCells_cons (x : Nat) (ys : List Nat) : itemCells (x :: ys) = .string (keyB x) :: .int .i64 (x : Int) :: itemCells ys := rfl

/-- the row behind an insertion -/
theorem ins_cells {α : Type} (A B : List α) (z1 z2 a b : α) (rest : List α) :
    ((splice (A ++ (B ++ (z1 :: z2 :: rest))) (A.length + 2) B).set A.length a).set (A.length + 1) b = A ++ (a :: b :: (B ++ rest)) := by
  have e1 : (A ++ (B ++ (z1 :: z2 :: rest))).drop (A.length + 2 + B.length) = rest := by
    rw [show A.length + 2 + B.length = A.length + (B.length + 2) by omega, ← List.drop_drop, List.drop_left, ← List.drop_drop, List.drop_left]
    rfl
  obtain ⟨y1, y2, hy⟩ : ∃ y1 y2, (A ++ (B ++ (z1 :: z2 :: rest))).take (A.length + 2) = A ++ [y1, y2] := by
    rw [List.take_append, List.take_of_length_le (by omega), show A.length + 2 - A.length = 2 by omega]
    rcases B with _ | ⟨b1, _ | ⟨b2, B⟩⟩
    · exact ⟨z1, z2, by simp⟩
    · exact ⟨b1, z1, by simp⟩
    · exact ⟨b1, b2, by simp⟩
  rw [splice, e1, hy, List.append_assoc, List.set_append_right _ _ (by omega), Nat.sub_self, List.set_append_right _ _ (by omega), show A.length + 1 - A.length = 1 by omega]
  rfl

theorem ins_cells1 {α : Type} (A B : List α) (z1 a : α) (rest : List α) :
    (splice (A ++ (B ++ (z1 :: rest))) (A.length + 1) B).set A.length a = A ++ (a :: (B ++ rest)) := by
  have e1 : (A ++ (B ++ (z1 :: rest))).drop (A.length + 1 + B.length) = rest := by
    rw [show A.length + 1 + B.length = A.length + (B.length + 1) by omega, ← List.drop_drop, List.drop_left, ← List.drop_drop, List.drop_left]
    rfl
  obtain ⟨y1, hy⟩ : ∃ y1, (A ++ (B ++ (z1 :: rest))).take (A.length + 1) = A ++ [y1] := by
    rw [List.take_append, List.take_of_length_le (by omega), show A.length + 1 - A.length = 1 by omega]
    rcases B with _ | ⟨b1, B⟩
    · exact ⟨z1, by simp⟩
    · exact ⟨b1, by simp⟩
  rw [splice, e1, hy, List.append_assoc, List.set_append_right _ _ (by omega), Nat.sub_self]
  rfl

/-- the row behind a removal: what is left of it -/
theorem del_cells {α : Type} (A M B rest : List α) : (splice (A ++ (M ++ (B ++ rest))) A.length B).take (A.length + B.length) = A ++ B := by
  rw [splice, List.take_left, ← List.append_assoc]
  rw [List.take_append_of_le_length (by simp), List.take_of_length_le (by simp)]
end Go.Proofs.Ybulkira
