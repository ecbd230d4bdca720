import Derived.Test.YbulkiqmBWalk
import Derived.Deep.RegionWith
namespace Go.Proofs.Ybulkiqm
open Go.RowKit
set_option linter.unusedVariables false

theorem neq_nil_ptr {P : Program} (w : World) (tp te : TypeId) (b : Addr) (hp : P.underlying tp = some (.pointer te)) :
    (binOp .neq tp (.pointer none) (.pointer (some b))).run P w = .ok (.bool true) w := by
  have h : ∀ d : Nat, (Op.equalIn (d + 1) tp (.pointer none) (.pointer (some b))).run P w = .ok false w := fun d => by
    simp [Op.equalIn, run_underlying hp]
  simp only [binOp]
  simp [Op.equal, Op.maxDepth, h 9999]

theorem PlainAt.alloc {w : World} {b : Nat} (h : PlainAt w b) (o : Obj) : PlainAt (w.alloc o) b := by
  obtain ⟨c, t, h⟩ := h
  have hb : b < w.heap.size := (Array.getElem?_eq_some_iff.1 h).1
  exact ⟨c, t, (Below.heap_alloc w o b hb).trans h⟩

set_option maxHeartbeats 1000000 in
theorem holder_nil (c u a n v : Nat) (k : Int)  (w : World) (h1 : 1 ≤ k) (h2 : k ≤ n) (hn : n ≤ 8) (hal : a < w.heap.size) (hcl : c < w.heap.size) (hul : u < w.heap.size)
    (c1 : w.cell? ⟨c, 19, none⟩ = some (.pointer (some ⟨u, 0, none⟩))) (c2 : w.cell? ⟨c, 20, none⟩ = some (.int .i64 k)) (c3 : w.cell? ⟨u, 1, none⟩ = some (.slice (some ⟨a, 0, none⟩) n n))
    (c4 : w.cell? ⟨a, (k.toNat - 1) * 2, none⟩ = some (.pointer (some ⟨v, 0, none⟩))) (c5 : w.cell? ⟨a, (k.toNat - 1) * 2 + 1, none⟩ = some (.pointer none)) :
    Calls Yba.prog 6 #[.pointer (some ⟨c, 0, none⟩)] w fun e w' => e = .returned (.tuple #[.pointer none, .pointer none]) ∧ Below w.heap.size w w' := by
  have he : ∀ w', (binOp .neq 28 (.pointer none) (.pointer (some ⟨c, 0, none⟩))).run Yba.prog w' = .ok (.bool true) w' := fun w' => neq_nil_ptr w' 28 51 _ Yba.underlying28
  go_enter Yba.func6, Yba.ntmps6
  go_wp2_with fail
  go_ret2
  exact ⟨rfl, (Below.refl _ _).alloc (Nat.le_refl _) _⟩

set_option maxHeartbeats 1000000 in
theorem holder_other (c u a n v : Nat) (k : Int) (d : Nat) (w : World) (h1 : 1 ≤ k) (h2 : k ≤ n) (hn : n ≤ 8) (hal : a < w.heap.size) (hcl : c < w.heap.size) (hul : u < w.heap.size)
    (c1 : w.cell? ⟨c, 19, none⟩ = some (.pointer (some ⟨u, 0, none⟩))) (c2 : w.cell? ⟨c, 20, none⟩ = some (.int .i64 k)) (c3 : w.cell? ⟨u, 1, none⟩ = some (.slice (some ⟨a, 0, none⟩) n n))
    (c4 : w.cell? ⟨a, (k.toNat - 1) * 2, none⟩ = some (.pointer (some ⟨v, 0, none⟩))) (c5 : w.cell? ⟨a, (k.toNat - 1) * 2 + 1, none⟩ = some (.pointer (some ⟨d, 0, none⟩))) (hd : PlainAt w d) (hc : PlainAt w c) (hne : d ≠ c) :
    Calls Yba.prog 6 #[.pointer (some ⟨c, 0, none⟩)] w fun e w' => e = .returned (.tuple #[.pointer none, .pointer none]) ∧ Below w.heap.size w w' := by
  have he : ∀ o, (binOp .neq 28 (.pointer (some ⟨d, 0, none⟩)) (.pointer (some ⟨c, 0, none⟩))).run Yba.prog (w.alloc o) = .ok (.bool true) (w.alloc o) :=
    fun o => neq_ptr_other (w.alloc o) 28 51 _ _ Yba.underlying28 (info_ne Yba.size51) (fun h => hne (congrArg Addr.block h)) (hd.alloc o) (hc.alloc o)
  clear hd hc hne
  go_enter Yba.func6, Yba.ntmps6
  go_wp2_with fail
  go_ret2
  exact ⟨rfl, (Below.refl _ _).alloc (Nat.le_refl _) _⟩

set_option maxHeartbeats 1000000 in
theorem holder_yes (c u a n v : Nat) (k : Int) (L : Option Addr) (w : World) (h1 : 1 ≤ k) (h2 : k ≤ n) (hn : n ≤ 8) (hal : a < w.heap.size) (hcl : c < w.heap.size) (hul : u < w.heap.size)
    (c1 : w.cell? ⟨c, 19, none⟩ = some (.pointer (some ⟨u, 0, none⟩))) (c2 : w.cell? ⟨c, 20, none⟩ = some (.int .i64 k)) (c3 : w.cell? ⟨u, 1, none⟩ = some (.slice (some ⟨a, 0, none⟩) n n))
    (c4 : w.cell? ⟨a, (k.toNat - 1) * 2, none⟩ = some (.pointer (some ⟨v, 0, none⟩))) (c5 : w.cell? ⟨a, (k.toNat - 1) * 2 + 1, none⟩ = some (.pointer (some ⟨c, 0, none⟩))) 
    (HL : ∀ W, Below w.heap.size w W → Calls Yba.prog 11 #[.pointer (some ⟨v, 0, none⟩), .slice (some ⟨a, 0, none⟩) n n, .int .i64 k] W fun e w' => e = .returned (.pointer L) ∧ Below W.heap.size W w')
    :
    Calls Yba.prog 6 #[.pointer (some ⟨c, 0, none⟩)] w fun e w' => e = .returned (.tuple #[
      .pointer (some ⟨v, 0, none⟩), .pointer L]) ∧ Below w.heap.size w w' := by
  have he : ∀ w', (binOp .neq 28 (.pointer (some ⟨c, 0, none⟩)) (.pointer (some ⟨c, 0, none⟩))).run Yba.prog w' = .ok (.bool false) w' := fun w' => neq_ptr_same w' 28 51 _ Yba.underlying28 (info_ex Yba.size51)
  have HL' : Hid (∀ W, Below w.heap.size w W → Calls Yba.prog 11 #[.pointer (some ⟨v, 0, none⟩), .slice (some ⟨a, 0, none⟩) n n, .int .i64 k] W fun e w' => e = .returned (.pointer L) ∧ Below W.heap.size W w') := HL
  clear HL
  go_enter Yba.func6, Yba.ntmps6
  go_wp2_with fail
  go_region_with (go_at_call 11; refine (HL'.out _ ?_).mono ?_; exact ((Below.refl _ _).alloc (Nat.le_refl _) _).drew; rintro e w1 ⟨rfl, hb1⟩; have q1 := hb1.cell (p := ⟨w.heap.size, 0, none⟩) (by simp))
  all_goals go_wp2
  all_goals go_ret2
  all_goals exact ⟨rfl, (((Below.refl _ _).alloc (Nat.le_refl _) _).drew.trans (hb1.mono (by simp)))⟩
end Go.Proofs.Ybulkiqm
