import Derived.Test.YbulkiraRows
import Derived.Test.YbulkiraBPlain
import Derived.WalkKit
import Derived.WalkSpells
import Derived.Maps.RangeWalk
import Derived.Maps.OwnSet
import Derived.Deep.QuietTactic
import Derived.BigQuiet
import Derived.Deep.DeepCutAuto
import Derived.Deep.CutBlock
namespace Go.Proofs.Ybulkira
open Go.RowKit
set_option linter.unusedVariables false

/-- a block of plain cells, none of them frozen -/
def PlainAt (w : World) (b : Nat) : Prop := ∃ c t, w.heap[b]? = some (.cells c t (0, 0))

theorem PlainAt.lt {w : World} {b : Nat} (h : PlainAt w b) : b < w.heap.size := by
  obtain ⟨c, t, h⟩ := h
  exact (Array.getElem?_eq_some_iff.1 h).1

theorem frozen_of_plain {w : World} {b : Nat} (h : PlainAt w b) (o : Nat) : w.frozen? ⟨b, o, none⟩ = false := by
  obtain ⟨c, t, h⟩ := h
  simp [World.frozen?, h]

theorem PlainAt.setCell {w : World} {b : Nat} (h : PlainAt w b) (a : Addr) (v : Value) : PlainAt (w.setCell a v) b := by
  obtain ⟨c, t, h⟩ := h
  unfold PlainAt
  simp only [World.setCell, Array.getElem?_modify, h]
  by_cases e : a.block = b
  · exact ⟨if a.spot.isSome then c else c.setIfInBounds a.off v, t, by simp [e]⟩
  · exact ⟨c, t, by simp [e]⟩

theorem PlainAt.kept {w w' : World} {b : Nat} {row : Option Nat} (h : PlainAt w b) (hg : w.grownBy w' row) (hne : some b ≠ row) : PlainAt w' b := by
  have hlt := h.lt
  obtain ⟨c, t, h⟩ := h
  exact ⟨c, t, (hg.block b hlt hne).trans h⟩

theorem cell_new (w : World) (c : Array Value) (t : TypeId) (o : Nat) : (w.alloc (.cells c t)).cell? ⟨w.heap.size, o, none⟩ = c[o]? := by
  rw [cell_of_row _ w.heap.size o c t (0, 0) (heap_alloc_new w _)]

theorem cell_past (w : World) (o : Obj) (b j : Nat) (h : b < w.heap.size) : (w.alloc o).cell? ⟨b, j, none⟩ = w.cell? ⟨b, j, none⟩ :=
  World.cell?_of_block (Below.heap_alloc w o b h)

theorem cell_set_other (w : World) (a : Addr) (v : Value) (b o : Nat) (h : a.block ≠ b ∨ a.off ≠ o) : (w.setCell a v).cell? ⟨b, o, none⟩ = w.cell? ⟨b, o, none⟩ :=
  World.cell?_setCell_other _ _ _ _ (by intro e; subst e; simp at h)

theorem cell_lt {w : World} {b o : Nat} {v : Value} (h : w.cell? ⟨b, o, none⟩ = some v) : b < w.heap.size := World.block_lt_of_cell? w _ h

theorem cell_kept {w w' : World} {row : Option Nat} {b o : Nat} {v : Value} (h : w.cell? ⟨b, o, none⟩ = some v) (hg : w.grownBy w' row) (hne : some b ≠ row) : w'.cell? ⟨b, o, none⟩ = some v := hg.cell h hne

theorem grown_set (w : World) (a : Addr) (v : Value) : w.grownBy (w.setCell a v) (some a.block) :=
  ⟨rfl, rfl, rfl, by simp, fun k _ hk => Below.heap_setCell _ _ _ _ (fun e => hk (by rw [e]))⟩

theorem grown_drewN (w : World) (n : Nat) (row : Option Nat) : w.grownBy (w.drewN n) row := ⟨rfl, rfl, rfl, Nat.le_refl _, fun _ _ _ => rfl⟩

theorem grown_trans {a b c : World} {row : Option Nat} (h : a.grownBy b row) (k : b.grownBy c row) : a.grownBy c row :=
  h.andThen k (fun j hj => .inr hj)

theorem grown_new {a b c : World} {row row' : Option Nat} (h : a.grownBy b row) (k : b.grownBy c row') (hr : ∀ j, row' = some j → a.heap.size ≤ j) : a.grownBy c row :=
  h.andThen k (fun j hj => .inl (hr j hj))

/-- a row of ints -/
structure IntRow (w : World) (B n : Nat) (f : Nat → Int) : Prop where
  plain : PlainAt w B
  cell : ∀ i, i < n → w.cell? ⟨B, i, none⟩ = some (.int .i64 (f i))

theorem IntRow.kept {w w' : World} {B n : Nat} {f : Nat → Int} {row : Option Nat} (h : IntRow w B n f) (hg : w.grownBy w' row) (hne : some B ≠ row) : IntRow w' B n f :=
  ⟨h.plain.kept hg hne, fun i hi => cell_kept (h.cell i hi) hg hne⟩

theorem IntRow.set {w : World} {B n : Nat} {f : Nat → Int} (h : IntRow w B n f) {i : Nat} (hi : i < n) (x : Int) : IntRow (w.setCell ⟨B, i, none⟩ (.int .i64 x)) B n (Bfs.upd f i x) := by
  refine ⟨h.plain.setCell _ _, fun j hj => ?_⟩
  by_cases e : j = i
  · subst e
    rw [Bfs.upd_same]; exact World.cell?_setCell_same _ _ _ (h.cell j hj)
  · rw [Bfs.upd_other _ _ e, cell_set_other _ _ _ _ _ (.inr (Ne.symm e))]; exact h.cell j hj

theorem IntRow.congr {w : World} {B n : Nat} {f g : Nat → Int} (h : IntRow w B n f) (e : ∀ i, i < n → f i = g i) : IntRow w B n g :=
  ⟨h.plain, fun i hi => by rw [← e i hi]; exact h.cell i hi⟩

/-- a freshly made row of ints -/
theorem introw_made {w0 : World} {base g n : Nat} (h : w0.ownsRow base 3 1 (.slice (some ⟨g, 0, none⟩) n n) n (madeCells #[Value.int .i64 0] n).toList) : IntRow w0 g n (fun _ => 0) := by
  constructor
  · rcases h.2 with ⟨h', _⟩ | ⟨g', cap', cur, h', _, hg, _, _, hs, _⟩
    · simp at h'
    · simp only [Value.slice.injEq, Option.some.injEq, Addr.mk.injEq, and_true, true_and] at h'
      obtain ⟨rfl, rfl⟩ := h'
      exact ⟨cur, 3, hg⟩
  · intro i hi
    rw [h.cellAt i (by omega), toList_madeCells_one]
    simp [hi]

/-- a row of bools -/
structure BoolRow (w : World) (B n : Nat) (f : Nat → Bool) : Prop where
  plain : PlainAt w B
  cell : ∀ i, i < n → w.cell? ⟨B, i, none⟩ = some (.bool (f i))

theorem BoolRow.kept {w w' : World} {B n : Nat} {f : Nat → Bool} {row : Option Nat} (h : BoolRow w B n f) (hg : w.grownBy w' row) (hne : some B ≠ row) : BoolRow w' B n f :=
  ⟨h.plain.kept hg hne, fun i hi => cell_kept (h.cell i hi) hg hne⟩

theorem BoolRow.set {w : World} {B n : Nat} {f : Nat → Bool} (h : BoolRow w B n f) {i : Nat} (hi : i < n) (x : Bool) : BoolRow (w.setCell ⟨B, i, none⟩ (.bool x)) B n (Bfs.upd f i x) := by
  refine ⟨h.plain.setCell _ _, fun j hj => ?_⟩
  by_cases e : j = i
  · subst e
    rw [Bfs.upd_same]; exact World.cell?_setCell_same _ _ _ (h.cell j hj)
  · rw [Bfs.upd_other _ _ e, cell_set_other _ _ _ _ _ (.inr (Ne.symm e))]; exact h.cell j hj

/-- how a label reads: its two numbers are not looked into -/
def labelR (v : Value) : Option (DataW Unit × List MemPlace) :=
  match v with
  | .agg cs => (match cs.toList with
    | [.int _ _, .int _ _] => some (.agg [], [])
    | _ => none)
  | _ => none

theorem labelR_mk (k k' : IntKind) (a b : Int) : labelR (.agg #[.int k a, .int k' b]) = some (.agg [], []) := rfl

theorem labelR_inv {v : Value} {y : DataW Unit × List MemPlace} (h : labelR v = some y) : ∃ c : (IntKind × Int) × (IntKind × Int), v = .agg #[.int c.1.1 c.1.2, .int c.2.1 c.2.2] := by
  unfold labelR at h
  split at h
  · rename_i cs
    split at h
    · rename_i k a k' b hcs
      refine ⟨((k, a), (k', b)), ?_⟩
      simp only
      rw [← hcs]
    · cases h
  · cases h

theorem law3 : Maps.Keyed Yba.prog 3 := Maps.int_keyed Yba.underlying3

/-- is the node a member? -/
def binB (mask : Int) (u : Nat) : Bool := bits BinOp.and IntKind.u32 (mask / 2 ^ u) 1 == 1

set_option maxHeartbeats 400000 in
theorem bin_any (mask : Int) (u : Nat) (w : World) (h1 : u < 32) (m0 : 0 ≤ mask) (m1 : mask ≤ 4294967295) :
    Calls Yba.prog 6 #[.int .u32 mask, .int .i64 u] w fun e w' => e = .returned (.bool (binB mask u)) ∧ w = w' := by
  have h0' : (0 : Int) ≤ u := by omega
  have h1' : (u : Int) < 32 := by omega
  go_enter Yba.func6, Yba.ntmps6
  go_wp2
  go_ret
  exact ⟨rfl, rfl⟩

set_option maxHeartbeats 400000 in
theorem member_any (mask : Int) (u nn N M : Nat) (w : World) (h1 : u < nn) (hn : nn ≤ 16) (m0 : 0 ≤ mask) (m1 : mask ≤ 4294967295) (hN : w.cell? ⟨N, 0, none⟩ = some (.int .i64 nn)) (hM : w.cell? ⟨M, 0, none⟩ = some (.int .u32 mask)) :
    Calls Yba.prog 5 #[.int .i64 u, .pointer (some ⟨N, 0, none⟩), .pointer (some ⟨M, 0, none⟩)] w fun e w' => e = .returned (.bool (binB mask u)) ∧ w = w' := by
  have h1' : (u : Int) < nn := by omega
  go_enter Yba.func5, Yba.ntmps5
  go_wp2_with fail
  refine (bin_any mask u _ (by omega) m0 m1).mono ?_
  rintro e w' ⟨rfl, rfl⟩
  go_wp2
  go_ret
  exact ⟨rfl, rfl⟩
end Go.Proofs.Ybulkira
