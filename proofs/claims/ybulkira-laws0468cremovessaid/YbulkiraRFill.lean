import Derived.Test.YbulkiraRMerge
namespace Go.Proofs.Ybulkira
open Go.RowKit
set_option linter.unusedVariables false
set_option linter.unusedSimpArgs false
attribute [local go_sem ↓] Go.wp_at_zero Go.wp_at_succ

theorem itemCells_set : ∀ (xs : List Nat) (i x : Nat), i < xs.length → itemCells (xs.set i x) = ((itemCells xs).set (i * 2) (.string (keyB x))).set (i * 2 + 1) (.int .i64 (x : Int))
  | [], i, x, h => by cases h
  | y :: xs, 0, x, _ => rfl
  | y :: xs, i + 1, x, h => by
    rw [List.set_cons_succ, itemCells_cons, itemCells_cons, itemCells_set xs i x (by simpa using h), show (i + 1) * 2 = i * 2 + 1 + 1 by omega]
    rfl

/-- one of the items is written in place -/
theorem Items.set {w : World} {g c N : Nat} {ss : List Nat} (h : Items w (.slice (some ⟨g, 0, none⟩) N c) ss) (hN : ss.length = N) (i x : Nat) (hi : i < N) :
    Items ((w.setCell ⟨g, i * 2, none⟩ (.string (keyB x))).setCell ⟨g, i * 2 + 1, none⟩ (.int .i64 (x : Int))) (.slice (some ⟨g, 0, none⟩) N c) (ss.set i x) := by
  unfold Items at h
  rw [hN] at h
  obtain ⟨rest, hg, h1, h2, h3, h4⟩ := own_open h
  have h5 := heap_set2 (k := i * 2) (.string (keyB x)) (.int .i64 (x : Int)) hg
  rw [List.set_append_left _ _ (by omega), List.set_append_left _ _ (by rw [List.length_set]; omega), ← itemCells_set ss i x (by omega)] at h5
  have h6 : (itemCells (ss.set i x)).length = N * 2 := by rw [itemCells_length, List.length_set, hN]
  unfold Items
  rw [List.length_set, hN]
  refine own_shut h5 h1 h2 h6 ?_
  rw [List.length_append] at h4 ⊢
  omega

theorem grown_set2 (w : World) (g a b : Nat) (u v : Value) : w.grownBy ((w.setCell ⟨g, a, none⟩ u).setCell ⟨g, b, none⟩ v) (some g) :=
  grown_trans (grown_set w ⟨g, a, none⟩ u) (grown_set (w.setCell ⟨g, a, none⟩ u) ⟨g, b, none⟩ v)

theorem RootAt.setItem {w : World} {B G : Nat} {r : Rt} (h : RootAt w B G r) {g c N : Nat} (hv : r.v = .slice (some ⟨g, 0, none⟩) N c) (hN : r.ss.length = N) (i x : Nat) (hi : i < N) :
    RootAt ((w.setCell ⟨g, i * 2, none⟩ (.string (keyB x))).setCell ⟨g, i * 2 + 1, none⟩ (.int .i64 (x : Int))) B G { r with ss := r.ss.set i x } ∧ Below B w ((w.setCell ⟨g, i * 2, none⟩ (.string (keyB x))).setCell ⟨g, i * 2 + 1, none⟩ (.int .i64 (x : Int))) := by
  have h1 := h.row
  rw [hv] at h1
  have h2 := Items.set h1 hN i x hi
  rw [← hv] at h2
  exact root_items0 h h2 (by rw [hv]; exact grown_set2 w g _ _ _ _)

set_option maxRecDepth 100000 in
set_option maxHeartbeats 1000000 in
theorem fill_same (w : World) (B G : Nat) (r : Rt) (i : Nat) (l : Nd) (h : RootAt w B G r) (hi : r.ks[i]? = some l) (hkm : r.ks.length < 900) (hl : 31 < l.xs.length) :
    Calls Yba.prog 18 #[.pointer (some ⟨r.b, 0, none⟩), .int .i64 (i : Int), .int .u64 (G : Int)] w fun e w' => e = .returned (.int .i64 (i : Int)) ∧ w = w' := by
  have hil : i < r.ks.length := (List.getElem?_eq_some_iff.1 hi).1
  obtain ⟨gu, cu, hu⟩ := h.kidForm (by omega)
  obtain ⟨c1, e1⟩ := h.kidCell hu hi
  have HL := h.leaf l (List.mem_of_getElem? hi)
  obtain ⟨l0, _, _, _, _, _⟩ := heap_node HL.node
  obtain ⟨la, lc, hv⟩ := own_form HL.row
  rw [hv] at l0
  obtain ⟨L, hL⟩ : ∃ L, l.xs.length = L := ⟨_, rfl⟩
  obtain ⟨M, hM⟩ : ∃ M, r.ks.length = M := ⟨_, rfl⟩
  rw [hL] at l0 hl
  rw [hM] at c1 hil
  have hl' : (31 : Int) < (L : Int) := by omega
  have hil' : (i : Int) < (M : Int) := by omega
  clear h hi hu HL hv hL hM
  go_enter Yba.func18, Yba.ntmps18
  go_wp2
  go_ret
  exact ⟨rfl, rfl⟩
end Go.Proofs.Ybulkira
