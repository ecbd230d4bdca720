import Derived.Test.YbulkiraRTurn
import Derived.Laws.MakeOwn
namespace Go.Proofs.Ybulkira
open Go.RowKit
set_option linter.unusedVariables false
attribute [local go_sem ↓] Go.wp_at_zero Go.wp_at_succ

set_option maxHeartbeats 400000 in
theorem own_same (b : Nat) (v u : Value) (G : Nat) (w : World) (hn : w.heap[b]? = some (nodeObj v u G)) :
    Calls Yba.prog 12 #[.pointer (some ⟨b, 0, none⟩), .int .u64 (G : Int)] w fun e w' => e = .returned (.pointer (some ⟨b, 0, none⟩)) ∧ w = w' := by
  obtain ⟨c0, c1, c2, f0, f1, hlt⟩ := heap_node hn
  clear hn
  go_enter Yba.func12, Yba.ntmps12
  go_wp2
  go_ret
  exact ⟨rfl, rfl⟩

theorem Yba.nilne53 (w : World) : (binOp .neq 53 (.slice none 0 0) (.slice none 0 0)).run Yba.prog w = .ok (.bool false) w := by kernel_rfl

theorem make_items (N : Nat) (h : N < 1000) : ∃ Z : Array Value, Z.size = (N + 1) * 2 ∧ ∀ w : World, (Instr.makeSlice 49 (.int .i64 0) (.int .i64 ((N : Int) + 1))).run Yba.prog w = .ok (.slice (some ⟨w.heap.size, 0, none⟩) 0 (N + 1)) (w.alloc (.cells Z 57)) := by
  obtain ⟨i0, hi, hz0, hz1, hz2⟩ := info_parts Yba.info57
  refine ⟨madeCells (Value.agg #[Value.string ⟨#[]⟩, Value.int IntKind.i64 0]).cells ((N + 1) * 2), by rw [size_madeCells], fun w => ?_⟩
  · have := run_make (P := Yba.prog) w 49 57 i0 _ Yba.underlying49 hi hz0 .i64 .i64 0 ((N : Int) + 1) (by omega) (by omega) (by rw [hz2]; omega) (by omega)
    rw [this, hz1, show ((N : Int) + 1).toNat = N + 1 by omega]
    rfl

set_option maxHeartbeats 1000000 in
theorem own_new (l : Nd) (G : Nat) (w : World) (h : LeafAt w l) (h0 : 0 < l.xs.length) (hl : l.xs.length < 1000) (hg : l.gen ≠ G) :
    Calls Yba.prog 12 #[.pointer (some ⟨l.b, 0, none⟩), .int .u64 (G : Int)] w fun e w' => ∃ l', e = .returned (.pointer (some ⟨l'.b, 0, none⟩)) ∧ LeafAt w' l' ∧ l'.xs = l.xs ∧ l'.gen = G ∧ l'.high w.heap.size ∧ Below w.heap.size w w' := by
  obtain ⟨i0, hi, hz0, hz1, hz2⟩ := info_parts Yba.info57
  obtain ⟨c0, c1, c2, f0, f1, hlt⟩ := heap_node h.node
  obtain ⟨g, c, hv, hgl, hcell⟩ := h.row.cell h0
  obtain ⟨N, hN⟩ : ∃ N, l.xs.length = N := ⟨_, rfl⟩
  rw [hN] at hv h0 hl
  rw [hv] at c0
  have hge : ¬ ((l.gen : Int) = (G : Int)) := by omega
  have HNEWS : Hid (∀ j u, (itemCells l.xs)[j]? = some u → w.cell? ((⟨g, 0, none⟩ : Addr).add j) = some u) := World.ownsRow.cells h.row (g := g) (by rw [hv]; rfl)
  have HN : Hid (l.xs.length = N) := hN
  have HH : Hid (LeafAt w l) := h
  have hsb : IntKind.i64.wrap ((N : Int) + 1) = (N : Int) + 1 := by rw [IntKind.wrap_i64]; omega
  obtain ⟨Z, HZ, hmk⟩ := make_items N hl
  clear h hcell hN hv
  go_enter Yba.func12, Yba.ntmps12
  go_wp2_with fail
  go_region_held3 (fun w' => w'.cell? ⟨l.b, 0, none⟩ = some (.slice (some ⟨g, 0, none⟩) N c)) (first | go_keep | exact (hgrow.cell_far ⟨l.b, 0, none⟩ (by simp; omega) (by simp [Value.ownBlock]; omega)).trans ((cell_past _ _ _ _ hlt).trans c0)) ((refine step_append_lies _ (by rfl) (.tmp 19) (.tmp 23) 49 (by rfl) 0 57 i0 (.agg #[.string ⟨#[]⟩, .int .i64 0]) 2 24 Yba.underlying49 hi hz0 hz1 hz2 rfl (by decide) (.slice (some ⟨w.heap.size, 0, none⟩) 0 (N + 1)) 0 [] (by rfl) ?_ ⟨g, 0, none⟩ N c (itemCells l.xs) (by rfl) ?_ ?_ (itemCells_one _) h0 ?_ ?_ (Nat.zero_le _) _ rfl ?_; (exact World.ownsRow_made w Z (N + 1) (Nat.zero_le _) (by unfold maxLen; omega) HZ); (rw [itemCells_length, HN.out]); (intro j u hu; have := HNEWS.out j u hu; rw [Addr.add_lit] at this ⊢; exact (cell_past _ _ _ _ hgl).trans this); (unfold maxLen; omega); omega; intro g2 cap w2 hown hgrow hat hlt2))
  have d1 := (hgrow.cell_far ⟨l.b, 1, none⟩ (by simp; omega) (by simp [Value.ownBlock]; omega)).trans ((cell_past _ _ _ _ hlt).trans c1)
  have hs2 : w.heap.size ≤ w2.heap.size := Nat.le_trans (by simp) hgrow.size
  have HB2 : Hid (Below w.heap.size w w2) := ((Below.refl w.heap.size w).alloc (Nat.le_refl _) (.cells Z 57)).drew.grown hgrow (by simp) (fun k hk => by cases hk; exact Nat.le_refl _)
  have HO : Hid (Items w2 (.slice (some ⟨g2, 0, none⟩) N cap) l.xs) := by
    show w2.ownsRow 0 57 2 _ l.xs.length _
    rw [HN.out]
    simpa using hown
  have HG2 : Hid (w.heap.size ≤ g2) := by
    rcases hat with h | h
    · cases h; exact Nat.le_refl _
    · rw [h]; show w.heap.size ≤ _; simp
  have hbl : l.b < w2.heap.size := by omega
  have k1 := Yba.nilne53
  clear hown hgrow hat
  go_wp2
  go_ret
  refine ⟨⟨w2.heap.size, .slice (some ⟨g2, 0, none⟩) N cap, l.xs, G⟩, rfl, ⟨heap_alloc_new w2 _, HO.out.alloc _⟩, rfl, rfl, ⟨hs2, fun g' hg' => ?_⟩, HB2.out.alloc hs2 _⟩
  cases hg'
  exact HG2.out
end Go.Proofs.Ybulkira
