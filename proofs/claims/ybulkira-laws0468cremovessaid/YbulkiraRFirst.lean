import Derived.Test.YbulkiraRSame
namespace Go.Proofs.Ybulkira
open Go.RowKit
set_option linter.unusedVariables false
attribute [local go_sem ↓] Go.wp_at_zero Go.wp_at_succ

set_option maxHeartbeats 1000000 in
theorem last_leaf (w : World) (l : Nd) (x M : Nat) (h : LeafAt w l) (hM : l.xs.length = M + 1) (hx : l.xs[M]? = some x) (hn : M < 1000) :
    Calls Yba.prog 20 #[.pointer (some ⟨l.b, 0, none⟩)] w fun e w' => e = .returned (.agg #[.string (keyB x), .int .i64 (x : Int)]) ∧ Below w.heap.size w w' := by
  have k1 := Yba.nilne53
  obtain ⟨c0, c1, _, _, _, hlt⟩ := heap_node h.node
  obtain ⟨g, c, hv, hg, hcell⟩ := h.row.cell (by omega)
  have x0 := (hcell M x hx).1
  have x1 := (hcell M x hx).2
  rw [hv, hM] at c0
  clear h hcell hv hx hM
  have d0 := (cell_past w (.cells #[.string ⟨#[]⟩, .int .i64 0] 57) l.b 0 hlt).trans c0
  have d1 := (cell_past w (.cells #[.string ⟨#[]⟩, .int .i64 0] 57) l.b 1 hlt).trans c1
  have y0 := (cell_past w (.cells #[.string ⟨#[]⟩, .int .i64 0] 57) g (M * 2) hg).trans x0
  have y1 := (cell_past w (.cells #[.string ⟨#[]⟩, .int .i64 0] 57) g (M * 2 + 1) hg).trans x1
  have hs1 : IntKind.i64.wrap (M : Int) = (M : Int) := by rw [IntKind.wrap_i64]; omega
  have hlt' : (M : Int) < (M : Int) + 1 := by omega
  go_enter Yba.func20, Yba.ntmps20
  go_wp2_with fail
  go_loopw [0] (fun nv wr => nv = .pointer (some ⟨l.b, 0, none⟩) ∧ wr = w.alloc (.cells #[.string ⟨#[]⟩, .int .i64 0] 57)) (fun _ _ => 0)
  case atStart => exact ⟨rfl, rfl⟩
  case round =>
  obtain ⟨rfl, rfl⟩ := hrel
  go_wp2_with fail
  go_region_held3 (fun w' => w'.cell? ⟨l.b, 0, none⟩ = some (.slice (some ⟨g, 0, none⟩) (M + 1) c) ∧ w'.cell? ⟨g, M * 2, none⟩ = some (.string (keyB x)) ∧ w'.cell? ⟨g, M * 2 + 1, none⟩ = some (.int .i64 (x : Int))) (first | go_keep) ((fail))
  go_wp2
  refine bodyPost_ret (v := .agg #[.string (keyB x), .int .i64 (x : Int)]) (by simp [results, Yba.results20, go_sem]) rfl ⟨rfl, ?_⟩
  exact ((Below.refl _ _).alloc (Nat.le_refl _) _).drew

set_option maxHeartbeats 1000000 in
theorem first_leaf (w : World) (l : Nd) (x M : Nat) (h : LeafAt w l) (hM : l.xs.length = M + 1) (hx : l.xs[0]? = some x) (hn : M < 1000) :
    Calls Yba.prog 21 #[.pointer (some ⟨l.b, 0, none⟩)] w fun e w' => e = .returned (.agg #[.string (keyB x), .int .i64 (x : Int)]) ∧ Below w.heap.size w w' := by
  have k1 := Yba.nilne53
  obtain ⟨c0, c1, _, _, _, hlt⟩ := heap_node h.node
  obtain ⟨g, c, hv, hg, hcell⟩ := h.row.cell (by omega)
  have x0 := (hcell 0 x hx).1
  have x1 := (hcell 0 x hx).2
  simp only [Nat.zero_mul, Nat.zero_add] at x0 x1
  rw [hv, hM] at c0
  clear h hcell hv hx hM
  have d0 := (cell_past w (.cells #[.string ⟨#[]⟩, .int .i64 0] 57) l.b 0 hlt).trans c0
  have d1 := (cell_past w (.cells #[.string ⟨#[]⟩, .int .i64 0] 57) l.b 1 hlt).trans c1
  have y0 := (cell_past w (.cells #[.string ⟨#[]⟩, .int .i64 0] 57) g 0 hg).trans x0
  have y1 := (cell_past w (.cells #[.string ⟨#[]⟩, .int .i64 0] 57) g 1 hg).trans x1
  have hlt' : (0 : Int) < (M : Int) + 1 := by omega
  go_enter Yba.func21, Yba.ntmps21
  go_wp2
  go_loopw [0] (fun nv wr => nv = .pointer (some ⟨l.b, 0, none⟩) ∧ wr = w.alloc (.cells #[.string ⟨#[]⟩, .int .i64 0] 57)) (fun _ _ => 0)
  case atStart => exact ⟨rfl, rfl⟩
  case round =>
  obtain ⟨rfl, rfl⟩ := hrel
  go_wp2
  refine bodyPost_ret (v := .agg #[.string (keyB x), .int .i64 (x : Int)]) (by simp [results, Yba.results21, go_sem]) rfl ⟨rfl, ?_⟩
  first | exact ((Below.refl _ _).alloc (Nat.le_refl _) _).drew | exact (Below.refl _ _).alloc (Nat.le_refl _) _
end Go.Proofs.Ybulkira
