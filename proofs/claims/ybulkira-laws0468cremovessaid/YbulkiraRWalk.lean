import Derived.Test.YbulkiraRCheck
namespace Go.Proofs.Ybulkira
open Go.RowKit
set_option linter.unusedVariables false
attribute [local go_sem ↓] Go.wp_at_zero Go.wp_at_succ

/-- the row that the walk fills: nil, or a row that lies at D or above -/
def Out (w : World) (D : Nat) (v : Value) (ys : List Nat) : Prop := w.ownsRow D 57 2 v ys.length (itemCells ys)

theorem Out.step {w w' : World} {D : Nat} {v v' : Value} {ys : List Nat} {x : Nat} (h : w'.ownsRow D 57 2 v' (ys.length + 1) (itemCells ys ++ [.string (keyB x), .int .i64 (x : Int)])) : Out w' D v' (ys ++ [x]) := by
  unfold Out
  rw [List.length_append, itemCells_append]
  exact h

set_option maxHeartbeats 1000000 in
theorem walk_leaf (w : World) (D : Nat) (l : Nd) (v : Value) (ys : List Nat) (h : LeafAt w l) (ho : Out w D v ys) (hD : D ≤ w.heap.size) (hl : l.b < D) (hlg : ∀ g, l.v.ownBlock = some g → g < D) (hn : l.xs.length ≤ 63) (hy : ys.length < 900) :
    Calls Yba.prog 11 #[.pointer (some ⟨l.b, 0, none⟩), v] w fun e w' => ∃ v', e = .returned v' ∧ Out w' D v' (ys ++ l.xs) ∧ Below D w w' := by
  obtain ⟨i0, hi0, hz0, hz1, hz2⟩ := info_parts Yba.info57
  have kp : ∀ w : World, (binOp .eql 45 (.pointer (some ⟨l.b, 0, none⟩)) (.pointer none)).run Yba.prog w = .ok (.bool false) w := fun w => by kernel_rfl
  have k1 := Yba.nilne53
  have HH : Hid (LeafAt w l) := h
  obtain ⟨c0, c1, _, _, _, hlt⟩ := heap_node h.node
  obtain ⟨aa, cc, hv⟩ := own_form h.row
  rw [hv] at c0
  obtain ⟨N, hN⟩ : ∃ N, l.xs.length = N := ⟨_, rfl⟩
  rw [hN] at c0 hn
  have HN : Hid (l.xs.length = N) := hN
  have HO : Hid (Out w D v ys) := ho
  have HLG : Hid (∀ g, l.v.ownBlock = some g → g < D) := hlg
  clear h ho hv hN hlg
  go_enter Yba.func11, Yba.ntmps11
  go_wp2
  go_loopw [1, 5] (fun ov jv wr => ∃ j : Nat, j ≤ N ∧ jv = .int .i64 (j : Int) ∧ Hid (Out wr D ov (ys ++ l.xs.take j) ∧ Below D w wr)) (fun ov jv _ => N - (intOf jv).toNat)
  case atStart => exact ⟨0, by omega, rfl, by simpa using HO.out, Below.refl _ _⟩
  case round =>
    obtain ⟨j, hj, rfl, hrel⟩ := hrel
    have d0 := (hrel.out.2.cell (p := ⟨l.b, 0, none⟩) hl).trans c0
    have d1 := (hrel.out.2.cell (p := ⟨l.b, 1, none⟩) hl).trans c1
    obtain ⟨oa, oc, hov⟩ := own_form hrel.out.1
    by_cases hlt' : j < N
    · have hltI : (j : Int) < (N : Int) := by omega
      obtain ⟨x, hx⟩ : ∃ x, l.xs[j]? = some x := ⟨_, List.getElem?_eq_getElem (by rw [HN.out]; exact hlt')⟩
      obtain ⟨g, c, hvv, hg, hcell⟩ := HH.out.row.cell (by rw [HN.out]; omega)
      have hgD : g < D := HLG.out g (by rw [hvv]; rfl)
      have cx := hcell j x hx
      have x0 := (hrel.out.2.cell (p := ⟨g, j * 2, none⟩) hgD).trans cx.1
      have x1 := (hrel.out.2.cell (p := ⟨g, j * 2 + 1, none⟩) hgD).trans cx.2
      have hDr : D ≤ wr.heap.size := Nat.le_trans hD hrel.out.2.size
      have HOR : Hid ((wr.alloc (.cells #[.string (keyB x), .int .i64 (x : Int)] 57)).ownsRow D 57 2 u1 (ys ++ l.xs.take j).length (itemCells (ys ++ l.xs.take j))) := hrel.out.1.alloc _
      have hyl : (ys ++ l.xs.take j).length < 963 := by rw [List.length_append, List.length_take, HN.out]; omega
      have hax : aa = some ⟨g, 0, none⟩ := by
        have h1 := own_form HH.out.row
        have := c0.symm.trans ((heap_node HH.out.node).1)
        rw [hvv] at this
        cases this
        rfl
      subst hax
      obtain ⟨L, hL⟩ : ∃ L, (ys ++ l.xs.take j).length = L := ⟨_, rfl⟩
      rw [hL] at HOR hyl hov
      have HL : Hid ((ys ++ l.xs.take j).length = L) := hL
      have HX : Hid (l.xs[j]? = some x) := hx
      have hLm : L + 1 ≤ maxLen := by unfold maxLen; omega
      clear hx hvv hcell cx hL
      subst hov
      go_wp2_with (at_builtin; refine wpList_append_lies _ rfl _ _ 49 rfl D 57 i0 (.agg #[.string ⟨#[]⟩, .int .i64 0]) 2 24 Yba.underlying49 hi0 hz0 hz1 hz2 rfl (by decide) _ _ _ rfl HOR.out ⟨wr.heap.size, 0, none⟩ 1 1 [.string (keyB x), .int .i64 (x : Int)] rfl rfl ?c1 ?c2 (by decide) hLm ?c3 (by simp; omega) _ rfl ?_)
      case c1 => exact World.news_of_block (cs := #[.string (keyB x), .int .i64 (x : Int)]) (t := 57) (fr := (0, 0)) (heap_alloc_new wr _)
      case c2 => intro u hu; simp at hu; rcases hu with rfl | rfl <;> rfl
      case c3 => omega
      intro g2 cap2 w2 hown2 hgrow2 hat2 hlt2
      have HO2 : Hid (Out w2 D (.slice (some ⟨g2, 0, none⟩) (L + 1) cap2) (ys ++ l.xs.take (j + 1)) ∧ Below D w w2) := by
        constructor
        · rw [List.take_add_one, HX.out]
          show Out w2 D _ (ys ++ (l.xs.take j ++ [x]))
          rw [← List.append_assoc]
          refine Out.step (w := w2) (v := .slice none 0 0) ?_
          rw [HL.out]
          exact hown2
        · refine (hrel.out.2.alloc hDr _).grown hgrow2 (by simp; omega) (fun k hk => ?_)
          exact (HOR.out.lt k hk).1
      clear hown2 hgrow2 hat2 hlt2 HOR hrel x0 x1 d0 d1
      go_wp2
      go_roundw
      case rel => exact ⟨j + 1, hlt', by go_num, HO2⟩
      case measure => simp [intOf]; omega
    · have hltI : ¬ (j : Int) < (N : Int) := by omega
      obtain rfl : j = N := by omega
      generalize (ys ++ l.xs.take j).length = L at hov
      subst hov
      have HO2 : Hid (Out wr D (.slice oa L oc) (ys ++ l.xs) ∧ Below D w wr) := by
        have := hrel.out
        rw [List.take_of_length_le (by rw [HN.out]; exact Nat.le_refl _)] at this
        exact this
      clear hrel
      go_wp2
      go_quiet (fail)
      go_wp2
      go_ret
      exact ⟨_, rfl, HO2.out.1, below_drewN HO2.out.2 _⟩
end Go.Proofs.Ybulkira
