import Derived.Test.YbulkiraRLeaf
namespace Go.Proofs.Ybulkira
open Go.RowKit
set_option linter.unusedVariables false
attribute [local go_sem ↓] Go.wp_at_zero Go.wp_at_succ

theorem below_drewN {B : Nat} {a w : World} (h : Below B a w) (n : Nat) : Below B a (w.drewN n) := h.trans ⟨rfl, rfl, rfl, Nat.le_refl _, fun _ _ => rfl⟩

set_option maxHeartbeats 1000000 in
theorem put_leaf (l : Nd) (x : Nat) (G : Nat) (w : World) (h : LeafAt w l) (hx1 : x < 1000) (hnot : x ∉ l.xs) (hx : ∀ y ∈ l.xs, y < 1000) (hs : l.xs.Pairwise (· < ·)) (hn : l.xs.length < 900) :
    Calls Yba.prog 24 #[.pointer (some ⟨l.b, 0, none⟩), .agg #[.string (keyB x), .int .i64 (x : Int)], .int .u64 (G : Int)] w fun e w' => (∃ v, e = .returned v) ∧ ∃ l', l'.xs = l.xs.take (lb l.xs x) ++ x :: l.xs.drop (lb l.xs x) ∧ LeafUpd w w' l l' := by
  have HH : Hid (LeafAt w l) := h
  have HX : Hid (∀ x ∈ l.xs, x < 1000) := hx
  have HS : Hid (l.xs.Pairwise (· < ·)) := hs
  have HNOT : Hid (x ∉ l.xs) := hnot
  have k1 := Yba.nileq53
  clear hx hs h hnot
  go_enter Yba.func24, Yba.ntmps24
  go_wp2_with fail
  obtain ⟨W0, hW0⟩ : ∃ W0, W0 = w.alloc (.cells #[.string (keyB x), .int .i64 (x : Int)] 57) := ⟨_, rfl⟩
  have HB0 : Hid (Below w.heap.size w W0) := by rw [hW0]; exact (Below.refl _ _).alloc (Nat.le_refl _) _
  have b0 : W0.cell? ⟨w.heap.size, 0, none⟩ = some (.string (keyB x)) := by rw [hW0, cell_new]; rfl
  have b1 : W0.cell? ⟨w.heap.size, 1, none⟩ = some (.int .i64 (x : Int)) := by rw [hW0, cell_new]; rfl
  have hs0 : w.heap.size < W0.heap.size := by rw [hW0]; simp
  rw [← hW0]
  clear hW0
  have HL0 : Hid (LeafAt W0 l) := leaf_below HH.out HB0.out
  refine (search16 l.b l.v l.xs x true (keyB x) W0 (heap_node HL0.out.node).1 (keyIs_key x hx1) HX.out HS.out (by omega) HL0.out.row).mono ?_
  rintro e W1 ⟨rfl, hb1⟩
  have HB1 : Hid (Below w.heap.size w W1) := HB0.out.trans (hb1.mono (by omega))
  have HL1 : Hid (LeafAt W1 l) := leaf_below HL0.out hb1
  have b2 := (hb1.cell (p := ⟨w.heap.size, 0, none⟩) hs0).trans b0
  have b3 := (hb1.cell (p := ⟨w.heap.size, 1, none⟩) hs0).trans b1
  clear hb1 b0 b1 HL0 HB0
  obtain ⟨d0, d1, _, e0, _, hlt1⟩ := heap_node HL1.out.node
  have hle := lb_le l.xs x
  have hnx : l.xs[lb l.xs x]? ≠ some x := fun e => HNOT.out (List.mem_of_getElem? e)
  obtain ⟨aa, cc, hv⟩ := own_form HL1.out.row
  obtain ⟨N, hN⟩ : ∃ N, l.xs.length = N := ⟨_, rfl⟩
  obtain ⟨i, hi⟩ : ∃ i, lb l.xs x = i := ⟨_, rfl⟩
  rw [hN] at hv hle hn
  rw [hi] at hle hnx ⊢
  rw [hv] at d0
  have HV : Hid (l.v = .slice aa N cc) := hv
  have HN : Hid (l.xs.length = N) := hN
  have HI : Hid (lb l.xs x = i) := hi
  have HTK : Hid ((l.xs.take i).length = i) := by show _ = _; rw [List.length_take, hN]; omega
  have HTL : Hid ((l.xs.take i ++ l.xs.drop i).length < 1000) := by show _ < _; rw [List.take_append_drop, hN]; omega
  have HNX : Hid (l.xs[i]? ≠ some x) := hnx
  have hne' : Hid (∀ j, ¬ some (Addr.block ⟨l.b, j, none⟩) = (Value.slice aa N cc).ownBlock) := fun j e => own_ne HL1.out.row HL1.out.node (by decide) (by rw [HV.out]; exact e.symm)
  clear hv hN hi hnx
  go_wp2_with fail
  by_cases h0 : i < N
  · obtain ⟨y, hy⟩ : ∃ y, l.xs[i]? = some y := ⟨_, List.getElem?_eq_getElem (by rw [HN.out]; exact h0)⟩
    have hyx : y ≠ x := fun e => HNX.out (by rw [hy, e])
    obtain ⟨g, c, hvv, hg, hcell⟩ := HL1.out.row.cell (by have := HN.out; omega)
    have cy := (hcell _ y hy).1
    have hys := (keyIs_key x hx1).same y (HX.out y (List.mem_of_getElem? hy))
    rw [← keyB_toList] at hys
    have hdx : decide (y = x) = false := by simp [hyx]
    rw [hdx] at hys
    simp only [Bool.and_false] at hys
    have hgg : aa = some ⟨g, 0, none⟩ := by
      have := HV.out.symm.trans hvv
      cases this
      rfl
    subst hgg
    have h0' : (i : Int) < (N : Int) := by omega
    clear hcell hvv hy hdx
    go_quiet (fail)
    go_wp2
    have HL2 : Hid (LeafAt (W1.drewN nq) l) := ⟨HL1.out.node, HL1.out.row⟩
    have HB2 : Hid (Below w.heap.size w (W1.drewN nq)) := below_drewN HB1.out nq
    have HIT : Hid (Items (W1.drewN nq) (.slice (some ⟨g, 0, none⟩) N cc) (l.xs.take i ++ l.xs.drop i)) := by
      rw [List.take_append_drop]
      have := HL2.out.row
      rw [HV.out] at this
      exact this
    have q2 : (W1.drewN nq).cell? ⟨w.heap.size, 0, none⟩ = some (.string (keyB x)) := b2
    have q3 : (W1.drewN nq).cell? ⟨w.heap.size, 1, none⟩ = some (.int .i64 (x : Int)) := b3
    have q0 : (W1.drewN nq).cell? ⟨l.b, 0, none⟩ = some (.slice (some ⟨g, 0, none⟩) N cc) := d0
    have q1 : (W1.drewN nq).frozen? ⟨l.b, 0, none⟩ = false := e0
    have hlt2 : l.b < (W1.drewN nq).heap.size := hlt1
    clear b2 b3 d0 d1 e0 hlt1 HL1 HB1 cy
    generalize W1.drewN nq = W2 at *
    go_region_with (go_at_call 26; go_loud (refine (insertI _ (l.xs.take i) (l.xs.drop i) i x _ HTK.out (by exact HIT.out) HTL.out).mono ?_; rintro e w3 ⟨v', rfl, hI3, hR3⟩; obtain ⟨a', n', c', rfl⟩ := own_form' hI3; have g0 := (hR3.grown.cell_far ⟨l.b, 0, none⟩ hlt2 (hne'.out 0)).trans q0; have g1 := (hR3.grown.frozen_far ⟨l.b, 0, none⟩ hlt2 (hne'.out 0)).trans q1; have HI3 : Hid (Items w3 (.slice a' n' c') (l.xs.take i ++ x :: l.xs.drop i)) := hI3; have HR3 : Hid (NewRow W2 w3 (.slice (some ⟨g, 0, none⟩) N cc) (.slice a' n' c')) := ⟨⟨hR3.grown.os, hR3.grown.tape, hR3.grown.output, hR3.grown.size, hR3.grown.block⟩, hR3.lies⟩; clear hI3 hR3))
    all_goals
      go_wp2
      go_ret
      refine ⟨⟨_, rfl⟩, ?_⟩
      have hu := leaf_items HL2.out HI3.out (by rw [HV.out]; exact HR3.out)
      refine ⟨_, ?_, LeafUpd.after HH.out HB2.out hu⟩
      show l.xs.take i ++ x :: l.xs.drop i = _
      rw [HI.out]
  · have hie : i = N := by omega
    subst hie
    go_quiet (fail)
    go_wp2
    have HL2 : Hid (LeafAt (W1.drewN nq) l) := ⟨HL1.out.node, HL1.out.row⟩
    have HB2 : Hid (Below w.heap.size w (W1.drewN nq)) := below_drewN HB1.out nq
    have HIT : Hid (Items (W1.drewN nq) (.slice aa i cc) (l.xs.take i ++ l.xs.drop i)) := by
      rw [List.take_append_drop]
      have := HL2.out.row
      rw [HV.out] at this
      exact this
    have q2 : (W1.drewN nq).cell? ⟨w.heap.size, 0, none⟩ = some (.string (keyB x)) := b2
    have q3 : (W1.drewN nq).cell? ⟨w.heap.size, 1, none⟩ = some (.int .i64 (x : Int)) := b3
    have q0 : (W1.drewN nq).cell? ⟨l.b, 0, none⟩ = some (.slice aa i cc) := d0
    have q1 : (W1.drewN nq).frozen? ⟨l.b, 0, none⟩ = false := e0
    have hlt2 : l.b < (W1.drewN nq).heap.size := hlt1
    clear b2 b3 d0 d1 e0 hlt1 HL1 HB1 
    generalize W1.drewN nq = W2 at *
    go_region_with (go_at_call 26; go_loud (refine (insertI _ (l.xs.take i) (l.xs.drop i) i x _ HTK.out (by exact HIT.out) HTL.out).mono ?_; rintro e w3 ⟨v', rfl, hI3, hR3⟩; obtain ⟨a', n', c', rfl⟩ := own_form' hI3; have g0 := (hR3.grown.cell_far ⟨l.b, 0, none⟩ hlt2 (hne'.out 0)).trans q0; have g1 := (hR3.grown.frozen_far ⟨l.b, 0, none⟩ hlt2 (hne'.out 0)).trans q1; have HI3 : Hid (Items w3 (.slice a' n' c') (l.xs.take i ++ x :: l.xs.drop i)) := hI3; have HR3 : Hid (NewRow W2 w3 (.slice aa i cc) (.slice a' n' c')) := ⟨⟨hR3.grown.os, hR3.grown.tape, hR3.grown.output, hR3.grown.size, hR3.grown.block⟩, hR3.lies⟩; clear hI3 hR3))
    all_goals
      go_wp2
      go_ret
      refine ⟨⟨_, rfl⟩, ?_⟩
      have hu := leaf_items HL2.out HI3.out (by rw [HV.out]; exact HR3.out)
      refine ⟨_, ?_, LeafUpd.after HH.out HB2.out hu⟩
      show l.xs.take i ++ x :: l.xs.drop i = _
      rw [HI.out]
end Go.Proofs.Ybulkira
