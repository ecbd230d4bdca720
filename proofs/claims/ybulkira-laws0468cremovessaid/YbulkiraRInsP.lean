import Derived.Test.YbulkiraRIns
namespace Go.Proofs.Ybulkira
open Go.RowKit
set_option linter.unusedVariables false
attribute [local go_sem ↓] Go.wp_at_zero Go.wp_at_succ

theorem insertI (v : Value) (X1 X2 : List Nat) (i x : Nat) (w : World) (hi : X1.length = i) (hI : Items w v (X1 ++ X2)) (hn : (X1 ++ X2).length < 1000) :
    Calls Yba.prog 26 #[v, .int .i64 (i : Int), .agg #[.string (keyB x), .int .i64 (x : Int)]] w fun e w' => ∃ v', e = .returned v' ∧ Items w' v' (X1 ++ x :: X2) ∧ NewRow w w' v v' := by
  subst hi
  have h : w.ownsRow 0 57 2 v (X1.length + X2.length) (itemCells X1 ++ itemCells X2) := by
    have := hI
    unfold Items at this
    rwa [List.length_append, itemCells_append] at this
  refine (insertI0 v (itemCells X1) (itemCells X2) X1.length X2.length x w h (itemCells_length _) (itemCells_length _) (by simpa using hn) (itemCells_one X2)).mono ?_
  rintro e w' ⟨v', he, ho, hr⟩
  refine ⟨v', he, ?_, hr⟩
  unfold Items
  rw [itemCells_append, itemCells_cons]
  have e1 : (X1 ++ x :: X2).length = X1.length + X2.length + 1 := by simp; omega
  rw [e1]
  exact ho

theorem heap_set1 {w : World} {g k : Nat} {L : List Value} {e : TypeId} (a : Value) (hg : w.heap[g]? = some (.cells L.toArray e (0, 0))) :
    (w.setCell ⟨g, k, none⟩ a).heap[g]? = some (.cells (L.set k a).toArray e (0, 0)) := by
  have h1 := heap_setCell_same w g k L.toArray e a hg
  rw [h1]; simp

/-- the end of an insertion of a pointer -/
theorem ins_fin1 {w w1 w2 : World} {v a z1 : Value} {A B rest : List Value} {i m g cap : Nat} {L : List Value} (hL : L = splice (A ++ (B ++ (z1 :: rest))) (A.length + 1) B) (hA : A.length = i) (hB : B.length = m)
    (hlen : A.length + (B.length + (1 + rest.length)) = cap) (hc : i + m + 1 ≤ cap) (hc2 : cap ≤ maxLen) (hg2 : w2.heap[g]? = some (.cells L.toArray 45 (0, 0))) (hb2 : w1.grownBy w2 (some g))
    (hG : w.grownBy w1 v.ownBlock) (hat : v.ownBlock = some g ∨ w.heap.size ≤ g) :
    (w2.setCell ⟨g, i, none⟩ a).ownsRow 0 45 1 (.slice (some ⟨g, 0, none⟩) (i + m + 1) cap) (i + m + 1) (A ++ (a :: B)) ∧
    NewRow w (w2.setCell ⟨g, i, none⟩ a) v (.slice (some ⟨g, 0, none⟩) (i + m + 1) cap) := by
  have h := heap_set1 (k := i) a hg2
  rw [hL, ← hA, ins_cells1 A B z1 a rest] at h
  rw [← hA]
  constructor
  · refine own_shut (rest := rest) (by rw [h]; simp) (by omega) hc2 (by simp; omega) (by simp; omega)
  · have hgr : w1.grownBy (w2.setCell ⟨g, A.length, none⟩ a) (some g) := grown_trans hb2 (grown_set _ ⟨g, A.length, none⟩ _)
    refine ⟨hG.andThen hgr ?_, ?_⟩
    · intro k hk
      cases hk
      rcases hat with h | h
      · exact .inr h
      · exact .inl (by omega)
    · rcases hat with h | h
      · exact .inl h.symm
      · exact .inr ⟨g, rfl, by omega⟩

set_option maxHeartbeats 1000000 in
theorem insertP0 (v : Value) (A B : List Value) (i m b : Nat) (w : World) (hI : w.ownsRow 0 45 1 v (i + m) (A ++ B)) (hA : A.length = i) (hB : B.length = m) (hn : i + m < 1000) (hB1 : ∀ u ∈ B, u.oneCell' = true) :
    Calls Yba.prog 27 #[v, .int .i64 (i : Int), .pointer (some ⟨b, 0, none⟩)] w fun e w' => ∃ v', e = .returned v' ∧ w'.ownsRow 0 45 1 v' (i + m + 1) (A ++ (.pointer (some ⟨b, 0, none⟩) :: B)) ∧ NewRow w w' v v' := by
  obtain ⟨i0, hi, hz0, hz1, hz2⟩ := info_parts Yba.info45
  have hsz : (Yba.prog.info? 45).map (·.size) = some 1 := by rw [hi]; simp [hz1]
  have HI : Hid (w.ownsRow 0 45 1 v (i + m) (A ++ B)) := hI
  have HA : Hid (A.length = i) := hA
  have HB : Hid (B.length = m) := hB
  have HB1 : Hid (∀ u ∈ B, u.oneCell' = true) := hB1
  have hvlt : Hid (∀ k, v.ownBlock = some k → k < w.heap.size) := fun k hk => own_lt hI hk
  clear hI hA hB hB1
  have hn2 : i + m + 1 ≤ maxLen := by unfold maxLen; omega
  go_enter Yba.func27, Yba.ntmps27
  go_wp2_with (at_builtin; refine wpList_append_lies _ rfl _ _ 53 rfl 0 45 i0 (.pointer none) 1 8 Yba.underlying53 hi hz0 hz1 hz2 rfl (by decide) _ _ _ rfl (HI.out.alloc _) ⟨w.heap.size, 0, none⟩ 1 1 [.pointer none] rfl rfl ?c1 ?c2 (by decide) hn2 ?c3 (Nat.zero_le _) _ rfl ?_)
  case c1 => exact World.news_of_block (cs := #[.pointer none]) (t := 45) (fr := (0, 0)) (heap_alloc_new w _)
  case c2 => intro u hu; simp at hu; rcases hu with rfl; rfl
  case c3 => omega
  intro g cap w1 hown hgrow hat hlt
  have HG : Hid (w.grownBy w1 v.ownBlock) := grown_trans (World.grownBy_alloc w _ _) hgrow
  have HAT : Hid (v.ownBlock = some g ∨ w.heap.size ≤ g) := hat.imp id (fun h => by omega)
  clear hat hgrow
  obtain ⟨rest, hg1, hc1, hc2, _, hc3⟩ := own_open hown
  have HG1 : Hid (w1.heap[g]? = some (.cells (A ++ (B ++ (.pointer none :: rest))).toArray 45 (0, 0))) := by
    show _ = _
    rw [hg1]; simp
  have HL : Hid (A.length + (B.length + (1 + rest.length)) = cap) := by
    show _ = _
    simp at hc3; omega
  clear hown hg1 hc3
  have hcap : (i : Int) + m + 1 ≤ cap := by omega
  go_wp2_with fail
  have hi1 : (i : Int) + 1 ≤ (i : Int) + m + 1 := by omega
  have hi2 : (i : Int) ≤ (i : Int) + m + 1 := by omega
  have hw1 : IntKind.i64.wrap ((i : Int) + 1) = (i : Int) + 1 := by rw [IntKind.wrap_i64]; omega
  have h01 : (0 : Int) ≤ (i : Int) + 1 := by omega
  have hci : ¬ cap = i := by omega
  have hmi : i + m + 1 - i = m + 1 := by omega
  have HSRC : Hid (∀ j u, B[j]? = some u → w1.cell? ⟨g, i + j, none⟩ = some u) := by
    intro j u hu
    have hj : j < B.length := (List.getElem?_eq_some_iff.1 hu).1
    rw [cell_of_row _ g _ _ 45 (0, 0) HG1.out, ← HA.out]
    rw [← hu]; simp [List.getElem?_append_right, List.getElem?_append_left, hj]
  by_cases hce : cap = i + 1
  · subst hce
    obtain rfl : m = 0 := by omega
    have hz1' : (i : Int) ≤ (i : Int) + 1 := by omega
    have hz2' : i + 1 - i = 1 := by omega
    have hz3' : ¬ i + 1 = i := by omega
    go_region_held3 (fun w' => True) (trivial) ((refine step_copy_sized (by rfl) (.tmp 15) (.tmp 18) 53 53 (by rfl) 45 1 (by decide) Yba.underlying53 hsz g 0 0 0 ⟨g, i, none⟩ 1 1 (by rfl) (by rfl) _ 45 HG1.out B ?_ ?_ ?_ HB1.out ?_; (have := HB.out; rw [this]; simp); (intro j u hu; rw [Addr.add_lit]; exact HSRC.out j u hu); (have := HA.out; have := HB.out; have := HL.out; simp; omega); intro w2 hg2 hb2))
    obtain ⟨L, hL, hLl⟩ : ∃ L, L = splice (A ++ (B ++ (.pointer none :: rest))) (A.length + 1) B ∧ L.length = (i + 1) := ⟨_, rfl, by have := HA.out; have := HB.out; have := HL.out; rw [length_splice _ _ _ (by simp; omega)]; simp; omega⟩
    have HGL : Hid (w2.heap[g]? = some (.cells L.toArray 45 (0, 0))) := by
      show _ = _
      rw [hL, hg2.out, List.toList_toArray, splice_nil0 _ _ (by have := HB.out; omega), splice_nil0 _ _ (by have := HB.out; omega)]
    have HLL : Hid (L = splice (A ++ (B ++ (.pointer none :: rest))) (A.length + 1) B) := hL
    have e0 : w2.cell? ⟨g, i, none⟩ = some (L[i]'(by omega)) := by rw [cell_of_row _ g _ _ 45 (0, 0) HGL.out]; simp
    have f0 : w2.frozen? ⟨g, i, none⟩ = false := by simp [World.frozen?, HGL.out]
    have HB2 : Hid (w1.grownBy w2 (some g)) := ⟨hb2.out.os, hb2.out.tape, hb2.out.output, hb2.out.size, hb2.out.block⟩
    have hig : (i : Int) < (i : Int) + 1 := by omega
    generalize L[i]'(by omega) = y0 at e0
    clear hL hLl hb2 hg2
    go_wp2
    go_ret
    exact ⟨_, rfl, ins_fin1 HLL.out HA.out HB.out HL.out hc1 hc2 HGL.out HB2.out HG.out HAT.out⟩
  · have hce' : ¬ ((cap : Int) = (i : Int) + 1) := by omega
    go_region_held3 (fun w' => True) (trivial) ((refine step_copy_sized (by rfl) (.tmp 15) (.tmp 18) 53 53 (by rfl) 45 1 (by decide) Yba.underlying53 hsz g (i + 1) m (cap - (i + 1)) ⟨g, i, none⟩ (m + 1) (cap - i) (by rfl) (by rfl) _ 45 HG1.out B ?_ ?_ ?_ HB1.out ?_; (have := HB.out; rw [this]; simp); (intro j u hu; rw [Addr.add_lit]; exact HSRC.out j u hu); (have := HA.out; have := HB.out; have := HL.out; simp; omega); intro w2 hg2 hb2))
    obtain ⟨L, hL, hLl⟩ : ∃ L, L = splice (A ++ (B ++ (.pointer none :: rest))) (A.length + 1) B ∧ L.length = cap := ⟨_, rfl, by have := HA.out; have := HB.out; have := HL.out; rw [length_splice _ _ _ (by simp; omega)]; simp; omega⟩
    have HGL : Hid (w2.heap[g]? = some (.cells L.toArray 45 (0, 0))) := by
      show _ = _
      rw [hL, hg2.out, List.toList_toArray, show i + 1 = A.length + 1 by have := HA.out; omega]
    have HLL : Hid (L = splice (A ++ (B ++ (.pointer none :: rest))) (A.length + 1) B) := hL
    have e0 : w2.cell? ⟨g, i, none⟩ = some (L[i]'(by omega)) := by rw [cell_of_row _ g _ _ 45 (0, 0) HGL.out]; simp
    have f0 : w2.frozen? ⟨g, i, none⟩ = false := by simp [World.frozen?, HGL.out]
    have HB2 : Hid (w1.grownBy w2 (some g)) := ⟨hb2.out.os, hb2.out.tape, hb2.out.output, hb2.out.size, hb2.out.block⟩
    have hig : (i : Int) < (i : Int) + m + 1 := by omega
    generalize L[i]'(by omega) = y0 at e0
    clear hL hLl hb2 hg2
    go_wp2
    go_ret
    exact ⟨_, rfl, ins_fin1 HLL.out HA.out HB.out HL.out hc1 hc2 HGL.out HB2.out HG.out HAT.out⟩
end Go.Proofs.Ybulkira
