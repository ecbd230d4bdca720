import Derived.Test.YbulkiraRInsP
namespace Go.Proofs.Ybulkira
open Go.RowKit
set_option linter.unusedVariables false
attribute [local go_sem ↓] Go.wp_at_zero Go.wp_at_succ

theorem take_set_far {α : Type} (L : List α) (k n : Nat) (a : α) (h : n ≤ k) : (L.set k a).take n = L.take n := by
  apply List.ext_getElem?
  intro j
  rw [List.getElem?_take, List.getElem?_take]
  by_cases hj : j < n
  · rw [if_pos hj, if_pos hj, List.getElem?_set_ne (by omega)]
  · rw [if_neg hj, if_neg hj]

/-- the end of a removal -/
theorem del_fin {w w3 : World} {e z : Nat} {A M B rest F : List Value} {i m g cap : Nat} (hA : A.length = i * z) (hB : B.length = m * z) (hM : M.length = z)
    (hF : F.take (A.length + B.length) = (splice (A ++ (M ++ (B ++ rest))) A.length B).take (A.length + B.length)) (hFl : F.length = cap * z)
    (hc : i + m ≤ cap) (hc2 : cap ≤ maxLen) (hg3 : w3.heap[g]? = some (.cells F.toArray e (0, 0))) (hb3 : w.grownBy w3 (some g)) (n : Nat) :
    w3.ownsRow 0 e z (.slice (some ⟨g, 0, none⟩) (i + m) cap) (i + m) (A ++ B) ∧ NewRow w w3 (.slice (some ⟨g, 0, none⟩) n cap) (.slice (some ⟨g, 0, none⟩) (i + m) cap) := by
  rw [del_cells] at hF
  refine ⟨own_shut (rest := F.drop (A.length + B.length)) ?_ hc hc2 ?_ ?_, hb3, .inl rfl⟩
  · rw [← hF, List.take_append_drop]; exact hg3
  · simp [hA, hB, Nat.add_mul]
  · rw [← hF, List.take_append_drop]; exact hFl

set_option maxHeartbeats 1000000 in
theorem removeI0 (g cap : Nat) (A M B : List Value) (i m : Nat) (w : World) (hI : w.ownsRow 0 57 2 (.slice (some ⟨g, 0, none⟩) (i + m + 1) cap) (i + m + 1) (A ++ (M ++ B))) (hA : A.length = i * 2) (hM : M.length = 2) (hB : B.length = m * 2) (hn : i + m < 1000) (hB1 : ∀ u ∈ B, u.oneCell' = true) :
    Calls Yba.prog 17 #[.slice (some ⟨g, 0, none⟩) (i + m + 1) cap, .int .i64 (i : Int)] w fun e w' => ∃ v', e = .returned v' ∧ w'.ownsRow 0 57 2 v' (i + m) (A ++ B) ∧ NewRow w w' (.slice (some ⟨g, 0, none⟩) (i + m + 1) cap) v' := by
  obtain ⟨i0, hi, hz0, hz1, hz2⟩ := info_parts Yba.info57
  have hsz : (Yba.prog.info? 57).map (·.size) = some 2 := by rw [hi]; simp [hz1]
  have HA : Hid (A.length = i * 2) := hA
  have HM : Hid (M.length = 2) := hM
  have HB : Hid (B.length = m * 2) := hB
  have HB1 : Hid (∀ u ∈ B, u.oneCell' = true) := hB1
  obtain ⟨rest, hg1, hc1, hc2, _, hc3⟩ := own_open hI
  have HG1 : Hid (w.heap[g]? = some (.cells (A ++ (M ++ (B ++ rest))).toArray 57 (0, 0))) := by
    show _ = _
    rw [hg1]; simp
  have HL : Hid (A.length + (M.length + (B.length + rest.length)) = cap * 2) := by
    show _ = _
    simp at hc3; omega
  have hgw : g < w.heap.size := (Array.getElem?_eq_some_iff.1 hg1).1
  clear hI hA hM hB hB1 hg1 hc3
  have hcap : (i : Int) + m + 1 ≤ cap := by omega
  have hi1 : (i : Int) + 1 ≤ (i : Int) + m + 1 := by omega
  have hi2 : (i : Int) ≤ (i : Int) + m + 1 := by omega
  have hw1 : IntKind.i64.wrap ((i : Int) + 1) = (i : Int) + 1 := by rw [IntKind.wrap_i64]; omega
  have h01 : (0 : Int) ≤ (i : Int) + 1 := by omega
  have hci : ¬ cap = i := by omega
  have hc0 : ¬ cap = 0 := by omega
  have hmi : i + m + 1 - i = m + 1 := by omega
  have hmi2 : i + m + 1 - (i + 1) = m := by omega
  have hsb : IntKind.i64.wrap ((i : Int) + m + 1 - 1) = (i : Int) + m := by rw [IntKind.wrap_i64]; omega
  have hsb2 : IntKind.i64.wrap ((i : Int) + m) = (i : Int) + m := by rw [IntKind.wrap_i64]; omega
  obtain ⟨w1, hw1e⟩ : ∃ w1, w1 = w.alloc (.cells #[.string ⟨#[]⟩, .int .i64 0] 57) := ⟨_, rfl⟩
  have HG1' : Hid (w1.heap[g]? = some (.cells (A ++ (M ++ (B ++ rest))).toArray 57 (0, 0))) := by
    show _ = _
    rw [hw1e, Below.heap_alloc _ _ _ hgw]; exact HG1.out
  have ci0 : w1.cell? ⟨w.heap.size, 0, none⟩ = some (.string ⟨#[]⟩) := by rw [hw1e, cell_new]; rfl
  have ci1 : w1.cell? ⟨w.heap.size, 1, none⟩ = some (.int .i64 0) := by rw [hw1e, cell_new]; rfl
  have hDlt : w.heap.size < w1.heap.size := by rw [hw1e]; simp
  have HGR : Hid (w.grownBy w1 (some g)) := by rw [hw1e]; exact World.grownBy_alloc _ _ _
  go_enter Yba.func17, Yba.ntmps17
  go_wp2_with fail
  rw [← hw1e]
  clear hw1e
  obtain ⟨D, hD⟩ : ∃ D, D = w.heap.size := ⟨_, rfl⟩
  rw [← hD] at ci0 ci1 hDlt hgw ⊢
  have hgd : g ≠ D := by omega
  clear hD
  have HSRC : Hid (∀ j u, B[j]? = some u → w1.cell? ⟨g, (i + 1) * 2 + j, none⟩ = some u) := by
    intro j u hu
    have hj : j < B.length := (List.getElem?_eq_some_iff.1 hu).1
    rw [cell_of_row _ g _ _ 57 (0, 0) HG1'.out, show (i + 1) * 2 + j = A.length + (M.length + j) by have := HA.out; have := HM.out; omega]
    rw [← hu]; simp [List.getElem?_append_right, List.getElem?_append_left, hj]
  by_cases hce : cap = i + 1
  · subst hce
    obtain rfl : m = 0 := by omega
    have hz1' : (i : Int) ≤ (i : Int) + 1 := by omega
    have hz2' : i + 1 - i = 1 := by omega
    have hz3' : ¬ i + 1 = i := by omega
    have hsb' : IntKind.i64.wrap ((i : Int) + 1 - 1) = (i : Int) := by rw [IntKind.wrap_i64]; omega
    have hsb2' : IntKind.i64.wrap (i : Int) = (i : Int) := by rw [IntKind.wrap_i64]; omega
    go_region_held3 (fun w' => True) (trivial) ((refine step_copy_sized (by rfl) (.tmp 8) (.tmp 12) 49 49 (by rfl) 57 2 (by decide) Yba.underlying49 hsz g (i * 2) 1 1 ⟨g, 0, none⟩ 0 0 (by rfl) (by rfl) _ 57 HG1'.out B ?_ ?_ ?_ HB1.out ?_; (have := HB.out; rw [this]; congr 1; simp); (intro j u hu; have hb0 := HB.out; have hj0 := (List.getElem?_eq_some_iff.1 hu).1; omega); (have := HA.out; have := HB.out; have := HM.out; have := HL.out; simp; omega); intro w2 hg2 hb2))
    obtain ⟨L, hL, hLl⟩ : ∃ L, L = splice (A ++ (M ++ (B ++ rest))) A.length B ∧ L.length = (i + 1) * 2 := ⟨_, rfl, by have := HA.out; have := HB.out; have := HM.out; have := HL.out; rw [length_splice _ _ _ (by simp; omega)]; simp; omega⟩
    have HGL : Hid (w2.heap[g]? = some (.cells L.toArray 57 (0, 0))) := by
      show _ = _
      rw [hL, hg2.out, List.toList_toArray, HA.out]
    have HLL : Hid (L = splice (A ++ (M ++ (B ++ rest))) A.length B) := hL
    have HLn : Hid (L.length = (i + 1) * 2) := hLl
    have e0 : w2.cell? ⟨g, (i) * 2, none⟩ = some (L[(i) * 2]'(by omega)) := by rw [cell_of_row _ g _ _ 57 (0, 0) HGL.out]; simp
    have f0 : w2.frozen? ⟨g, (i) * 2, none⟩ = false := by simp [World.frozen?, HGL.out]
    have e1 : w2.cell? ⟨g, (i) * 2 + 1, none⟩ = some (L[(i) * 2 + 1]'(by omega)) := by rw [cell_of_row _ g _ _ 57 (0, 0) HGL.out]; simp
    have f1 : w2.frozen? ⟨g, (i) * 2 + 1, none⟩ = false := by simp [World.frozen?, HGL.out]
    have d0 := (hb2.out.cell_far ⟨D, 0, none⟩ hDlt (by simp; omega)).trans ci0
    have d1 := (hb2.out.cell_far ⟨D, 1, none⟩ hDlt (by simp; omega)).trans ci1
    have HB2 : Hid (w1.grownBy w2 (some g)) := ⟨hb2.out.os, hb2.out.tape, hb2.out.output, hb2.out.size, hb2.out.block⟩
    have hig : (i : Int) < (i : Int) + 1 := by omega
    have hig2 : (0 : Int) ≤ (i : Int) := by omega
    generalize L[(i) * 2]'(by omega) = y0 at e0
    generalize L[(i) * 2 + 1]'(by omega) = y1 at e1
    clear ci0 ci1
    clear hL hLl hb2 hg2
    go_wp2
    go_ret
    refine ⟨_, rfl, del_fin (rest := rest) (i := i) (m := 0) HA.out HB.out HM.out ?_ ?_ (by omega) hc2 (heap_set2 (k := (i) * 2) _ _ HGL.out) (grown_trans HGR.out (grown_trans HB2.out (grown_trans (grown_set _ ⟨g, (i) * 2, none⟩ _) (grown_set _ ⟨g, (i) * 2 + 1, none⟩ _)))) _⟩
    · have h1 := HA.out
      have h2 := HB.out
      rw [← HLL.out]
      first | rw [take_set_far _ _ _ _ (by omega), take_set_far _ _ _ _ (by omega)] | rw [take_set_far _ _ _ _ (by omega)]
    · simp; exact HLn.out
  · have hce' : ¬ ((cap : Int) = (i : Int) + 1) := by omega
    go_region_held3 (fun w' => True) (trivial) ((refine step_copy_sized (by rfl) (.tmp 8) (.tmp 12) 49 49 (by rfl) 57 2 (by decide) Yba.underlying49 hsz g (i * 2) (m + 1) (cap - i) ⟨g, (i + 1) * 2, none⟩ m (cap - (i + 1)) (by rfl) (by rfl) _ 57 HG1'.out B ?_ ?_ ?_ HB1.out ?_; (have := HB.out; rw [this]; congr 1; simp); (intro j u hu; rw [Addr.add_lit]; exact HSRC.out j u hu); (have := HA.out; have := HB.out; have := HM.out; have := HL.out; simp; omega); intro w2 hg2 hb2))
    obtain ⟨L, hL, hLl⟩ : ∃ L, L = splice (A ++ (M ++ (B ++ rest))) A.length B ∧ L.length = cap * 2 := ⟨_, rfl, by have := HA.out; have := HB.out; have := HM.out; have := HL.out; rw [length_splice _ _ _ (by simp; omega)]; simp; omega⟩
    have HGL : Hid (w2.heap[g]? = some (.cells L.toArray 57 (0, 0))) := by
      show _ = _
      rw [hL, hg2.out, List.toList_toArray, HA.out]
    have HLL : Hid (L = splice (A ++ (M ++ (B ++ rest))) A.length B) := hL
    have HLn : Hid (L.length = cap * 2) := hLl
    have e0 : w2.cell? ⟨g, (i + m) * 2, none⟩ = some (L[(i + m) * 2]'(by omega)) := by rw [cell_of_row _ g _ _ 57 (0, 0) HGL.out]; simp
    have f0 : w2.frozen? ⟨g, (i + m) * 2, none⟩ = false := by simp [World.frozen?, HGL.out]
    have e1 : w2.cell? ⟨g, (i + m) * 2 + 1, none⟩ = some (L[(i + m) * 2 + 1]'(by omega)) := by rw [cell_of_row _ g _ _ 57 (0, 0) HGL.out]; simp
    have f1 : w2.frozen? ⟨g, (i + m) * 2 + 1, none⟩ = false := by simp [World.frozen?, HGL.out]
    have d0 := (hb2.out.cell_far ⟨D, 0, none⟩ hDlt (by simp; omega)).trans ci0
    have d1 := (hb2.out.cell_far ⟨D, 1, none⟩ hDlt (by simp; omega)).trans ci1
    have HB2 : Hid (w1.grownBy w2 (some g)) := ⟨hb2.out.os, hb2.out.tape, hb2.out.output, hb2.out.size, hb2.out.block⟩
    have hig : (i : Int) + m < (i : Int) + m + 1 := by omega
    have hig2 : (0 : Int) ≤ (i : Int) + m := by omega
    generalize L[(i + m) * 2]'(by omega) = y0 at e0
    generalize L[(i + m) * 2 + 1]'(by omega) = y1 at e1
    clear ci0 ci1
    clear hL hLl hb2 hg2
    go_wp2
    go_ret
    refine ⟨_, rfl, del_fin (rest := rest) (i := i) (m := m) HA.out HB.out HM.out ?_ ?_ (by omega) hc2 (heap_set2 (k := (i + m) * 2) _ _ HGL.out) (grown_trans HGR.out (grown_trans HB2.out (grown_trans (grown_set _ ⟨g, (i + m) * 2, none⟩ _) (grown_set _ ⟨g, (i + m) * 2 + 1, none⟩ _)))) _⟩
    · have h1 := HA.out
      have h2 := HB.out
      rw [← HLL.out]
      first | rw [take_set_far _ _ _ _ (by omega), take_set_far _ _ _ _ (by omega)] | rw [take_set_far _ _ _ _ (by omega)]
    · simp; exact HLn.out

set_option maxHeartbeats 1000000 in
theorem removeP0 (g cap : Nat) (A M B : List Value) (i m : Nat) (w : World) (hI : w.ownsRow 0 45 1 (.slice (some ⟨g, 0, none⟩) (i + m + 1) cap) (i + m + 1) (A ++ (M ++ B))) (hA : A.length = i) (hM : M.length = 1) (hB : B.length = m) (hn : i + m < 1000) (hB1 : ∀ u ∈ B, u.oneCell' = true) :
    Calls Yba.prog 28 #[.slice (some ⟨g, 0, none⟩) (i + m + 1) cap, .int .i64 (i : Int)] w fun e w' => ∃ v', e = .returned v' ∧ w'.ownsRow 0 45 1 v' (i + m) (A ++ B) ∧ NewRow w w' (.slice (some ⟨g, 0, none⟩) (i + m + 1) cap) v' := by
  obtain ⟨i0, hi, hz0, hz1, hz2⟩ := info_parts Yba.info45
  have hsz : (Yba.prog.info? 45).map (·.size) = some 1 := by rw [hi]; simp [hz1]
  have HA : Hid (A.length = i) := hA
  have HM : Hid (M.length = 1) := hM
  have HB : Hid (B.length = m) := hB
  have HB1 : Hid (∀ u ∈ B, u.oneCell' = true) := hB1
  obtain ⟨rest, hg1, hc1, hc2, _, hc3⟩ := own_open hI
  have HG1 : Hid (w.heap[g]? = some (.cells (A ++ (M ++ (B ++ rest))).toArray 45 (0, 0))) := by
    show _ = _
    rw [hg1]; simp
  have HL : Hid (A.length + (M.length + (B.length + rest.length)) = cap) := by
    show _ = _
    simp at hc3; omega
  have hgw : g < w.heap.size := (Array.getElem?_eq_some_iff.1 hg1).1
  clear hI hA hM hB hB1 hg1 hc3
  have hcap : (i : Int) + m + 1 ≤ cap := by omega
  have hi1 : (i : Int) + 1 ≤ (i : Int) + m + 1 := by omega
  have hi2 : (i : Int) ≤ (i : Int) + m + 1 := by omega
  have hw1 : IntKind.i64.wrap ((i : Int) + 1) = (i : Int) + 1 := by rw [IntKind.wrap_i64]; omega
  have h01 : (0 : Int) ≤ (i : Int) + 1 := by omega
  have hci : ¬ cap = i := by omega
  have hc0 : ¬ cap = 0 := by omega
  have hmi : i + m + 1 - i = m + 1 := by omega
  have hmi2 : i + m + 1 - (i + 1) = m := by omega
  have hsb : IntKind.i64.wrap ((i : Int) + m + 1 - 1) = (i : Int) + m := by rw [IntKind.wrap_i64]; omega
  have hsb2 : IntKind.i64.wrap ((i : Int) + m) = (i : Int) + m := by rw [IntKind.wrap_i64]; omega
  obtain ⟨w1, hw1e⟩ : ∃ w1, w1 = w := ⟨_, rfl⟩
  have HG1' : Hid (w1.heap[g]? = some (.cells (A ++ (M ++ (B ++ rest))).toArray 45 (0, 0))) := by rw [hw1e]; exact HG1
  have HGR : Hid (w.grownBy w1 (some g)) := by rw [hw1e]; exact ⟨rfl, rfl, rfl, Nat.le_refl _, fun _ _ _ => rfl⟩
  go_enter Yba.func28, Yba.ntmps28
  go_wp2_with fail
  rw [← hw1e]
  clear hw1e
  have HSRC : Hid (∀ j u, B[j]? = some u → w1.cell? ⟨g, (i + 1) + j, none⟩ = some u) := by
    intro j u hu
    have hj : j < B.length := (List.getElem?_eq_some_iff.1 hu).1
    rw [cell_of_row _ g _ _ 45 (0, 0) HG1'.out, show (i + 1) + j = A.length + (M.length + j) by have := HA.out; have := HM.out; omega]
    rw [← hu]; simp [List.getElem?_append_right, List.getElem?_append_left, hj]
  by_cases hce : cap = i + 1
  · subst hce
    obtain rfl : m = 0 := by omega
    have hz1' : (i : Int) ≤ (i : Int) + 1 := by omega
    have hz2' : i + 1 - i = 1 := by omega
    have hz3' : ¬ i + 1 = i := by omega
    have hsb' : IntKind.i64.wrap ((i : Int) + 1 - 1) = (i : Int) := by rw [IntKind.wrap_i64]; omega
    have hsb2' : IntKind.i64.wrap (i : Int) = (i : Int) := by rw [IntKind.wrap_i64]; omega
    go_region_held3 (fun w' => True) (trivial) ((refine step_copy_sized (by rfl) (.tmp 8) (.tmp 12) 53 53 (by rfl) 45 1 (by decide) Yba.underlying53 hsz g (i) 1 1 ⟨g, 0, none⟩ 0 0 (by rfl) (by rfl) _ 45 HG1'.out B ?_ ?_ ?_ HB1.out ?_; (have := HB.out; rw [this]; simp); (intro j u hu; have hb0 := HB.out; have hj0 := (List.getElem?_eq_some_iff.1 hu).1; omega); (have := HA.out; have := HB.out; have := HM.out; have := HL.out; simp; omega); intro w2 hg2 hb2))
    obtain ⟨L, hL, hLl⟩ : ∃ L, L = splice (A ++ (M ++ (B ++ rest))) A.length B ∧ L.length = (i + 1) := ⟨_, rfl, by have := HA.out; have := HB.out; have := HM.out; have := HL.out; rw [length_splice _ _ _ (by simp; omega)]; simp; omega⟩
    have HGL : Hid (w2.heap[g]? = some (.cells L.toArray 45 (0, 0))) := by
      show _ = _
      rw [hL, hg2.out, List.toList_toArray, HA.out]
    have HLL : Hid (L = splice (A ++ (M ++ (B ++ rest))) A.length B) := hL
    have HLn : Hid (L.length = (i + 1)) := hLl
    have e0 : w2.cell? ⟨g, i, none⟩ = some (L[i]'(by omega)) := by rw [cell_of_row _ g _ _ 45 (0, 0) HGL.out]; simp
    have f0 : w2.frozen? ⟨g, i, none⟩ = false := by simp [World.frozen?, HGL.out]
    have HB2 : Hid (w1.grownBy w2 (some g)) := ⟨hb2.out.os, hb2.out.tape, hb2.out.output, hb2.out.size, hb2.out.block⟩
    have hig : (i : Int) < (i : Int) + 1 := by omega
    have hig2 : (0 : Int) ≤ (i : Int) := by omega
    generalize L[i]'(by omega) = y0 at e0
    clear hL hLl hb2 hg2
    go_wp2
    go_ret
    refine ⟨_, rfl, del_fin (rest := rest) (i := i) (m := 0) (by simpa using HA.out) (by simpa using HB.out) HM.out ?_ ?_ (by omega) hc2 (heap_set1 (k := i) _ HGL.out) (grown_trans HGR.out (grown_trans HB2.out (grown_set _ ⟨g, i, none⟩ _))) _⟩
    · have h1 := HA.out
      have h2 := HB.out
      rw [← HLL.out]
      first | rw [take_set_far _ _ _ _ (by omega), take_set_far _ _ _ _ (by omega)] | rw [take_set_far _ _ _ _ (by omega)]
    · simpa using HLn.out
  · have hce' : ¬ ((cap : Int) = (i : Int) + 1) := by omega
    go_region_held3 (fun w' => True) (trivial) ((refine step_copy_sized (by rfl) (.tmp 8) (.tmp 12) 53 53 (by rfl) 45 1 (by decide) Yba.underlying53 hsz g (i) (m + 1) (cap - i) ⟨g, i + 1, none⟩ m (cap - (i + 1)) (by rfl) (by rfl) _ 45 HG1'.out B ?_ ?_ ?_ HB1.out ?_; (have := HB.out; rw [this]; simp); (intro j u hu; rw [Addr.add_lit]; exact HSRC.out j u hu); (have := HA.out; have := HB.out; have := HM.out; have := HL.out; simp; omega); intro w2 hg2 hb2))
    obtain ⟨L, hL, hLl⟩ : ∃ L, L = splice (A ++ (M ++ (B ++ rest))) A.length B ∧ L.length = cap := ⟨_, rfl, by have := HA.out; have := HB.out; have := HM.out; have := HL.out; rw [length_splice _ _ _ (by simp; omega)]; simp; omega⟩
    have HGL : Hid (w2.heap[g]? = some (.cells L.toArray 45 (0, 0))) := by
      show _ = _
      rw [hL, hg2.out, List.toList_toArray, HA.out]
    have HLL : Hid (L = splice (A ++ (M ++ (B ++ rest))) A.length B) := hL
    have HLn : Hid (L.length = cap) := hLl
    have e0 : w2.cell? ⟨g, i + m, none⟩ = some (L[i + m]'(by omega)) := by rw [cell_of_row _ g _ _ 45 (0, 0) HGL.out]; simp
    have f0 : w2.frozen? ⟨g, i + m, none⟩ = false := by simp [World.frozen?, HGL.out]
    have HB2 : Hid (w1.grownBy w2 (some g)) := ⟨hb2.out.os, hb2.out.tape, hb2.out.output, hb2.out.size, hb2.out.block⟩
    have hig : (i : Int) + m < (i : Int) + m + 1 := by omega
    have hig2 : (0 : Int) ≤ (i : Int) + m := by omega
    generalize L[i + m]'(by omega) = y0 at e0
    clear hL hLl hb2 hg2
    go_wp2
    go_ret
    refine ⟨_, rfl, del_fin (rest := rest) (i := i) (m := m) (by simpa using HA.out) (by simpa using HB.out) HM.out ?_ ?_ (by omega) hc2 (heap_set1 (k := i + m) _ HGL.out) (grown_trans HGR.out (grown_trans HB2.out (grown_set _ ⟨g, i + m, none⟩ _))) _⟩
    · have h1 := HA.out
      have h2 := HB.out
      rw [← HLL.out]
      first | rw [take_set_far _ _ _ _ (by omega), take_set_far _ _ _ _ (by omega)] | rw [take_set_far _ _ _ _ (by omega)]
    · simpa using HLn.out
end Go.Proofs.Ybulkira
