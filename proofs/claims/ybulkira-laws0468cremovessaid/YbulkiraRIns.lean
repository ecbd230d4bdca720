import Derived.Test.YbulkiraRRows
import Derived.Deep.RegionLaw
namespace Go.Proofs.Ybulkira
open Go.RowKit
set_option linter.unusedVariables false
attribute [local go_sem ↓] Go.wp_at_zero Go.wp_at_succ

theorem Yba.info57 : (Yba.prog.info? 57).map (fun i => (i.zero, i.size, i.bytes)) = some (some (.agg #[.string ⟨#[]⟩, .int .i64 0]), 2, 24) := by kernel_rfl
theorem Yba.info45 : (Yba.prog.info? 45).map (fun i => (i.zero, i.size, i.bytes)) = some (some (.pointer none), 1, 8) := by kernel_rfl

/-- an item as a value -/
def itemV (x : Nat) : Value := .agg #[.string (keyB x), .int .i64 (x : Int)]

/-- what an insertion or an append leaves of the memory: the row it was, or a new one -/
structure NewRow (w w' : World) (v v' : Value) : Prop where
  grown : w.grownBy w' v.ownBlock
  lies : v'.ownBlock = v.ownBlock ∨ ∃ g, v'.ownBlock = some g ∧ w.heap.size ≤ g

theorem own_lt {w : World} {b e z n : Nat} {v : Value} {xs : List Value} (h : w.ownsRow b e z v n xs) {k : Nat} (hk : v.ownBlock = some k) : k < w.heap.size := (h.lt k hk).2

/-- an owned row, laid open -/
theorem own_open {w : World} {e z n : Nat} {g cap : Nat} {xs : List Value} (h : w.ownsRow 0 e z (.slice (some ⟨g, 0, none⟩) n cap) n xs) :
    ∃ rest : List Value, w.heap[g]? = some (.cells (xs ++ rest).toArray e (0, 0)) ∧ n ≤ cap ∧ cap ≤ maxLen ∧ xs.length = n * z ∧ (xs ++ rest).length = cap * z := by
  obtain ⟨hl, hh⟩ := h
  rcases hh with ⟨h0, _⟩ | ⟨g', cap', cur, hv, _, hg, h1, h2, h3, h4⟩
  · cases h0
  · cases hv
    refine ⟨cur.toList.drop (n * z), ?_, h1, h2, hl, ?_⟩
    · rw [← h4, List.take_append_drop, Array.toArray_toList]; exact hg
    · rw [← h4, List.take_append_drop]; simpa using h3

theorem own_shut {w : World} {e z n : Nat} {g cap : Nat} {xs rest : List Value} (hg : w.heap[g]? = some (.cells (xs ++ rest).toArray e (0, 0))) (h1 : n ≤ cap) (h2 : cap ≤ maxLen) (hl : xs.length = n * z) (h3 : (xs ++ rest).length = cap * z) :
    w.ownsRow 0 e z (.slice (some ⟨g, 0, none⟩) n cap) n xs :=
  ⟨hl, .inr ⟨g, cap, _, rfl, Nat.zero_le _, hg, h1, h2, by simpa using h3, by rw [← hl]; simp⟩⟩

theorem splice_nil0 {α : Type} {B : List α} (L : List α) (off : Nat) (h : B.length = 0) : splice L off B = L := by
  obtain rfl : B = [] := List.eq_nil_of_length_eq_zero h
  simp [splice]

theorem heap_set2 {w : World} {g k : Nat} {L : List Value} {e : TypeId} (a b : Value) (hg : w.heap[g]? = some (.cells L.toArray e (0, 0))) :
    ((w.setCell ⟨g, k, none⟩ a).setCell ⟨g, k + 1, none⟩ b).heap[g]? = some (.cells ((L.set k a).set (k + 1) b).toArray e (0, 0)) := by
  have h1 := heap_setCell_same w g k L.toArray e a hg
  have h2 := heap_setCell_same (w.setCell ⟨g, k, none⟩ a) g (k + 1) _ e b h1
  rw [h2]; simp

/-- the end of an insertion -/
theorem ins_fin {w w1 w2 : World} {v a b z1 z2 : Value} {A B rest : List Value} {i m g cap : Nat} {L : List Value} (hL : L = splice (A ++ (B ++ (z1 :: z2 :: rest))) (A.length + 2) B) (hA : A.length = i * 2) (hB : B.length = m * 2)
    (hlen : A.length + (B.length + (2 + rest.length)) = cap * 2) (hc : i + m + 1 ≤ cap) (hc2 : cap ≤ maxLen) (hg2 : w2.heap[g]? = some (.cells L.toArray 57 (0, 0))) (hb2 : w1.grownBy w2 (some g))
    (hG : w.grownBy w1 v.ownBlock) (hat : v.ownBlock = some g ∨ w.heap.size + 3 ≤ g) :
    ((w2.setCell ⟨g, i * 2, none⟩ a).setCell ⟨g, i * 2 + 1, none⟩ b).ownsRow 0 57 2 (.slice (some ⟨g, 0, none⟩) (i + m + 1) cap) (i + m + 1) (A ++ (a :: b :: B)) ∧
    NewRow w ((w2.setCell ⟨g, i * 2, none⟩ a).setCell ⟨g, i * 2 + 1, none⟩ b) v (.slice (some ⟨g, 0, none⟩) (i + m + 1) cap) := by
  have h := heap_set2 (k := i * 2) a b hg2
  rw [hL, ← hA, ins_cells A B z1 z2 a b rest] at h
  rw [← hA]
  constructor
  · refine own_shut (rest := rest) (by rw [h]; simp) hc hc2 (by simp; omega) (by simp; omega)
  · have hgr : w1.grownBy ((w2.setCell ⟨g, A.length, none⟩ a).setCell ⟨g, A.length + 1, none⟩ b) (some g) := grown_trans hb2 (grown_trans (grown_set _ ⟨g, A.length, none⟩ _) (grown_set _ ⟨g, A.length + 1, none⟩ _))
    refine ⟨hG.andThen hgr ?_, ?_⟩
    · intro k hk
      cases hk
      rcases hat with h | h
      · exact .inr h
      · exact .inl (by omega)
    · rcases hat with h | h
      · exact .inl h.symm
      · exact .inr ⟨g, rfl, by omega⟩

set_option maxHeartbeats 1000000 in
theorem insertI0 (v : Value) (A B : List Value) (i m x : Nat) (w : World) (hI : w.ownsRow 0 57 2 v (i + m) (A ++ B)) (hA : A.length = i * 2) (hB : B.length = m * 2) (hn : i + m < 1000) (hB1 : ∀ u ∈ B, u.oneCell' = true) :
    Calls Yba.prog 26 #[v, .int .i64 (i : Int), .agg #[.string (keyB x), .int .i64 (x : Int)]] w fun e w' => ∃ v', e = .returned v' ∧ w'.ownsRow 0 57 2 v' (i + m + 1) (A ++ (.string (keyB x) :: .int .i64 (x : Int) :: B)) ∧ NewRow w w' v v' := by
  obtain ⟨i0, hi, hz0, hz1, hz2⟩ := info_parts Yba.info57
  have hsz : (Yba.prog.info? 57).map (·.size) = some 2 := by rw [hi]; simp [hz1]
  have HI : Hid (w.ownsRow 0 57 2 v (i + m) (A ++ B)) := hI
  have HA : Hid (A.length = i * 2) := hA
  have HB : Hid (B.length = m * 2) := hB
  have HB1 : Hid (∀ u ∈ B, u.oneCell' = true) := hB1
  have hvlt : Hid (∀ k, v.ownBlock = some k → k < w.heap.size) := fun k hk => own_lt hI hk
  clear hI hA hB hB1
  have hn2 : i + m + 1 ≤ maxLen := by unfold maxLen; omega
  go_enter Yba.func26, Yba.ntmps26
  go_wp2_with (at_builtin; refine wpList_append_lies _ rfl _ _ 49 rfl 0 57 i0 (.agg #[.string ⟨#[]⟩, .int .i64 0]) 2 24 Yba.underlying49 hi hz0 hz1 hz2 rfl (by decide) _ _ _ rfl (((HI.out.alloc _).alloc _).alloc _) ⟨w.heap.size + 2, 0, none⟩ 1 1 [.string ⟨#[]⟩, .int .i64 0] rfl rfl ?c1 ?c2 (by decide) hn2 ?c3 (Nat.zero_le _) _ rfl ?_)
  case c1 => exact World.news_of_block (cs := #[.string ⟨#[]⟩, .int .i64 0]) (t := 57) (fr := (0, 0)) (by simpa using heap_alloc_new ((w.alloc (.cells #[.string (keyB x), .int .i64 (x : Int)] 57)).alloc (.cells #[.string ⟨#[]⟩, .int .i64 0] 57)) (.cells #[.string ⟨#[]⟩, .int .i64 0] 57))
  case c2 => intro u hu; simp at hu; rcases hu with rfl | rfl <;> rfl
  case c3 => omega
  intro g cap w1 hown hgrow hat hlt
  have ci : ∀ j u, #[Value.string (keyB x), .int .i64 (x : Int)][j]? = some u → w1.cell? ⟨w.heap.size, j, none⟩ = some u := by
    intro j u hu
    rw [hgrow.cell_far ⟨w.heap.size, j, none⟩ (by simp; omega) (fun h => Nat.lt_irrefl _ (hvlt.out w.heap.size h.symm))]
    rw [cell_past _ _ _ _ (by simp; omega), cell_past _ _ _ _ (by simp), cell_new]
    exact hu
  have ci0 : w1.cell? ⟨w.heap.size, 0, none⟩ = some (.string (keyB x)) := ci 0 _ rfl
  have ci1 : w1.cell? ⟨w.heap.size, 1, none⟩ = some (.int .i64 (x : Int)) := ci 1 _ rfl
  have HG : Hid (w.grownBy w1 v.ownBlock) := grown_trans (grown_trans (grown_trans (World.grownBy_alloc w _ _) (World.grownBy_alloc _ _ _)) (World.grownBy_alloc _ _ _)) hgrow
  have HAT : Hid (v.ownBlock = some g ∨ w.heap.size + 3 ≤ g) := hat.imp id (fun h => by omega)
  have hgd : g ≠ w.heap.size := by
    rcases HAT.out with h | h
    · have := hvlt.out _ h; omega
    · omega
  clear hat hgrow ci
  obtain ⟨rest, hg1, hc1, hc2, _, hc3⟩ := own_open hown
  have HG1 : Hid (w1.heap[g]? = some (.cells (A ++ (B ++ (.string ⟨#[]⟩ :: .int .i64 0 :: rest))).toArray 57 (0, 0))) := by
    show _ = _
    rw [hg1]; simp
  have HL : Hid (A.length + (B.length + (2 + rest.length)) = cap * 2) := by
    show _ = _
    rw [← hc3]; simp; omega
  clear hown hg1 hc3
  obtain ⟨D, hD⟩ : ∃ D, D = w.heap.size := ⟨_, rfl⟩
  rw [← hD] at ci0 ci1 hgd ⊢
  have HD : Hid (D = w.heap.size) := hD
  clear hD
  have hcap : (i : Int) + m + 1 ≤ cap := by omega
  have hDlt : D < w1.heap.size := World.block_lt_of_cell? w1 _ ci0
  go_wp2_with fail
  have hi1 : (i : Int) + 1 ≤ (i : Int) + m + 1 := by omega
  have hi2 : (i : Int) ≤ (i : Int) + m + 1 := by omega
  have hw1 : IntKind.i64.wrap ((i : Int) + 1) = (i : Int) + 1 := by rw [IntKind.wrap_i64]; omega
  have h01 : (0 : Int) ≤ (i : Int) + 1 := by omega
  have hci : ¬ cap = i := by omega
  have hmi : i + m + 1 - i = m + 1 := by omega
  have HSRC : Hid (∀ j u, B[j]? = some u → w1.cell? ⟨g, i * 2 + j, none⟩ = some u) := by
    intro j u hu
    have hj : j < B.length := (List.getElem?_eq_some_iff.1 hu).1
    rw [cell_of_row _ g _ _ 57 (0, 0) HG1.out, ← HA.out]
    rw [← hu]; simp [List.getElem?_append_right, List.getElem?_append_left, hj]
  by_cases hce : cap = i + 1
  · subst hce
    obtain rfl : m = 0 := by omega
    have hz1' : (i : Int) ≤ (i : Int) + 1 := by omega
    have hz2' : i + 1 - i = 1 := by omega
    have hz3' : ¬ i + 1 = i := by omega
    go_region_held3 (fun w' => True) (trivial) ((refine step_copy_sized (by rfl) (.tmp 15) (.tmp 18) 49 49 (by rfl) 57 2 (by decide) Yba.underlying49 hsz g 0 0 0 ⟨g, i * 2, none⟩ 1 1 (by rfl) (by rfl) _ 57 HG1.out B ?_ ?_ ?_ HB1.out ?_; (have := HB.out; rw [this]; congr 1; simp); (intro j u hu; rw [Addr.add_lit]; exact HSRC.out j u hu); (have := HA.out; have := HB.out; have := HL.out; simp; omega); intro w2 hg2 hb2))
    have d0 := (hb2.out.cell_far ⟨D, 0, none⟩ hDlt (by simp; omega)).trans ci0
    have d1 := (hb2.out.cell_far ⟨D, 1, none⟩ hDlt (by simp; omega)).trans ci1
    obtain ⟨L, hL, hLl⟩ : ∃ L, L = splice (A ++ (B ++ (.string ⟨#[]⟩ :: .int .i64 0 :: rest))) (A.length + 2) B ∧ L.length = (i + 1) * 2 := ⟨_, rfl, by have := HA.out; have := HB.out; have := HL.out; rw [length_splice _ _ _ (by simp; omega)]; simp; omega⟩
    have HGL : Hid (w2.heap[g]? = some (.cells L.toArray 57 (0, 0))) := by
      show _ = _
      rw [hL, hg2.out, List.toList_toArray, splice_nil0 _ _ (by have := HB.out; omega), splice_nil0 _ _ (by have := HB.out; omega)]
    have HLL : Hid (L = splice (A ++ (B ++ (.string ⟨#[]⟩ :: .int .i64 0 :: rest))) (A.length + 2) B) := hL
    have e0 : w2.cell? ⟨g, i * 2, none⟩ = some (L[i * 2]'(by omega)) := by rw [cell_of_row _ g _ _ 57 (0, 0) HGL.out]; simp
    have e1 : w2.cell? ⟨g, i * 2 + 1, none⟩ = some (L[i * 2 + 1]'(by omega)) := by rw [cell_of_row _ g _ _ 57 (0, 0) HGL.out]; simp
    have f0 : w2.frozen? ⟨g, i * 2, none⟩ = false := by simp [World.frozen?, HGL.out]
    have f1 : w2.frozen? ⟨g, i * 2 + 1, none⟩ = false := by simp [World.frozen?, HGL.out]
    have HB2 : Hid (w1.grownBy w2 (some g)) := ⟨hb2.out.os, hb2.out.tape, hb2.out.output, hb2.out.size, hb2.out.block⟩
    have hig : (i : Int) < (i : Int) + 1 := by omega
    generalize L[i * 2]'(by omega) = y0 at e0
    generalize L[i * 2 + 1]'(by omega) = y1 at e1
    clear hL hLl hb2 hg2 ci0 ci1
    go_wp2
    go_ret
    exact ⟨_, rfl, ins_fin HLL.out HA.out HB.out HL.out hc1 hc2 HGL.out HB2.out HG.out HAT.out⟩
  · have hce' : ¬ ((cap : Int) = (i : Int) + 1) := by omega
    go_region_held3 (fun w' => True) (trivial) ((refine step_copy_sized (by rfl) (.tmp 15) (.tmp 18) 49 49 (by rfl) 57 2 (by decide) Yba.underlying49 hsz g ((i + 1) * 2) m (cap - (i + 1)) ⟨g, i * 2, none⟩ (m + 1) (cap - i) (by rfl) (by rfl) _ 57 HG1.out B ?_ ?_ ?_ HB1.out ?_; (have := HB.out; rw [this]; congr 1; simp); (intro j u hu; rw [Addr.add_lit]; exact HSRC.out j u hu); (have := HA.out; have := HB.out; have := HL.out; simp; omega); intro w2 hg2 hb2))
    have d0 := (hb2.out.cell_far ⟨D, 0, none⟩ hDlt (by simp; omega)).trans ci0
    have d1 := (hb2.out.cell_far ⟨D, 1, none⟩ hDlt (by simp; omega)).trans ci1
    obtain ⟨L, hL, hLl⟩ : ∃ L, L = splice (A ++ (B ++ (.string ⟨#[]⟩ :: .int .i64 0 :: rest))) (A.length + 2) B ∧ L.length = cap * 2 := ⟨_, rfl, by have := HA.out; have := HB.out; have := HL.out; rw [length_splice _ _ _ (by simp; omega)]; simp; omega⟩
    have HGL : Hid (w2.heap[g]? = some (.cells L.toArray 57 (0, 0))) := by
      show _ = _
      rw [hL, hg2.out, List.toList_toArray, show (i + 1) * 2 = A.length + 2 by have := HA.out; omega]
    have HLL : Hid (L = splice (A ++ (B ++ (.string ⟨#[]⟩ :: .int .i64 0 :: rest))) (A.length + 2) B) := hL
    have e0 : w2.cell? ⟨g, i * 2, none⟩ = some (L[i * 2]'(by omega)) := by rw [cell_of_row _ g _ _ 57 (0, 0) HGL.out]; simp
    have e1 : w2.cell? ⟨g, i * 2 + 1, none⟩ = some (L[i * 2 + 1]'(by omega)) := by rw [cell_of_row _ g _ _ 57 (0, 0) HGL.out]; simp
    have f0 : w2.frozen? ⟨g, i * 2, none⟩ = false := by simp [World.frozen?, HGL.out]
    have f1 : w2.frozen? ⟨g, i * 2 + 1, none⟩ = false := by simp [World.frozen?, HGL.out]
    have HB2 : Hid (w1.grownBy w2 (some g)) := ⟨hb2.out.os, hb2.out.tape, hb2.out.output, hb2.out.size, hb2.out.block⟩
    have hig : (i : Int) < (i : Int) + m + 1 := by omega
    generalize L[i * 2]'(by omega) = y0 at e0
    generalize L[i * 2 + 1]'(by omega) = y1 at e1
    clear hL hLl hb2 hg2 ci0 ci1
    go_wp2
    go_ret
    exact ⟨_, rfl, ins_fin HLL.out HA.out HB.out HL.out hc1 hc2 HGL.out HB2.out HG.out HAT.out⟩
end Go.Proofs.Ybulkira
