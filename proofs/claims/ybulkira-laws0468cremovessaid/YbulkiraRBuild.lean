import Derived.Test.YbulkiraRTree
namespace Go.Proofs.Ybulkira
open Go.RowKit
set_option linter.unusedVariables false
attribute [local go_sem ↓] Go.wp_at_zero Go.wp_at_succ

theorem rising_range (n : Nat) (h : n ≤ 1000) : Rising (List.range n) := ⟨List.pairwise_lt_range, fun x hx => by have := List.mem_range.1 hx; omega⟩

theorem tree_start (w : World) (G : Nat) : Tree (w.alloc (.cells #[.slice none 0 0, .slice none 0 0, .int .u64 (G : Int)] 55)) w.heap.size G w.heap.size [] :=
  .inl ⟨⟨w.heap.size, .slice none 0 0, [], G⟩, rfl, rfl, rfl, ⟨heap_alloc_new w _, World.ownsRow_nil _ _ _ _⟩, ⟨Nat.le_refl _, fun g hg => by cases hg⟩, by simp, by simp⟩

theorem tree_below {w w' : World} {B G b : Nat} {xs : List Nat} (h : Tree w B G b xs) (hb : Below w.heap.size w w') : Tree w' B G b xs := by
  rcases h with ⟨l, hl⟩ | ⟨r, hr⟩
  · exact .inl ⟨l, hl.hb, hl.hx, hl.gen, leaf_below hl.leaf hb, hl.high, Nat.le_trans hl.base hb.size, hl.len⟩
  · exact .inr ⟨r, hr.hb, root_below hr.root hb, hr.good, hr.hx, hr.pos⟩

theorem Tree.base {w : World} {B G b : Nat} {xs : List Nat} (h : Tree w B G b xs) : B ≤ w.heap.size := by
  rcases h with ⟨l, hl⟩ | ⟨r, hr⟩
  · exact hl.base
  · exact hr.root.base

set_option maxHeartbeats 1000000 in
theorem build_asc (n G : Nat) (w : World) (hn : n < 400) :
    Calls Yba.prog 9 #[.int .i64 (n : Int), .bool false, .int .u64 (G : Int)] w fun e w' => ∃ b, e = .returned (.pointer (some ⟨b, 0, none⟩)) ∧ Below w.heap.size w w' ∧ Tree w' w.heap.size G b (List.range n) := by
  go_enter Yba.func9, Yba.ntmps9
  go_wp2
  go_loopw [7, 8] (fun rv jv wr => ∃ j b : Nat, j ≤ n ∧ rv = .pointer (some ⟨b, 0, none⟩) ∧ jv = .int .i64 (j : Int) ∧ Hid (Below w.heap.size w wr ∧ Tree wr w.heap.size G b (List.range j))) (fun rv jv _ => n - (intOf jv).toNat)
  case atStart => exact ⟨0, w.heap.size, by omega, rfl, rfl, (Below.refl _ _).alloc (Nat.le_refl _) _, tree_start w G⟩
  case round =>
    obtain ⟨j, b, hj, rfl, rfl, hrel⟩ := hrel
    by_cases hlt : j < n
    · have hlt' : (j : Int) < (n : Int) := by omega
      go_wp2_with fail
      refine (key_any j wr (by omega)).mono ?_
      rintro e w1 ⟨rfl, hb1⟩
      have HT : Hid (Below w.heap.size w w1 ∧ Tree w1 w.heap.size G b (List.range j)) := ⟨hrel.out.1.trans (hb1.mono hrel.out.2.base), tree_below hrel.out.2 hb1⟩
      clear hb1 hrel
      go_wp2_with fail
      refine (cput_up w1 w.heap.size G b j (List.range j) HT.out.2 (by omega) (rising_range j (by omega)) (fun y hy => List.mem_range.1 hy) (by simp; omega)).mono ?_
      rintro e w2 ⟨b', rfl, hb2, ht2⟩
      have HT2 : Hid (Below w.heap.size w w2 ∧ Tree w2 w.heap.size G b' (List.range (j + 1))) := ⟨HT.out.1.trans hb2, by rw [List.range_succ]; exact ht2⟩
      clear hb2 ht2
      go_wp2
      go_roundw
      case rel => exact ⟨j + 1, b', hlt, rfl, by go_num, HT2⟩
      case measure => simp [intOf]; omega
    · have hlt' : ¬ (j : Int) < (n : Int) := by omega
      obtain rfl : j = n := by omega
      go_wp2
      go_ret
      exact ⟨b, rfl, hrel.out.1, hrel.out.2⟩

/-- the upper part of the numbers below n -/
theorem range_drop (n m : Nat) (h : m < n) : (List.range n).drop m = m :: (List.range n).drop (m + 1) := by
  rw [List.drop_eq_getElem_cons (by simpa using h)]
  simp

set_option maxHeartbeats 1000000 in
theorem build_desc (n G : Nat) (w : World) (hn : n < 400) :
    Calls Yba.prog 9 #[.int .i64 (n : Int), .bool true, .int .u64 (G : Int)] w fun e w' => ∃ b, e = .returned (.pointer (some ⟨b, 0, none⟩)) ∧ Below w.heap.size w w' ∧ Tree w' w.heap.size G b (List.range n) := by
  go_enter Yba.func9, Yba.ntmps9
  go_wp2
  go_loopw [7, 8] (fun rv jv wr => ∃ j b m : Nat, j + m = n ∧ rv = .pointer (some ⟨b, 0, none⟩) ∧ jv = .int .i64 (j : Int) ∧ Hid (Below w.heap.size w wr ∧ Tree wr w.heap.size G b ((List.range n).drop m))) (fun rv jv _ => n - (intOf jv).toNat)
  case atStart => exact ⟨0, w.heap.size, n, by omega, rfl, rfl, (Below.refl _ _).alloc (Nat.le_refl _) _, by rw [List.drop_eq_nil_of_le (by simp)]; exact tree_start w G⟩
  case round =>
    obtain ⟨j, b, m, hj, rfl, rfl, hrel⟩ := hrel
    by_cases hlt : j < n
    · have hlt' : (j : Int) < (n : Int) := by omega
      obtain ⟨x, hx⟩ : ∃ x, x + 1 = m := ⟨m - 1, by omega⟩
      subst hx
      have e1 : (n : Int) - 1 - (j : Int) = (x : Int) := by omega
      have e2 : IntKind.i64.wrap ((n : Int) - 1) = (n : Int) - 1 := by rw [IntKind.wrap_i64]; omega
      have e3 : IntKind.i64.wrap (x : Int) = (x : Int) := by rw [IntKind.wrap_i64]; omega
      have HJ : Hid (j + (x + 1) = n) := hj
      clear hj
      go_wp2_with fail
      refine (key_any x wr (by have := HJ.out; omega)).mono ?_
      rintro e w1 ⟨rfl, hb1⟩
      have HT : Hid (Below w.heap.size w w1 ∧ Tree w1 w.heap.size G b ((List.range n).drop (x + 1))) := ⟨hrel.out.1.trans (hb1.mono hrel.out.2.base), tree_below hrel.out.2 hb1⟩
      clear hb1 hrel
      have hrd := range_drop n x (by have := HJ.out; omega)
      have hrs := (rising_range n (by omega)).sub (List.drop_sublist x (List.range n))
      have HRD : Hid ((List.range n).drop x = x :: (List.range n).drop (x + 1)) := hrd
      have HRS : Hid (Rising (x :: (List.range n).drop (x + 1))) := by rw [hrd] at hrs; exact hrs
      clear hrd hrs
      go_wp2_with fail
      refine (cput_down w1 w.heap.size G b x ((List.range n).drop (x + 1)) HT.out.2 (by have := HJ.out; omega) (HRS.out.sub (List.sublist_cons_self _ _)) (fun y hy => (List.pairwise_cons.1 HRS.out.less).1 y hy) (by simp; omega)).mono ?_
      rintro e w2 ⟨b', rfl, hb2, ht2⟩
      have HT2 : Hid (Below w.heap.size w w2 ∧ Tree w2 w.heap.size G b' ((List.range n).drop x)) := ⟨HT.out.1.trans hb2, by rw [HRD.out]; exact ht2⟩
      clear hb2 ht2
      go_wp2
      go_roundw
      case rel => exact ⟨j + 1, b', x, by have := HJ.out; omega, rfl, by go_num, HT2⟩
      case measure => simp [intOf]; omega
    · have hlt' : ¬ (j : Int) < (n : Int) := by omega
      obtain rfl : m = 0 := by omega
      obtain rfl : j = n := by omega
      go_wp2
      go_ret
      exact ⟨b, rfl, hrel.out.1, by have := hrel.out.2; rwa [List.drop_zero] at this⟩
end Go.Proofs.Ybulkira
