import Derived.Test.YbulkiraRChild
namespace Go.Proofs.Ybulkira
open Go.RowKit
set_option linter.unusedVariables false
attribute [local go_sem ↓] Go.wp_at_zero Go.wp_at_succ

theorem own_form {w : World} {b e z n : Nat} {v : Value} {xs : List Value} (h : w.ownsRow b e z v n xs) : ∃ a c, v = .slice a n c := by
  rcases h.2 with ⟨hv, hz⟩ | ⟨g, cap, cur, hv, _⟩
  · exact ⟨none, 0, by rw [hv, hz]⟩
  · exact ⟨_, _, hv⟩

theorem own_form' {w : World} {b e z n : Nat} {v : Value} {xs : List Value} (h : w.ownsRow b e z v n xs) : ∃ a m c, v = .slice a m c := by
  obtain ⟨a, c, h⟩ := own_form h
  exact ⟨a, n, c, h⟩

set_option maxHeartbeats 400000 in
theorem search16 (b : Nat) (v : Value) (xs : List Nat) (p : Nat) (f : Bool) (k : ByteArray) (w : World) (c0 : w.cell? ⟨b, 0, none⟩ = some v) (hk : KeyIs k p f) (hx : ∀ x ∈ xs, x < 1000) (hs : xs.Pairwise (· < ·)) (hn : xs.length < 1000) (hI : Items w v xs) :
    Calls Yba.prog 16 #[.pointer (some ⟨b, 0, none⟩), .string k] w fun e w' => e = .returned (.int .i64 (lb xs p : Int)) ∧ Below w.heap.size w w' := by
  have HI : Hid (Items w v xs) := hI
  have HX : Hid (∀ x ∈ xs, x < 1000) := hx
  have HS : Hid (xs.Pairwise (· < ·)) := hs
  clear hI hx hs
  go_enter Yba.func16, Yba.ntmps16
  go_wp2_with fail
  refine (search25 v xs p f k w hk HX.out HS.out hn HI.out).mono ?_
  rintro e w' ⟨rfl, hb⟩
  go_wp2
  go_ret
  exact ⟨rfl, hb⟩

/-! ### what is taken out of a row -/
def del (p : Nat) (f : Bool) (xs : List Nat) : List Nat := if f then xs.filter (fun x => !decide (x = p)) else xs

theorem del_append (p : Nat) (f : Bool) (xs ys : List Nat) : del p f (xs ++ ys) = del p f xs ++ del p f ys := by
  cases f <;> simp [del]

theorem del_none {p : Nat} {f : Bool} {xs : List Nat} (h : f = true → p ∉ xs) : del p f xs = xs := by
  cases f
  · rfl
  · simp only [del, if_true]
    rw [List.filter_eq_self]
    intro a ha
    have : p ∉ xs := h rfl
    simp
    rintro rfl
    exact this ha

/-- a rising row that holds p -/
theorem found_split {xs : List Nat} {p : Nat} (hs : xs.Pairwise (· < ·)) (h : xs[lb xs p]? = some p) :
    xs = xs.take (lb xs p) ++ p :: xs.drop (lb xs p + 1) ∧ (xs.take (lb xs p)).length = lb xs p ∧ del p true xs = xs.take (lb xs p) ++ xs.drop (lb xs p + 1) := by
  have hlt := (List.getElem?_eq_some_iff.1 h).1
  have e1 : xs = xs.take (lb xs p) ++ p :: xs.drop (lb xs p + 1) := by
    have h2 : xs.drop (lb xs p) = p :: xs.drop (lb xs p + 1) := by
      rw [List.drop_eq_getElem_cons hlt]
      rw [List.getElem?_eq_getElem hlt] at h
      rw [Option.some.inj h]
    rw [← h2, List.take_append_drop]
  refine ⟨e1, by simp; omega, ?_⟩
  have hs' := hs
  rw [e1] at hs'
  rw [List.pairwise_append] at hs'
  obtain ⟨_, h3, h4⟩ := hs'
  rw [List.pairwise_cons] at h3
  conv => lhs; rw [e1]
  rw [del_append]
  have e2 : del p true (xs.take (lb xs p)) = xs.take (lb xs p) := del_none (fun _ hm => by have := h4 p hm p (by simp); omega)
  have e3 : del p true (p :: xs.drop (lb xs p + 1)) = xs.drop (lb xs p + 1) := by
    have : del p true (xs.drop (lb xs p + 1)) = xs.drop (lb xs p + 1) := del_none (fun _ hm => by have := h3.1 p hm; omega)
    simp only [del, if_true] at this ⊢
    rw [List.filter_cons]
    simp [this]
  rw [e2, e3]

/-- a rising row that does not hold p at its place does not hold it at all -/
theorem not_found {xs : List Nat} {p : Nat} (hs : xs.Pairwise (· < ·)) (h : xs[lb xs p]? ≠ some p) : p ∉ xs := by
  intro hm
  obtain ⟨t, ht⟩ := List.getElem?_of_mem hm
  have h1 := lb_below xs p hs t p ht
  have hge : ¬ t < lb xs p := fun h' => by have := h1.2 h'; omega
  have hne : t ≠ lb xs p := fun e => h (by rw [← e]; exact ht)
  have htl := (List.getElem?_eq_some_iff.1 ht).1
  have hl : lb xs p < xs.length := by omega
  have h2 := lb_below xs p hs (lb xs p) _ (List.getElem?_eq_getElem hl)
  have h3 : ¬ xs[lb xs p] < p := fun h' => by have := h2.1 h'; omega
  rw [List.pairwise_iff_getElem] at hs
  have h4 := hs (lb xs p) t hl htl (by omega)
  rw [List.getElem?_eq_getElem htl] at ht
  cases ht
  omega

theorem LeafUpd.refl_below {w w' : World} {l : Nd} (h : LeafAt w l) (hb : Below w.heap.size w w') : LeafUpd w w' l l :=
  ⟨h.kept (Chg.of_below hb) (fun h => h) (fun _ _ h => h), rfl, rfl, .inl rfl, (Chg.of_below hb).mono (fun _ h => h.elim)⟩

theorem leaf_below {w w' : World} {l : Nd} (h : LeafAt w l) (hb : Below w.heap.size w w') : LeafAt w' l := (LeafUpd.refl_below h hb).leaf

/-- a leaf's change behind what only made new blocks -/
theorem LeafUpd.after {w w1 w2 : World} {l l' : Nd} (h : LeafAt w l) (hb : Below w.heap.size w w1) (hu : LeafUpd w1 w2 l l') : LeafUpd w w2 l l' :=
  ⟨hu.leaf, hu.b, hu.gen, hu.lies.imp id (fun ⟨g, h1, h2⟩ => ⟨g, h1, Nat.le_trans hb.size h2⟩), ((Chg.of_below hb).mono (fun _ h => h.elim)).trans hu.chg (fun _ h => .inl h)⟩

theorem Yba.nileq53 (w : World) : (binOp .eql 53 (.slice none 0 0) (.slice none 0 0)).run Yba.prog w = .ok (.bool true) w := by kernel_rfl

set_option maxHeartbeats 1000000 in
theorem remove_leaf (l : Nd) (p : Nat) (f : Bool) (k : ByteArray) (G : Nat) (w : World) (h : LeafAt w l) (hk : KeyIs k p f) (hx : ∀ x ∈ l.xs, x < 1000) (hs : l.xs.Pairwise (· < ·)) (hn : l.xs.length < 1000) :
    Calls Yba.prog 13 #[.pointer (some ⟨l.b, 0, none⟩), .string k, .int .u64 (G : Int)] w fun e w' => (∃ v, e = .returned v) ∧ ∃ l', l'.xs = del p f l.xs ∧ LeafUpd w w' l l' := by
  have HH : Hid (LeafAt w l) := h
  have HX : Hid (∀ x ∈ l.xs, x < 1000) := hx
  have HS : Hid (l.xs.Pairwise (· < ·)) := hs
  have k1 := Yba.nileq53
  obtain ⟨c0, c1, c2, f0, f1, hlt⟩ := heap_node h.node
  clear hx hs h
  go_enter Yba.func13, Yba.ntmps13
  go_wp2_with fail
  refine (search16 l.b l.v l.xs p f k w c0 hk HX.out HS.out hn HH.out.row).mono ?_
  rintro e w1 ⟨rfl, hb1⟩
  have HL1 : Hid (LeafAt w1 l) := leaf_below HH.out hb1
  have HB1 : Hid (Below w.heap.size w w1) := hb1
  have d0 := (hb1.cell (p := ⟨l.b, 0, none⟩) hlt).trans c0
  have d1 := (hb1.cell (p := ⟨l.b, 1, none⟩) hlt).trans c1
  have e0 := (hb1.frozen (p := ⟨l.b, 0, none⟩) hlt).trans f0
  have hlt1 : l.b < w1.heap.size := Nat.lt_of_lt_of_le hlt hb1.size
  clear hb1 c0 c1 c2 f0 f1
  have hle := lb_le l.xs p
  by_cases h0 : lb l.xs p < l.xs.length
  · obtain ⟨y, hy⟩ : ∃ y, l.xs[lb l.xs p]? = some y := ⟨_, List.getElem?_eq_getElem h0⟩
    obtain ⟨g, c, hv, hg, hcell⟩ := HL1.out.row.cell (by omega)
    have cy := (hcell _ y hy).1
    have hys := hk.same y (HX.out y (List.mem_of_getElem? hy))
    rw [← keyB_toList] at hys
    have HY : Hid (l.xs[lb l.xs p]? = some y) := hy
    have HV : Hid (l.v = .slice (some ⟨g, 0, none⟩) l.xs.length c) := hv
    rw [hv] at d0
    obtain ⟨N, hN⟩ : ∃ N, l.xs.length = N := ⟨_, rfl⟩
    obtain ⟨i, hi⟩ : ∃ i, lb l.xs p = i := ⟨_, rfl⟩
    rw [hN] at d0 h0 hn hle
    rw [hi] at cy h0 hle ⊢
    have HN : Hid (l.xs.length = N) := hN
    have HI : Hid (lb l.xs p = i) := hi
    have h0' : (i : Int) < (N : Int) := by omega
    clear hcell hy hv hN hi
    by_cases hf : (f && decide (y = p)) = true
    · rw [hf] at hys
      have hyp : y = p := by simp at hf; exact hf.2
      have hft : f = true := by simp at hf; exact hf.1
      have HF : Hid (l.xs = l.xs.take i ++ p :: l.xs.drop (i + 1) ∧ (l.xs.take i).length = i ∧ del p true l.xs = l.xs.take i ++ l.xs.drop (i + 1)) := by
        have := found_split HS.out (p := p) (by rw [HY.out, hyp])
        rw [HI.out] at this
        exact this
      have HIT : Hid (Items w1 (.slice (some ⟨g, 0, none⟩) N c) (l.xs.take i ++ p :: l.xs.drop (i + 1))) := by
        have := HL1.out.row
        rw [HV.out, HN.out] at this
        rw [← HF.out.1]
        exact this
      clear hf hyp
      go_wp2_with fail
      refine (removeI (.slice (some ⟨g, 0, none⟩) N c) (l.xs.take i) (l.xs.drop (i + 1)) i p w1 HF.out.2.1 HIT.out (by rw [← HF.out.1, HN.out]; exact hn)).mono ?_
      rintro e w2 ⟨v', rfl, hI2, hR⟩
      obtain ⟨a', n', c', rfl⟩ := own_form' hI2
      have hne : ∀ j, ¬ some (Addr.block ⟨l.b, j, none⟩) = (Value.slice (some ⟨g, 0, none⟩) N c).ownBlock := fun j e => own_ne HL1.out.row HL1.out.node (by decide) (by rw [HV.out, HN.out]; exact e.symm)
      have g0 := (hR.grown.cell_far ⟨l.b, 0, none⟩ hlt1 (hne 0)).trans d0
      have g1 := (hR.grown.frozen_far ⟨l.b, 0, none⟩ hlt1 (hne 0)).trans e0
      have HI2 : Hid (Items w2 (.slice a' n' c') (l.xs.take i ++ l.xs.drop (i + 1))) := hI2
      have HR : Hid (NewRow w1 w2 l.v (.slice a' n' c')) := by
        rw [HV.out, HN.out]; exact hR
      clear hI2 hR hne
      go_wp2
      refine bodyPost_ret (v := .tuple #[]) (by simp [results, Yba.results13, go_sem]) rfl ⟨⟨_, rfl⟩, ?_⟩
      have hu := leaf_items HL1.out HI2.out HR.out
      refine ⟨_, ?_, LeafUpd.after HH.out HB1.out hu⟩
      rw [hft, HF.out.2.2]
    · have hf' : (f && decide (y = p)) = false := by simpa using hf
      rw [hf'] at hys
      have HD : Hid (del p f l.xs = l.xs) := del_none (fun ht => not_found HS.out (by rw [HY.out]; intro e; cases e; simp [ht] at hf'))
      go_wp2
      refine bodyPost_ret (v := .tuple #[]) (by simp [results, Yba.results13, go_sem]) rfl ⟨⟨_, rfl⟩, l, HD.out.symm, LeafUpd.refl_below HH.out HB1.out⟩
  · have HD : Hid (del p f l.xs = l.xs) := del_none (fun ht => not_found HS.out (by rw [List.getElem?_eq_none (by omega)]; simp))
    have he : lb l.xs p = l.xs.length := by omega
    obtain ⟨a, c, hv⟩ := own_form HL1.out.row
    rw [hv] at d0
    rw [he]
    clear he h0 hv
    go_wp2
    refine bodyPost_ret (v := .tuple #[]) (by simp [results, Yba.results13, go_sem]) rfl ⟨⟨_, rfl⟩, l, HD.out.symm, LeafUpd.refl_below HH.out HB1.out⟩
end Go.Proofs.Ybulkira
