import Derived.Test.YbulkiraRKey
import Derived.Deep.QuietTactic
import Derived.BigQuiet
import Derived.Laws.Cover1
namespace Go.Proofs.Ybulkira
open Go.RowKit
set_option linter.unusedVariables false

/-- the cells of a row of items -/
def itemCells (xs : List Nat) : List Value := xs.flatMap fun x => [.string (keyB x), .int .i64 (x : Int)]

theorem itemCells_length (xs : List Nat) : (itemCells xs).length = xs.length * 2 := by
  induction xs with
  | nil => rfl
  | cons x xs ih => simp [itemCells] at ih ⊢; omega

theorem itemCells_get : ∀ (xs : List Nat) (t : Nat) (x : Nat), xs[t]? = some x → (itemCells xs)[t * 2]? = some (.string (keyB x)) ∧ (itemCells xs)[t * 2 + 1]? = some (.int .i64 (x : Int))
  | [], t, x, h => by simp at h
  | y :: ys, 0, x, h => by
    simp at h
    subst h
    exact ⟨rfl, rfl⟩
  | y :: ys, t + 1, x, h => by
    have ih := itemCells_get ys t x (by simpa using h)
    have e : itemCells (y :: ys) = .string (keyB y) :: .int .i64 (y : Int) :: itemCells ys := rfl
    rw [e, show (t + 1) * 2 = t * 2 + 1 + 1 by omega]
    exact ⟨ih.1, ih.2⟩

/-- how many of them lie below p -/
def lb (xs : List Nat) (p : Nat) : Nat := xs.countP (· < p)

theorem lb_le (xs : List Nat) (p : Nat) : lb xs p ≤ xs.length := List.countP_le_length

/-- in a rising row the place of p is told by the items -/
theorem lb_below : ∀ (xs : List Nat) (p : Nat), xs.Pairwise (· < ·) → ∀ t x, xs[t]? = some x → (x < p ↔ t < lb xs p)
  | [], p, _, t, x, h => by simp at h
  | y :: ys, p, hs, t, x, h => by
    rw [List.pairwise_cons] at hs
    have e : lb (y :: ys) p = lb ys p + (if y < p then 1 else 0) := by simp [lb, List.countP_cons]
    have h0 : ¬ y < p → lb ys p = 0 := by
      intro hy
      simp only [lb, List.countP_eq_zero]
      intro z hz
      have := hs.1 z hz
      simp
      omega
    cases t with
    | zero =>
      simp at h
      subst h
      rw [e]
      by_cases hy : y < p
      · simp [hy]
      · simp [hy, h0 hy]
    | succ t =>
      have ih := lb_below ys p hs.2 t x (by simpa using h)
      rw [ih, e]
      by_cases hy : y < p
      · simp [hy]
      · simp [hy, h0 hy]

set_option maxHeartbeats 400000 in
theorem test_any (g h1 h2 n c t : Nat) (x : Nat) (b : Bool) (k : ByteArray) (w : World) (hb : Op.bytesLess (keyB x).toList k.toList = !b) (ht : t < n) (hn : n < 1000)
    (c1 : w.cell? ⟨h1, 0, none⟩ = some (.slice (some ⟨g, 0, none⟩) n c)) (c2 : w.cell? ⟨h2, 0, none⟩ = some (.string k)) (c3 : w.cell? ⟨g, t * 2, none⟩ = some (.string (keyB x))) :
    Calls Yba.prog 30 #[.int .i64 (t : Int), .pointer (some ⟨h1, 0, none⟩), .pointer (some ⟨h2, 0, none⟩)] w fun e w' => e = .returned (.bool b) ∧ ∃ m, w' = w.drewN m := by
  have ht' : (t : Int) < (n : Int) := by omega
  cases b
  all_goals
    simp only [Bool.not_true, Bool.not_false] at hb
    go_enter Yba.func30, Yba.ntmps30
    go_wp2_with fail
    go_quiet (fail)
    go_wp2
    go_ret
    exact ⟨rfl, _, rfl⟩

/-- the search, over a row that is not empty -/
def Below2 (w w' : World) : Prop := ∃ m, w' = w.drewN m

set_option maxHeartbeats 400000 in
theorem search29 (h1 h2 : Nat) (xs : List Nat) (p : Nat) (f : Bool) (k : ByteArray) (w : World) (hk : KeyIs k p f) (hx : ∀ x ∈ xs, x < 1000) (hs : xs.Pairwise (· < ·)) (hn : xs.length < 1000)
    (hm : 0 < xs.length → ∃ g c, w.cell? ⟨h1, 0, none⟩ = some (.slice (some ⟨g, 0, none⟩) xs.length c) ∧ w.cell? ⟨h2, 0, none⟩ = some (.string k) ∧ ∀ t x, xs[t]? = some x → w.cell? ⟨g, t * 2, none⟩ = some (.string (keyB x))) :
    Calls Yba.prog 29 #[.int .i64 (xs.length : Int), .func (.func 30) #[] #[.pointer (some ⟨h1, 0, none⟩), .pointer (some ⟨h2, 0, none⟩)]] w fun e w' => e = .returned (.int .i64 (lb xs p : Int)) ∧ ∃ m, w' = w.drewN m := by
  have HM : Hid (0 < xs.length → ∃ g c, w.cell? ⟨h1, 0, none⟩ = some (.slice (some ⟨g, 0, none⟩) xs.length c) ∧ w.cell? ⟨h2, 0, none⟩ = some (.string k) ∧ ∀ t x, xs[t]? = some x → w.cell? ⟨g, t * 2, none⟩ = some (.string (keyB x))) := hm
  have HX : Hid (∀ x ∈ xs, x < 1000) := hx
  have HS : Hid (xs.Pairwise (· < ·)) := hs
  have hlb := lb_le xs p
  clear hm hx hs
  obtain ⟨N, hN⟩ : ∃ N, xs.length = N := ⟨_, rfl⟩
  rw [hN] at hn hlb ⊢
  have HN : Hid (xs.length = N) := hN
  clear hN
  go_enter Yba.func29, Yba.ntmps29
  go_wp2
  go_loopw [5, 6] (fun iv jv wr => ∃ i j m : Nat, i ≤ lb xs p ∧ lb xs p ≤ j ∧ j ≤ N ∧ iv = .int .i64 (i : Int) ∧ jv = .int .i64 (j : Int) ∧ wr = w.drewN m) (fun iv jv _ => (intOf jv).toNat - (intOf iv).toNat)
  case atStart => exact ⟨0, N, 0, by omega, hlb, by omega, rfl, rfl, rfl⟩
  case round =>
    obtain ⟨i, j, m, h1', h2', h3', rfl, rfl, rfl⟩ := hrel
    by_cases hlt : i < j
    · have hlt' : (i : Int) < (j : Int) := by omega
      have e1 : IntKind.i64.wrap ((i : Int) + (j : Int)) = (i : Int) + (j : Int) := by rw [IntKind.wrap_i64]; omega
      obtain ⟨t, ht⟩ : ∃ t, t = (i + j) / 2 := ⟨_, rfl⟩
      have htn : t < N := by omega
      have e2 : ((i : Int) + (j : Int)) / 2 = (t : Int) := by omega
      have hit : i ≤ t := by omega
      have htj : t < j := by omega
      clear ht
      obtain ⟨x, hx⟩ : ∃ x, xs[t]? = some x := ⟨xs[t]'(by have := HN.out; omega), List.getElem?_eq_getElem _⟩
      have hx1 := HX.out x (List.mem_of_getElem? hx)
      have hb := lb_below xs p HS.out t x hx
      obtain ⟨g, c, c1, c2, c3'⟩ := HM.out (by have := HN.out; omega)
      have c3 := c3' t x hx
      rw [HN.out] at c1
      clear c3'
      by_cases hxp : x < p
      · have hkk : Op.bytesLess (keyB x).toList k.toList = !false := by rw [keyB_toList, hk.less x hx1]; simp [hxp]
        have htl : t < lb xs p := hb.1 hxp
        go_wp2_with (go_at_call 30; go_loud (refine (test_any g h1 h2 N c t x false k _ hkk htn hn ?_ ?_ ?_).mono ?_; exact c1; exact c2; exact c3; rintro e w' ⟨rfl, m', rfl⟩))
        go_roundw
        case rel => exact ⟨t + 1, j, _, by omega, h2', h3', by go_num, rfl, rfl⟩
        case measure => simp [intOf]; omega
      · have hkk : Op.bytesLess (keyB x).toList k.toList = !true := by rw [keyB_toList, hk.less x hx1]; simp [hxp]
        have htl : ¬ t < lb xs p := fun h => hxp (hb.2 h)
        go_wp2_with (go_at_call 30; go_loud (refine (test_any g h1 h2 N c t x true k _ hkk htn hn ?_ ?_ ?_).mono ?_; exact c1; exact c2; exact c3; rintro e w' ⟨rfl, m', rfl⟩))
        go_roundw
        case rel => exact ⟨i, t, _, h1', by omega, by omega, rfl, by go_num, rfl⟩
        case measure => simp [intOf]; omega
    · have hlt' : ¬ (i : Int) < (j : Int) := by omega
      have he : i = lb xs p := by omega
      go_wp2
      go_ret
      exact ⟨rfl, _, rfl⟩

/-- a row of items that a slice holds -/
def Items (w : World) (v : Value) (xs : List Nat) : Prop := w.ownsRow 0 57 2 v xs.length (itemCells xs)

theorem Items.cell {w : World} {v : Value} {xs : List Nat} (h : Items w v xs) (h0 : 0 < xs.length) : ∃ g c, v = .slice (some ⟨g, 0, none⟩) xs.length c ∧ g < w.heap.size ∧ (∀ t x, xs[t]? = some x → w.cell? ⟨g, t * 2, none⟩ = some (.string (keyB x)) ∧ w.cell? ⟨g, t * 2 + 1, none⟩ = some (.int .i64 (x : Int))) := by
  rcases h.2 with ⟨_, hz⟩ | ⟨g, cap, cur, hv, hb, hg, h1, h2, h3, h4⟩
  · omega
  · refine ⟨g, cap, hv, (Array.getElem?_eq_some_iff.1 hg).1, fun t x ht => ?_⟩
    have := itemCells_get xs t x ht
    have c := World.ownsRow.cells h (g := g) (by rw [hv]; rfl)
    have c1 := c _ _ this.1
    have c2 := c _ _ this.2
    rw [Addr.add_lit, Nat.zero_add] at c1 c2
    exact ⟨c1, c2⟩

set_option maxHeartbeats 400000 in
theorem search25 (v : Value) (xs : List Nat) (p : Nat) (f : Bool) (k : ByteArray) (w : World) (hk : KeyIs k p f) (hx : ∀ x ∈ xs, x < 1000) (hs : xs.Pairwise (· < ·)) (hn : xs.length < 1000) (hI : Items w v xs) :
    Calls Yba.prog 25 #[v, .string k] w fun e w' => e = .returned (.int .i64 (lb xs p : Int)) ∧ Below w.heap.size w w' := by
  obtain ⟨a, c, rfl⟩ : ∃ a c, v = .slice a xs.length c := by
    rcases hI.2 with ⟨hv, hz⟩ | ⟨g, cap, cur, hv, _⟩
    · exact ⟨none, 0, by rw [hv, hz]⟩
    · exact ⟨_, _, hv⟩
  have HI : Hid (Items w (.slice a xs.length c) xs) := hI
  have HX : Hid (∀ x ∈ xs, x < 1000) := hx
  have HS : Hid (xs.Pairwise (· < ·)) := hs
  clear hI hx hs
  go_enter Yba.func25, Yba.ntmps25
  go_wp2_with fail
  refine (search29 w.heap.size (w.heap.size + 1) xs p f k _ hk HX.out HS.out hn ?_).mono ?_
  · intro h0
    obtain ⟨g, c', hv, hg, hc⟩ := HI.out.cell h0
    cases hv
    refine ⟨g, c, ?_, ?_, ?_⟩
    · rw [cell_past _ _ _ _ (by simp)]; exact cell_new w _ _ _
    · exact (cell_of_row _ (w.heap.size + 1) 0 #[.string k] 9 (0, 0) (by have := heap_alloc_new (w.alloc (.cells #[.slice (some ⟨g, 0, none⟩) xs.length c] 49)) (.cells #[.string k] 9); simpa using this))
    · intro t x ht
      rw [cell_past _ _ _ _ (by simp; omega), cell_past _ _ _ _ (by omega)]
      exact (hc t x ht).1
  · rintro e w' ⟨rfl, m, rfl⟩
    go_wp2
    go_ret
    refine ⟨rfl, ?_⟩
    have := (((Below.refl w.heap.size w).alloc (Nat.le_refl _) (.cells #[.slice a xs.length c] 49)).alloc (by simp) (.cells #[.string k] 9))
    exact this.trans ⟨rfl, rfl, rfl, Nat.le_refl _, fun _ _ => rfl⟩
end Go.Proofs.Ybulkira
