import Derived.Test.YbulkiqmPtr
import Derived.Deep.QuietTactic
import Derived.BigQuiet
namespace Go.Proofs.Ybulkiqm
open Go.RowKit

set_option maxHeartbeats 400000 in
theorem is_same (a n : Nat) (w : World) (hn : 0 < n) :
    Calls Yba.prog 14 #[.slice (some ⟨a, 0, none⟩) n n, .slice (some ⟨a, 0, none⟩) n n] w fun e w' => e = .returned (.bool true) ∧ ∃ nq, w' = w.drewN nq := by
  have hn' : (0 : Int) < n := by omega
  have he : ∀ w', (binOp .eql 83 (.pointer (some ⟨a, 0, none⟩)) (.pointer (some ⟨a, 0, none⟩))).run Yba.prog w' = .ok (.bool true) w' := fun w' => eql_ptr_same w' 83 54 _ Yba.underlying83 (info_ex Yba.size54)
  go_enter Yba.func14, Yba.ntmps14
  go_wp2
  go_quiet (fail)
  go_wp2
  go_ret
  exact ⟨rfl, _, rfl⟩

set_option maxHeartbeats 400000 in
theorem is_other (a b n : Nat) (w : World) (hn : 0 < n) (hne : a ≠ b) (ha : PlainAt w a) (hb : PlainAt w b) :
    Calls Yba.prog 14 #[.slice (some ⟨a, 0, none⟩) n n, .slice (some ⟨b, 0, none⟩) n n] w fun e w' => e = .returned (.bool false) ∧ ∃ nq, w' = w.drewN nq := by
  have hn' : (0 : Int) < n := by omega
  have he : ∀ nq, (binOp .eql 83 (.pointer (some ⟨a, 0, none⟩)) (.pointer (some ⟨b, 0, none⟩))).run Yba.prog (w.drewN nq) = .ok (.bool false) (w.drewN nq) :=
    fun nq => eql_ptr_other (w.drewN nq) 83 54 _ _ Yba.underlying83 (info_ne Yba.size54) (fun h => hne (congrArg Addr.block h)) ha hb
  clear ha hb hne
  go_enter Yba.func14, Yba.ntmps14
  go_wp2
  go_quiet (fail)
  go_wp2
  go_ret
  exact ⟨rfl, _, rfl⟩

set_option maxHeartbeats 400000 in
theorem legs_any (c : Nat) (w : World) :
    Calls Yba.prog 13 #[.pointer (some ⟨c, 0, none⟩)] w fun e w' => e = .returned (.agg #[.pointer (some ⟨c, 11, none⟩), .pointer (some ⟨c, 19, none⟩), .pointer (some ⟨c, 27, none⟩)]) ∧ Below w.heap.size w w' := by
  go_enter Yba.func13, Yba.ntmps13
  go_wp2
  go_region
  go_wp2
  refine bodyPost_ret (v := .agg #[.pointer (some ⟨c, 11, none⟩), .pointer (some ⟨c, 19, none⟩), .pointer (some ⟨c, 27, none⟩)]) (by simp [results, Yba.results13, go_sem]) rfl ⟨rfl, ?_⟩
  exact ((Below.refl _ _).alloc (Nat.le_refl _) _).drew

theorem bcell {W w1 : World} (hb : Below W.heap.size W w1) : (∀ b o, b < W.heap.size → w1.cell? ⟨b, o, none⟩ = W.cell? ⟨b, o, none⟩) :=
  fun b o h => hb.cell (p := ⟨b, o, none⟩) h

set_option maxHeartbeats 1000000 in
theorem legAt_hit (v a n u o : Nat) (k : Int) (w : World) (hn : 0 < n) (ho : o = 11 ∨ o = 19 ∨ o = 27) (hv : v < w.heap.size) (hu : u < w.heap.size)
    (hother : ∀ o', (o' = 11 ∨ o' = 19 ∨ o' = 27) → o' ≠ o → w.cell? ⟨v, o', none⟩ = some (.pointer none))
    (h1 : w.cell? ⟨v, o, none⟩ = some (.pointer (some ⟨u, 0, none⟩))) (h2 : w.cell? ⟨v, o + 1, none⟩ = some (.int .i64 k)) (h3 : w.cell? ⟨u, 1, none⟩ = some (.slice (some ⟨a, 0, none⟩) n n)) :
    Calls Yba.prog 11 #[.pointer (some ⟨v, 0, none⟩), .slice (some ⟨a, 0, none⟩) n n, .int .i64 k] w fun e w' => e = .returned (.pointer (some ⟨v, o, none⟩)) ∧ Below w.heap.size w w' := by
  have hkk : (k == k) = true := by simp
  have i0 : ∀ (x0 x1 x2 : Value) (w : World), (Instr.index 78 (.agg #[x0, x1, x2]) (.int .i64 0)).run Yba.prog w = .ok x0 w := fun _ _ _ _ => by kernel_rfl
  have i1 : ∀ (x0 x1 x2 : Value) (w : World), (Instr.index 78 (.agg #[x0, x1, x2]) (.int .i64 1)).run Yba.prog w = .ok x1 w := fun _ _ _ _ => by kernel_rfl
  have i2 : ∀ (x0 x1 x2 : Value) (w : World), (Instr.index 78 (.agg #[x0, x1, x2]) (.int .i64 2)).run Yba.prog w = .ok x2 w := fun _ _ _ _ => by kernel_rfl
  have g : ∀ o', (o' = 11 ∨ o' = 19 ∨ o' = 27) → ∀ w1, Below w.heap.size w w1 → o' ≠ o → w1.cell? ⟨v, o', none⟩ = some (.pointer none) :=
    fun o' ho' w1 hb hne => (bcell hb v o' hv).trans (hother o' ho' hne)
  clear hother
  rcases ho with rfl | rfl | rfl
  all_goals
    go_enter Yba.func11, Yba.ntmps11
    go_wp2_with fail
    refine (legs_any _ _).mono ?_
    rintro e w1 ⟨rfl, hb⟩
    have c1 := (bcell hb _ _ hv).trans h1
    have c2 := (bcell hb _ _ hv).trans h2
    have c3 := (bcell hb _ _ hu).trans h3
    have c4 := g 11 (by simp) w1 hb
    have c5 := g 19 (by simp) w1 hb
    have c6 := g 27 (by simp) w1 hb
    simp only [ne_eq, not_true_eq_false, false_implies, Nat.reduceEqDiff, not_false_eq_true, true_implies] at c4 c5 c6
    clear h1 h2 h3 g
    go_wp2_with fail
    refine wp_loop_rounds 4 ?_
    repeat (rw [rounds_succ]; go_wp2_with (go_at_call 14; refine (is_same _ _ _ hn).mono ?_; rintro e w2 ⟨rfl, nq, rfl⟩))
    go_ret
    exact ⟨rfl, by first | exact hb | exact hb.trans ⟨rfl, rfl, rfl, Nat.le_refl _, fun _ _ => rfl⟩⟩

set_option maxHeartbeats 1000000 in
theorem legAt_channel (v a n u o : Nat) (k k' : Int) (hkk : (k' == k) = false) (w : World) (hn : 0 < n) (ho : o = 11 ∨ o = 19 ∨ o = 27) (hv : v < w.heap.size) (hu : u < w.heap.size)
    (hother : ∀ o', (o' = 11 ∨ o' = 19 ∨ o' = 27) → o' ≠ o → w.cell? ⟨v, o', none⟩ = some (.pointer none))
    (h1 : w.cell? ⟨v, o, none⟩ = some (.pointer (some ⟨u, 0, none⟩))) (h2 : w.cell? ⟨v, o + 1, none⟩ = some (.int .i64 k')) (h3 : w.cell? ⟨u, 1, none⟩ = some (.slice (some ⟨a, 0, none⟩) n n)) :
    Calls Yba.prog 11 #[.pointer (some ⟨v, 0, none⟩), .slice (some ⟨a, 0, none⟩) n n, .int .i64 k] w fun e w' => e = .returned (.pointer none) ∧ Below w.heap.size w w' := by
  have i0 : ∀ (x0 x1 x2 : Value) (w : World), (Instr.index 78 (.agg #[x0, x1, x2]) (.int .i64 0)).run Yba.prog w = .ok x0 w := fun _ _ _ _ => by kernel_rfl
  have i1 : ∀ (x0 x1 x2 : Value) (w : World), (Instr.index 78 (.agg #[x0, x1, x2]) (.int .i64 1)).run Yba.prog w = .ok x1 w := fun _ _ _ _ => by kernel_rfl
  have i2 : ∀ (x0 x1 x2 : Value) (w : World), (Instr.index 78 (.agg #[x0, x1, x2]) (.int .i64 2)).run Yba.prog w = .ok x2 w := fun _ _ _ _ => by kernel_rfl
  have g : ∀ o', (o' = 11 ∨ o' = 19 ∨ o' = 27) → ∀ w1, Below w.heap.size w w1 → o' ≠ o → w1.cell? ⟨v, o', none⟩ = some (.pointer none) :=
    fun o' ho' w1 hb hne => (bcell hb v o' hv).trans (hother o' ho' hne)
  clear hother
  rcases ho with rfl | rfl | rfl
  all_goals
    go_enter Yba.func11, Yba.ntmps11
    go_wp2_with fail
    refine (legs_any _ _).mono ?_
    rintro e w1 ⟨rfl, hb⟩
    have c1 := (bcell hb _ _ hv).trans h1
    have c2 := (bcell hb _ _ hv).trans h2
    have c3 := (bcell hb _ _ hu).trans h3
    have c4 := g 11 (by simp) w1 hb
    have c5 := g 19 (by simp) w1 hb
    have c6 := g 27 (by simp) w1 hb
    simp only [ne_eq, not_true_eq_false, false_implies, Nat.reduceEqDiff, not_false_eq_true, true_implies] at c4 c5 c6
    clear h1 h2 h3 g
    go_wp2_with fail
    refine wp_loop_rounds 4 ?_
    repeat (rw [rounds_succ]; go_wp2_with (go_at_call 14; refine (is_same _ _ _ hn).mono ?_; rintro e w2 ⟨rfl, nq, rfl⟩))
    go_ret
    exact ⟨rfl, by first | exact hb | exact hb.trans ⟨rfl, rfl, rfl, Nat.le_refl _, fun _ _ => rfl⟩⟩

set_option maxHeartbeats 1000000 in
theorem legAt_access (v a n u o : Nat) (a' : Nat) (k k' : Int) (w : World) (hn : 0 < n) (ho : o = 11 ∨ o = 19 ∨ o = 27) (hv : v < w.heap.size) (hu : u < w.heap.size)
    (hother : ∀ o', (o' = 11 ∨ o' = 19 ∨ o' = 27) → o' ≠ o → w.cell? ⟨v, o', none⟩ = some (.pointer none))
    (h1 : w.cell? ⟨v, o, none⟩ = some (.pointer (some ⟨u, 0, none⟩))) (h2 : w.cell? ⟨v, o + 1, none⟩ = some (.int .i64 k')) (h3 : w.cell? ⟨u, 1, none⟩ = some (.slice (some ⟨a', 0, none⟩) n n))
    (ha : PlainAt w a) (ha' : PlainAt w a') (hal : a < w.heap.size) (hal' : a' < w.heap.size) (hne : a' ≠ a) :
    Calls Yba.prog 11 #[.pointer (some ⟨v, 0, none⟩), .slice (some ⟨a, 0, none⟩) n n, .int .i64 k] w fun e w' => e = .returned (.pointer none) ∧ Below w.heap.size w w' := by
  have hpl : ∀ w1, Below w.heap.size w w1 → PlainAt w1 a' ∧ PlainAt w1 a := by
    intro w1 hb
    unfold PlainAt at *
    rw [hb.block a' hal', hb.block a hal]
    exact ⟨ha', ha⟩
  clear ha ha'
  have i0 : ∀ (x0 x1 x2 : Value) (w : World), (Instr.index 78 (.agg #[x0, x1, x2]) (.int .i64 0)).run Yba.prog w = .ok x0 w := fun _ _ _ _ => by kernel_rfl
  have i1 : ∀ (x0 x1 x2 : Value) (w : World), (Instr.index 78 (.agg #[x0, x1, x2]) (.int .i64 1)).run Yba.prog w = .ok x1 w := fun _ _ _ _ => by kernel_rfl
  have i2 : ∀ (x0 x1 x2 : Value) (w : World), (Instr.index 78 (.agg #[x0, x1, x2]) (.int .i64 2)).run Yba.prog w = .ok x2 w := fun _ _ _ _ => by kernel_rfl
  have g : ∀ o', (o' = 11 ∨ o' = 19 ∨ o' = 27) → ∀ w1, Below w.heap.size w w1 → o' ≠ o → w1.cell? ⟨v, o', none⟩ = some (.pointer none) :=
    fun o' ho' w1 hb hne => (bcell hb v o' hv).trans (hother o' ho' hne)
  clear hother
  rcases ho with rfl | rfl | rfl
  all_goals
    go_enter Yba.func11, Yba.ntmps11
    go_wp2_with fail
    refine (legs_any _ _).mono ?_
    rintro e w1 ⟨rfl, hb⟩
    have c1 := (bcell hb _ _ hv).trans h1
    have c2 := (bcell hb _ _ hv).trans h2
    have c3 := (bcell hb _ _ hu).trans h3
    have c4 := g 11 (by simp) w1 hb
    have c5 := g 19 (by simp) w1 hb
    have c6 := g 27 (by simp) w1 hb
    simp only [ne_eq, not_true_eq_false, false_implies, Nat.reduceEqDiff, not_false_eq_true, true_implies] at c4 c5 c6
    clear h1 h2 h3 g
    go_wp2_with fail
    refine wp_loop_rounds 4 ?_
    repeat (rw [rounds_succ]; go_wp2_with (go_at_call 14; refine (is_other _ _ _ _ hn hne (hpl _ hb).1 (hpl _ hb).2).mono ?_; rintro e w2 ⟨rfl, nq, rfl⟩))
    go_ret
    exact ⟨rfl, by first | exact hb | exact hb.trans ⟨rfl, rfl, rfl, Nat.le_refl _, fun _ _ => rfl⟩⟩

end Go.Proofs.Ybulkiqm
