import Derived.Test.YbulkiraRWalkR
namespace Go.Proofs.Ybulkira
open Go.RowKit
set_option linter.unusedVariables false
attribute [local go_sem ↓] Go.wp_at_zero Go.wp_at_succ

theorem Out.items {w : World} {D : Nat} {v : Value} {ys : List Nat} (h : Out w D v ys) : Items w v ys := by
  refine ⟨h.1, ?_⟩
  rcases h.2 with h0 | ⟨g, cap, cur, rfl, hb, rest⟩
  · exact .inl h0
  · exact .inr ⟨g, cap, cur, rfl, Nat.zero_le _, rest⟩

set_option maxHeartbeats 1000000 in
theorem same_eq (w : World) (v1 v2 : Value) (xs : List Nat) (h1 : Items w v1 xs) (h2 : Items w v2 xs) (hn : xs.length < 1000) :
    Calls Yba.prog 14 #[v1, v2] w fun e w' => e = .returned (.bool true) ∧ ∃ m, w' = w.drewN m := by
  obtain ⟨a1, c1, hv1⟩ := own_form h1
  obtain ⟨a2, c2, hv2⟩ := own_form h2
  have H1 : Hid (Items w v1 xs) := h1
  have H2 : Hid (Items w v2 xs) := h2
  obtain ⟨N, hN⟩ : ∃ N, xs.length = N := ⟨_, rfl⟩
  rw [hN] at hv1 hv2 hn
  have HN : Hid (xs.length = N) := hN
  have HV1 : Hid (v1 = .slice a1 N c1) := hv1
  have HV2 : Hid (v2 = .slice a2 N c2) := hv2
  rw [hv1, hv2]
  clear h1 h2 hN hv1 hv2
  go_enter Yba.func14, Yba.ntmps14
  go_wp2
  go_loopw [5] (fun jv wr => ∃ j m : Nat, j ≤ N ∧ jv = .int .i64 (j : Int) ∧ wr = w.drewN m) (fun jv _ => N - (intOf jv).toNat)
  case atStart => exact ⟨0, 0, by omega, rfl, rfl⟩
  case round =>
    obtain ⟨j, m, hj, rfl, rfl⟩ := hrel
    by_cases hlt : j < N
    · have hlt' : (j : Int) < (N : Int) := by omega
      obtain ⟨x, hx⟩ : ∃ x, xs[j]? = some x := ⟨_, List.getElem?_eq_getElem (by rw [HN.out]; exact hlt)⟩
      obtain ⟨g1, k1, hw1, _, hc1⟩ := H1.out.cell (by rw [HN.out]; omega)
      obtain ⟨g2, k2, hw2, _, hc2⟩ := H2.out.cell (by rw [HN.out]; omega)
      have hg1 : Value.slice a1 N c1 = .slice (some ⟨g1, 0, none⟩) xs.length k1 := HV1.out.symm.trans hw1
      have hg2 : Value.slice a2 N c2 = .slice (some ⟨g2, 0, none⟩) xs.length k2 := HV2.out.symm.trans hw2
      have x0 := (hc1 j x hx).1
      have x1 := (hc1 j x hx).2
      have y0 := (hc2 j x hx).1
      have y1 := (hc2 j x hx).2
      rw [HN.out] at hg1 hg2
      cases hg1
      cases hg2
      clear hc1 hc2 hw1 hw2 hx
      go_wp2_with fail
      go_quiet (fail)
      go_wp2
      go_roundw
      case rel => exact ⟨j + 1, m + nq, hlt, by go_num, by simp [World.drewN]⟩
      case measure => simp [intOf]; omega
    · have hlt' : ¬ (j : Int) < (N : Int) := by omega
      go_wp2
      go_ret
      exact ⟨rfl, m, rfl⟩
end Go.Proofs.Ybulkira
