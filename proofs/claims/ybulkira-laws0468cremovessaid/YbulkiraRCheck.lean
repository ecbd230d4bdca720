import Derived.Test.YbulkiraRBuild
namespace Go.Proofs.Ybulkira
open Go.RowKit
set_option linter.unusedVariables false
attribute [local go_sem ↓] Go.wp_at_zero Go.wp_at_succ

set_option maxHeartbeats 1000000 in
theorem check_leaf (w : World) (l : Nd) (t : Bool) (h : LeafAt w l) (h1 : l.xs.length ≤ 63) (h2 : t = true ∨ 31 ≤ l.xs.length) :
    Calls Yba.prog 10 #[.pointer (some ⟨l.b, 0, none⟩), .bool t] w fun e w' => e = .returned (.int .i64 0) ∧ w = w' := by
  have k1 := Yba.nileq53
  obtain ⟨c0, c1, _, _, _, hlt⟩ := heap_node h.node
  obtain ⟨aa, cc, hv⟩ := own_form h.row
  rw [hv] at c0
  obtain ⟨N, hN⟩ : ∃ N, l.xs.length = N := ⟨_, rfl⟩
  rw [hN] at c0 h1 h2
  have g1 : ¬ (63 : Int) < (N : Int) := by omega
  clear h hv hN
  cases t
  · have g2 : ¬ (N : Int) < 31 := by
      rcases h2 with h | h
      · cases h
      · omega
    clear h2
    go_enter Yba.func10, Yba.ntmps10
    go_wp2
    go_ret
    exact ⟨rfl, rfl⟩
  · clear h2
    go_enter Yba.func10, Yba.ntmps10
    go_wp2
    go_ret
    exact ⟨rfl, rfl⟩

set_option maxHeartbeats 1000000 in
theorem check_root (w : World) (B G : Nat) (r : Rt) (h : RootAt w B G r) (hg : Good r.ss (r.ks.map Nd.xs)) (hn : r.ss.length ≤ 63) :
    Calls Yba.prog 10 #[.pointer (some ⟨r.b, 0, none⟩), .bool true] w fun e w' => e = .returned (.int .i64 1) ∧ ∃ m, w' = w.drewN m := by
  obtain ⟨c0, c1, _, _, _, hlt⟩ := heap_node h.node
  obtain ⟨aa, cc, hv⟩ := own_form h.row
  have hkl : r.ks.length = r.ss.length + 1 := by simpa using hg.len
  obtain ⟨gu, cu, hu, hgu, hcell, _⟩ := h.kids.cell (by simp; omega)
  rw [hv] at c0
  rw [hu, List.length_map, hkl] at c1
  have HH : Hid (RootAt w B G r) := h
  have HG : Hid (Good r.ss (r.ks.map Nd.xs)) := hg
  have HC : Hid (∀ i b, (r.ks.map Nd.b)[i]? = some b → w.cell? ⟨gu, i, none⟩ = some (.pointer (some ⟨b, 0, none⟩))) := hcell
  obtain ⟨N, hN⟩ : ∃ N, r.ss.length = N := ⟨_, rfl⟩
  rw [hN] at c0 c1 hkl hn
  have HK : Hid (r.ks.length = N + 1) := hkl
  have kq : ∀ w : World, (binOp .eql 53 (.slice (some ⟨gu, 0, none⟩) (N + 1) cu) (.slice none 0 0)).run Yba.prog w = .ok (.bool false) w := fun w => by kernel_rfl
  have kp : ∀ (b : Nat) (w : World), (binOp .eql 45 (.pointer (some ⟨b, 0, none⟩)) (.pointer none)).run Yba.prog w = .ok (.bool false) w := fun b w => by kernel_rfl
  have g1 : ¬ (63 : Int) < (N : Int) := by omega
  clear h hg hcell hv hu hkl hN
  go_enter Yba.func10, Yba.ntmps10
  go_wp2
  go_quiet (fail)
  go_wp2
  go_loopw [5, 6] (fun dv jv wr => ∃ j m : Nat, j ≤ N + 1 ∧ dv = .int .i64 (if j = 0 then -2 else 0) ∧ jv = .int .i64 (j : Int) ∧ wr = w.drewN m) (fun dv jv _ => N + 1 - (intOf jv).toNat)
  case atStart => exact ⟨0, _, by omega, rfl, rfl, rfl⟩
  case round =>
    obtain ⟨j, m, hj, rfl, rfl, rfl⟩ := hrel
    by_cases hlt : j < N + 1
    · have hlt' : (j : Int) < (N : Int) + 1 := by omega
      obtain ⟨l, hl⟩ : ∃ l, r.ks[j]? = some l := ⟨_, List.getElem?_eq_getElem (by have := HK.out; omega)⟩
      have cj := HC.out j l.b (by rw [List.getElem?_map, hl]; rfl)
      have HL : Hid (LeafAt w l) := HH.out.leaf l (List.mem_of_getElem? hl)
      have hlo := HG.out.low l.xs (List.mem_of_getElem? (kx_get hl))
      have hhi := HG.out.high l.xs (List.mem_of_getElem? (kx_get hl))
      clear hl
      by_cases h0 : j = 0
      · subst h0
        simp only [if_true]
        go_wp2_with (go_at_call 10; go_loud (refine (check_leaf _ l false (by exact ⟨HL.out.node, HL.out.row⟩) hhi (.inr hlo)).mono ?_; rintro e w' ⟨rfl, rfl⟩))
        go_roundw
        case rel => exact ⟨1, m, by omega, rfl, by go_num, rfl⟩
        case measure => simp [intOf]
      · rw [if_neg h0]
        go_wp2_with (go_at_call 10; go_loud (refine (check_leaf _ l false (by exact ⟨HL.out.node, HL.out.row⟩) hhi (.inr hlo)).mono ?_; rintro e w' ⟨rfl, rfl⟩))
        go_roundw
        case rel => exact ⟨j + 1, m, by omega, by simp, by go_num, rfl⟩
        case measure => simp [intOf]; omega
    · have hlt' : ¬ (j : Int) < (N : Int) + 1 := by omega
      rw [if_neg (by omega : ¬ j = 0)]
      go_wp2
      go_ret
      exact ⟨rfl, m, rfl⟩
end Go.Proofs.Ybulkira
