import Derived.Test.YbulkiraRFillR
namespace Go.Proofs.Ybulkira
open Go.RowKit
set_option linter.unusedVariables false
set_option linter.unusedSimpArgs false
attribute [local go_sem ↓] Go.wp_at_zero Go.wp_at_succ

/-- what a merge of the children k and k + 1 leaves -/
def Merged (w w' : World) (B G : Nat) (r : Rt) (k : Nat) (xs : List Nat) : Prop :=
  Below B w w' ∧ ∃ r' l2, RootAt w' B G r' ∧ r'.b = r.b ∧ r'.ss = r.ss.take k ++ r.ss.drop (k + 1) ∧ r'.ks = r.ks.take k ++ l2 :: r.ks.drop (k + 2) ∧ l2.gen = G ∧ l2.xs = xs

set_option maxRecDepth 100000 in
set_option maxHeartbeats 4000000 in
theorem fill_mergeA (w : World) (B G : Nat) (r : Rt) (i k : Nat) (l m : Nd) (s : Nat) (hik : i = k + 1) (h : RootAt w B G r) (hi : r.ks[i]? = some l) (hk : r.ks[k]? = some m) (hs : r.ss[k]? = some s) (hkm : r.ks.length < 900) (hsm : r.ss.length < 900)
    (hl : l.xs.length ≤ 31) (hm : m.xs.length ≤ 31) (hN : r.ss.length = i) :
    Calls Yba.prog 18 #[.pointer (some ⟨r.b, 0, none⟩), .int .i64 (i : Int), .int .u64 (G : Int)] w fun e w' => e = .returned (.int .i64 (k : Int)) ∧ Merged w w' B G r k (m.xs ++ s :: l.xs) := by
  have hil : i < r.ks.length := (List.getElem?_eq_some_iff.1 hi).1
  obtain ⟨gu, cu, hu⟩ := h.kidForm (by omega)
  obtain ⟨gs, cs, hv⟩ := h.itemForm (by omega)
  obtain ⟨c1, e1⟩ := h.kidCell hu hi
  have e2 := (h.kidCell hu hk).2
  have c0 := (h.itemCell hv hs).1
  have hLl := h.leaf l (List.mem_of_getElem? hi)
  have hLm := h.leaf m (List.mem_of_getElem? hk)
  have l0 := (heap_node hLl.node).1
  have m0 := (heap_node hLm.node).1
  obtain ⟨la, lc, hlv⟩ := own_form hLl.row
  obtain ⟨ma, mc, hmv⟩ := own_form hLm.row
  rw [hlv] at l0
  rw [hmv] at m0
  have HC : Hid (Calls Yba.prog 22 #[.pointer (some ⟨r.b, 0, none⟩), .int .i64 (k : Int), .int .u64 (G : Int)] w fun e w' => (∃ v, e = .returned v) ∧ Merged w w' B G r k (m.xs ++ s :: l.xs)) :=
    merge_any w B G r k m l s h hk (by rw [← hik]; exact hi) hs hkm hsm (by omega) (by omega)
  obtain ⟨L, hL⟩ : ∃ L, l.xs.length = L := ⟨_, rfl⟩
  obtain ⟨T, hT⟩ : ∃ T, m.xs.length = T := ⟨_, rfl⟩
  obtain ⟨M, hM⟩ : ∃ M, r.ks.length = M := ⟨_, rfl⟩
  rw [hL] at l0 hl
  rw [hT] at m0 hm
  rw [hM] at hu hil hkm c1
  rw [hN] at c0 hsm
  have hil' : (i : Int) < (M : Int) := by omega
  have hkl' : (k : Int) < (M : Int) := by omega
  have hi0 : (0 : Int) < (i : Int) := by omega
  have hi00 : 0 < i := by omega
  have hl31 : ¬ (31 : Int) < (L : Int) := by omega
  have hm31 : ¬ (31 : Int) < (T : Int) := by omega
  have hik1 : (i : Int) - 1 = (k : Int) := by omega
  have hwk : IntKind.i64.wrap (k : Int) = (k : Int) := by rw [IntKind.wrap_i64]; omega
  clear h hi hk hs hu hv hM hN hL hT hik hLl hLm hlv hmv
  go_enter Yba.func18, Yba.ntmps18
  go_wp2_with fail
  refine HC.out.mono ?_
  rintro e w1 ⟨⟨v, rfl⟩, hM1⟩
  have HM1 : Hid (Merged w w1 B G r k (m.xs ++ s :: l.xs)) := hM1
  clear hM1 c0 c1 e1 e2 l0 m0
  go_wp2
  go_ret
  exact ⟨rfl, HM1.out⟩

set_option maxRecDepth 100000 in
set_option maxHeartbeats 4000000 in
theorem fill_mergeB (w : World) (B G : Nat) (r : Rt) (i j : Nat) (l m : Nd) (s : Nat) (hij : j = i + 1) (h : RootAt w B G r) (hi : r.ks[i]? = some l) (hk : r.ks[j]? = some m) (hs : r.ss[i]? = some s) (hkm : r.ks.length < 900) (hsm : r.ss.length < 900)
    (hl : l.xs.length ≤ 31) (hm : m.xs.length ≤ 31) (hP : LeftPoor r i) :
    Calls Yba.prog 18 #[.pointer (some ⟨r.b, 0, none⟩), .int .i64 (i : Int), .int .u64 (G : Int)] w fun e w' => e = .returned (.int .i64 (i : Int)) ∧ Merged w w' B G r i (l.xs ++ s :: m.xs) := by
  have hjl : j < r.ks.length := (List.getElem?_eq_some_iff.1 hk).1
  have hsl : i < r.ss.length := (List.getElem?_eq_some_iff.1 hs).1
  obtain ⟨gu, cu, hu⟩ := h.kidForm (by omega)
  obtain ⟨gs, cs, hv⟩ := h.itemForm (by omega)
  obtain ⟨c1, e1⟩ := h.kidCell hu hi
  have e2 := (h.kidCell hu hk).2
  have c0 := (h.itemCell hv hs).1
  have hLl := h.leaf l (List.mem_of_getElem? hi)
  have hLm := h.leaf m (List.mem_of_getElem? hk)
  have l0 := (heap_node hLl.node).1
  have m0 := (heap_node hLm.node).1
  obtain ⟨la, lc, hlv⟩ := own_form hLl.row
  obtain ⟨ma, mc, hmv⟩ := own_form hLm.row
  rw [hlv] at l0
  rw [hmv] at m0
  have HC : Hid (Calls Yba.prog 22 #[.pointer (some ⟨r.b, 0, none⟩), .int .i64 (i : Int), .int .u64 (G : Int)] w fun e w' => (∃ v, e = .returned v) ∧ Merged w w' B G r i (l.xs ++ s :: m.xs)) :=
    merge_any w B G r i l m s h hi (by rw [← hij]; exact hk) hs hkm hsm (by omega) (by omega)
  obtain ⟨L, hL⟩ : ∃ L, l.xs.length = L := ⟨_, rfl⟩
  obtain ⟨T, hT⟩ : ∃ T, m.xs.length = T := ⟨_, rfl⟩
  obtain ⟨M, hM⟩ : ∃ M, r.ks.length = M := ⟨_, rfl⟩
  obtain ⟨N, hN⟩ : ∃ N, r.ss.length = N := ⟨_, rfl⟩
  rw [hL] at l0 hl
  rw [hT] at m0 hm
  rw [hM] at hu hjl hkm c1
  rw [hN] at c0 hsm hsl
  have HU : Hid (r.u = .slice (some ⟨gu, 0, none⟩) M cu) := hu
  have HH : Hid (RootAt w B G r) := h
  have HP : Hid (LeftPoor r i) := hP
  have hjl' : (j : Int) < (M : Int) := by omega
  have hil' : (i : Int) < (M : Int) := by omega
  have hsl' : (i : Int) < (N : Int) := by omega
  have hne : ¬ (i : Int) = (N : Int) := by omega
  have hne' : ¬ i = N := by omega
  have hl31 : ¬ (31 : Int) < (L : Int) := by omega
  have hm31 : ¬ (31 : Int) < (T : Int) := by omega
  have hij1 : (i : Int) + 1 = (j : Int) := by omega
  have hwj : IntKind.i64.wrap (j : Int) = (j : Int) := by rw [IntKind.wrap_i64]; omega
  clear h hi hk hs hu hv hM hN hL hT hij hLl hLm hlv hmv hP
  rcases HP.out with h00 | ⟨k, q, hik, hq, hq31⟩
  · have h01 : ¬ (0 : Int) < (i : Int) := by omega
    have h02 : ¬ 0 < i := by omega
    clear h00
    go_enter Yba.func18, Yba.ntmps18
    go_wp2_with fail
    refine HC.out.mono ?_
    rintro e w1 ⟨⟨v, rfl⟩, hM1⟩
    have HM1 : Hid (Merged w w1 B G r i (l.xs ++ s :: m.xs)) := hM1
    clear hM1 c0 c1 e1 e2 l0 m0
    go_wp2
    go_ret
    exact ⟨rfl, HM1.out⟩
  · have q1 := (HH.out.kidCell HU.out hq).2
    have hLq := HH.out.leaf q (List.mem_of_getElem? hq)
    have q0 := (heap_node hLq.node).1
    obtain ⟨qa, qc, hqv⟩ := own_form hLq.row
    rw [hqv] at q0
    obtain ⟨R, hR⟩ : ∃ R, q.xs.length = R := ⟨_, rfl⟩
    rw [hR] at q0 hq31
    have hq31' : ¬ (31 : Int) < (R : Int) := by omega
    have hik1 : (i : Int) - 1 = (k : Int) := by omega
    have hi00 : 0 < i := by omega
    have hi01 : (0 : Int) < (i : Int) := by omega
    have hkl' : (k : Int) < (M : Int) := by omega
    have hwk : IntKind.i64.wrap (k : Int) = (k : Int) := by rw [IntKind.wrap_i64]; omega
    clear hLq hqv hR hq hik
    go_enter Yba.func18, Yba.ntmps18
    go_wp2_with fail
    refine HC.out.mono ?_
    rintro e w1 ⟨⟨v, rfl⟩, hM1⟩
    have HM1 : Hid (Merged w w1 B G r i (l.xs ++ s :: m.xs)) := hM1
    clear hM1 c0 c1 e1 e2 l0 m0 q0 q1
    go_wp2
    go_ret
    exact ⟨rfl, HM1.out⟩
end Go.Proofs.Ybulkira
