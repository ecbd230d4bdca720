import Derived.Test.YbulkiraRFill
namespace Go.Proofs.Ybulkira
open Go.RowKit
set_option linter.unusedVariables false
set_option linter.unusedSimpArgs false
attribute [local go_sem ↓] Go.wp_at_zero Go.wp_at_succ

theorem Items.frozen {w : World} {g c N : Nat} {ss : List Nat} (h : Items w (.slice (some ⟨g, 0, none⟩) N c) ss) (o : Nat) : w.frozen? ⟨g, o, none⟩ = false := by
  rcases h.2 with ⟨h0, _⟩ | ⟨g', cap, cur, hv, _, hg, _⟩
  · cases h0
  · cases hv
    simp [World.frozen?, hg]

theorem Items.form {w : World} {v : Value} {xs : List Nat} (h : Items w v xs) (h0 : 0 < xs.length) : ∃ g c, v = .slice (some ⟨g, 0, none⟩) xs.length c := by
  obtain ⟨g, c, hv, _⟩ := h.cell h0
  exact ⟨g, c, hv⟩

theorem leaf_itemCell {w : World} {l : Nd} (h : LeafAt w l) {g c N : Nat} (hv : l.v = .slice (some ⟨g, 0, none⟩) N c) {i s : Nat} (hi : l.xs[i]? = some s) :
    w.cell? ⟨l.b, 0, none⟩ = some (.slice (some ⟨g, 0, none⟩) N c) ∧ w.cell? ⟨g, i * 2, none⟩ = some (.string (keyB s)) ∧ w.cell? ⟨g, i * 2 + 1, none⟩ = some (.int .i64 (s : Int)) ∧ g < w.heap.size := by
  have hil : i < l.xs.length := (List.getElem?_eq_some_iff.1 hi).1
  obtain ⟨g', c', hv', hg, hcell⟩ := h.row.cell (by omega)
  rw [hv] at hv'
  cases hv'
  exact ⟨by rw [← hv]; exact (heap_node h.node).1, (hcell i s hi).1, (hcell i s hi).2, hg⟩

set_option maxRecDepth 100000 in
set_option maxHeartbeats 4000000 in
theorem fill_left (w : World) (B G : Nat) (r : Rt) (i k : Nat) (l m : Nd) (s x : Nat) (Y : List Nat) (hik : i = k + 1) (h : RootAt w B G r) (hi : r.ks[i]? = some l) (hk : r.ks[k]? = some m) (hs : r.ss[k]? = some s) (hkm : r.ks.length < 900) (hsm : r.ss.length < 900)
    (hl : l.xs.length ≤ 31) (hm : 31 < m.xs.length) (hm2 : m.xs.length < 64) (hY : m.xs = Y ++ [x]) :
    Calls Yba.prog 18 #[.pointer (some ⟨r.b, 0, none⟩), .int .i64 (i : Int), .int .u64 (G : Int)] w fun e w' => e = .returned (.int .i64 (i : Int)) ∧ Below B w w' ∧ ∃ r', RootAt w' B G r' ∧ r'.b = r.b ∧ r'.ss = r.ss.set k x ∧ r'.ks.map Nd.xs = ((r.ks.map Nd.xs).set i (s :: l.xs)).set k Y := by
  have hil : i < r.ks.length := (List.getElem?_eq_some_iff.1 hi).1
  have hsl : k < r.ss.length := (List.getElem?_eq_some_iff.1 hs).1
  obtain ⟨gu, cu, hu⟩ := h.kidForm (by omega)
  obtain ⟨gs, cs, hv⟩ := h.itemForm (by omega)
  obtain ⟨c1, e1⟩ := h.kidCell hu hi
  have e2 := (h.kidCell hu hk).2
  have hLl := h.leaf l (List.mem_of_getElem? hi)
  have hLm := h.leaf m (List.mem_of_getElem? hk)
  have l0 := (heap_node hLl.node).1
  have m0 := (heap_node hLm.node).1
  obtain ⟨la, lc, hlv⟩ := own_form hLl.row
  obtain ⟨ma, mc, hmv⟩ := own_form hLm.row
  rw [hlv] at l0
  rw [hmv] at m0
  have h0l := h.full l (List.mem_of_getElem? hi)
  obtain ⟨L, hL⟩ : ∃ L, l.xs.length = L := ⟨_, rfl⟩
  obtain ⟨T, hT⟩ : ∃ T, Y.length = T := ⟨_, rfl⟩
  have hmT : m.xs.length = T + 1 := by rw [hY]; simp [hT]
  obtain ⟨M, hM⟩ : ∃ M, r.ks.length = M := ⟨_, rfl⟩
  obtain ⟨N, hN⟩ : ∃ N, r.ss.length = N := ⟨_, rfl⟩
  rw [hL] at l0 hl h0l
  rw [hmT] at m0 hm hm2
  rw [hM] at hu hil hkm c1
  rw [hN] at hv hsl hsm
  have HH : Hid (RootAt w B G r) := h
  have HI : Hid (r.ks[i]? = some l) := hi
  have HK : Hid (r.ks[k]? = some m) := hk
  have HS : Hid (r.ss[k]? = some s) := hs
  have HU : Hid (r.u = .slice (some ⟨gu, 0, none⟩) M cu) := hu
  have HV : Hid (r.v = .slice (some ⟨gs, 0, none⟩) N cs) := hv
  have HM : Hid (r.ks.length = M) := hM
  have HN : Hid (r.ss.length = N) := hN
  have HL : Hid (l.xs.length = L) := hL
  have HT : Hid (Y.length = T) := hT
  have HMT : Hid (m.xs.length = T + 1) := hmT
  have HY : Hid (m.xs = Y ++ [x]) := hY
  have HIK : Hid (i = k + 1) := hik
  have hil' : (i : Int) < (M : Int) := by omega
  have hkl' : (k : Int) < (M : Int) := by omega
  have hsl' : (k : Int) < (N : Int) := by omega
  have hi0 : (0 : Int) < (i : Int) := by omega
  have hi00 : 0 < i := by omega
  have hl31 : ¬ (31 : Int) < (L : Int) := by omega
  have hm31 : (31 : Int) < (T : Int) + 1 := by omega
  have hik1 : (i : Int) - 1 = (k : Int) := by omega
  have hwk : IntKind.i64.wrap (k : Int) = (k : Int) := by rw [IntKind.wrap_i64]; omega
  have hwT : IntKind.i64.wrap (T : Int) = (T : Int) := by rw [IntKind.wrap_i64]; omega
  have hTT : (T : Int) < (T : Int) + 1 := by omega
  clear h hi hk hs hu hv hM hN hL hT hmT hY hik hLl hLm hlv hmv
  go_enter Yba.func18, Yba.ntmps18
  go_wp2_with fail
  refine (child_any w B G r i l HH.out HI.out (by have := HM.out; omega) (by have := HL.out; omega)).mono ?_
  rintro e w1 ⟨l', rfl, hxs1, hgen1, hR1, hB1, _⟩
  have HR1 : Hid (RootAt w1 B G { r with ks := r.ks.set i l' } ∧ Below B w w1 ∧ l'.xs = l.xs ∧ l'.gen = G) := ⟨hR1, hB1, hxs1, hgen1⟩
  clear hR1 hB1 hxs1 hgen1 c1 e1 e2 l0 m0
  go_wp2_with fail
  refine (child_any w1 B G { r with ks := r.ks.set i l' } k m HR1.out.1 (by show (r.ks.set i l')[k]? = some m; rw [List.getElem?_set_ne (by have := HIK.out; omega)]; exact HK.out) (by show (r.ks.set i l').length < 1000; rw [List.length_set, HM.out]; omega) (by rw [HMT.out]; omega)).mono ?_
  rintro e w2 ⟨m', rfl, hxs2, hgen2, hR2, hB2, _⟩
  obtain ⟨r2, hr2⟩ : ∃ r2 : Rt, r2 = { r with ks := (r.ks.set i l').set k m' } := ⟨_, rfl⟩
  have HR2 : Hid (RootAt w2 B G r2 ∧ Below B w w2) := ⟨by rw [hr2]; exact hR2, HR1.out.2.1.trans hB2⟩
  have HX2 : Hid (l'.xs = l.xs ∧ l'.gen = G ∧ m'.xs = m.xs ∧ m'.gen = G) := ⟨HR1.out.2.2.1, HR1.out.2.2.2, hxs2, hgen2⟩
  have HI2 : Hid (r2.ks[i]? = some l') := by
    have h1 := HM.out
    have h2 := HIK.out
    rw [hr2]
    show ((r.ks.set i l').set k m')[i]? = some l'
    rw [List.getElem?_set_ne (by omega), List.getElem?_set_self (by omega)]
  have HK2 : Hid (r2.ks[k]? = some m') := by
    have h1 := HM.out
    rw [hr2]
    exact List.getElem?_set_self (by rw [List.length_set]; omega)
  have HE2 : Hid (r2.b = r.b ∧ r2.v = r.v ∧ r2.ss = r.ss ∧ r2.ks.length = M ∧ r2.ks.map Nd.xs = r.ks.map Nd.xs) := by
    rw [hr2]
    refine ⟨rfl, rfl, rfl, by simp [HM.out], ?_⟩
    show ((r.ks.set i l').set k m').map Nd.xs = _
    rw [List.map_set, List.map_set, HX2.out.1, HX2.out.2.2.1, set_self (kx_get HI.out), set_self (kx_get HK.out)]
  clear hr2 hxs2 hgen2 hR2 hB2 HR1
  go_upto_region 5 with fail
  have HL2 : Hid (LeafAt w2 l') := HR2.out.1.leaf l' (List.mem_of_getElem? HI2.out)
  have HV2 : Hid (r2.v = .slice (some ⟨gs, 0, none⟩) N cs) := by rw [HE2.out.2.1]; exact HV.out
  obtain ⟨q0', x0, x1, hgs⟩ := HR2.out.1.itemCell HV2.out (i := k) (s := s) (by rw [HE2.out.2.2.1]; exact HS.out)
  have q0 : w2.cell? ⟨r.b, 0, none⟩ = some (.slice (some ⟨gs, 0, none⟩) N cs) := by rw [← HE2.out.1]; exact q0'
  obtain ⟨gl, cl, hvl⟩ := HL2.out.row.form (by rw [HX2.out.1, HL.out]; omega)
  rw [HX2.out.1, HL.out] at hvl
  have HVL : Hid (l'.v = .slice (some ⟨gl, 0, none⟩) L cl) := hvl
  obtain ⟨l0, _, _, lf0, _, hlb⟩ := heap_node HL2.out.node
  rw [hvl] at l0
  have HIT : Hid (Items w2 (.slice (some ⟨gl, 0, none⟩) L cl) ([] ++ l.xs)) := by
    have h1 := HL2.out.row
    rw [hvl, HX2.out.1] at h1
    exact h1
  have nl : ∀ j, ¬ some (Addr.block ⟨l'.b, j, none⟩) = (Value.slice (some ⟨gl, 0, none⟩) L cl).ownBlock := fun j e => own_ne HL2.out.row HL2.out.node (by decide) (by rw [HVL.out]; exact e.symm)
  have hL64 : L < 1000 := by omega
  have HRB : Hid (r.b < w2.heap.size) := by
    have := HR2.out.1.lt
    rw [HE2.out.1] at this
    exact this
  clear q0' hvl
  refine region_anyE (fun w' => w'.cell? ⟨l'.b, 0, none⟩ = some (.slice (some ⟨gl, 0, none⟩) L cl) ∧ w'.cell? ⟨r.b, 0, none⟩ = some (.slice (some ⟨gs, 0, none⟩) N cs) ∧ w'.cell? ⟨gs, k * 2, none⟩ = some (.string (keyB s)) ∧ w'.cell? ⟨gs, k * 2 + 1, none⟩ = some (.int .i64 (s : Int))) 16 (by kernel_rfl) ?_
  have hS : (fun w' => w'.cell? ⟨l'.b, 0, none⟩ = some (.slice (some ⟨gl, 0, none⟩) L cl) ∧ w'.cell? ⟨r.b, 0, none⟩ = some (.slice (some ⟨gs, 0, none⟩) N cs) ∧ w'.cell? ⟨gs, k * 2, none⟩ = some (.string (keyB s)) ∧ w'.cell? ⟨gs, k * 2 + 1, none⟩ = some (.int .i64 (s : Int))) w2.drew := ⟨l0, q0, x0, x1⟩
  refine anyE_take (i := 0) (v := ?_) rfl (by kernel_rfl) (by kernel_rfl) (by kernel_rfl) (by kernel_rfl) (fun _ _ _ h => h) (Or.inl ⟨by rfl, ?_⟩) hS ?_
  rotate_left
  · intro w0 hw0
    (try dsimp only at hw0)
    go_simp
    all_goals with_reducible rfl
  (try simp only [Act.put, List.setIfInBounds_toArray, List.set_cons_zero, List.set_cons_succ])
  refine anyE_take (i := 1) (v := ?_) rfl (by kernel_rfl) (by kernel_rfl) (by kernel_rfl) (by kernel_rfl) (fun _ _ _ h => h) (Or.inl ⟨by rfl, ?_⟩) hS ?_
  rotate_left
  · intro w0 hw0
    (try dsimp only at hw0)
    go_simp
    all_goals with_reducible rfl
  (try simp only [Act.put, List.setIfInBounds_toArray, List.set_cons_zero, List.set_cons_succ])
  refine anyE_take (i := 2) (v := ?_) rfl (by kernel_rfl) (by kernel_rfl) (by kernel_rfl) (by kernel_rfl) (fun _ _ _ h => h) (Or.inl ⟨by rfl, ?_⟩) hS ?_
  rotate_left
  · intro w0 hw0
    (try dsimp only at hw0)
    go_simp
    all_goals with_reducible rfl
  (try simp only [Act.put, List.setIfInBounds_toArray, List.set_cons_zero, List.set_cons_succ])
  refine anyE_take (i := 3) (v := ?_) rfl (by kernel_rfl) (by kernel_rfl) (by kernel_rfl) (by kernel_rfl) (fun _ _ _ h => h) (Or.inl ⟨by rfl, ?_⟩) hS ?_
  rotate_left
  · intro w0 hw0
    (try dsimp only at hw0)
    go_simp
    all_goals with_reducible rfl
  (try simp only [Act.put, List.setIfInBounds_toArray, List.set_cons_zero, List.set_cons_succ])
  refine anyE_take (i := 4) (v := ?_) rfl (by kernel_rfl) (by kernel_rfl) (by kernel_rfl) (by kernel_rfl) (fun _ _ _ h => h) (Or.inl ⟨by rfl, ?_⟩) hS ?_
  rotate_left
  · intro w0 hw0
    (try dsimp only at hw0)
    go_simp
    all_goals with_reducible rfl
  (try simp only [Act.put, List.setIfInBounds_toArray, List.set_cons_zero, List.set_cons_succ])
  refine anyE_take (i := 5) (v := ?_) rfl (by kernel_rfl) (by kernel_rfl) (by kernel_rfl) (by kernel_rfl) (fun _ _ _ h => h) (Or.inl ⟨by rfl, ?_⟩) hS ?_
  rotate_left
  · intro w0 hw0
    (try dsimp only at hw0)
    go_simp
    all_goals with_reducible rfl
  (try simp only [Act.put, List.setIfInBounds_toArray, List.set_cons_zero, List.set_cons_succ])
  refine anyE_take (i := 6) (v := ?_) rfl (by kernel_rfl) (by kernel_rfl) (by kernel_rfl) (by kernel_rfl) (fun _ _ _ h => h) (Or.inl ⟨by rfl, ?_⟩) hS ?_
  rotate_left
  · intro w0 hw0
    (try dsimp only at hw0)
    go_simp
    all_goals with_reducible rfl
  (try simp only [Act.put, List.setIfInBounds_toArray, List.set_cons_zero, List.set_cons_succ])
  refine anyE_take (i := 7) (v := ?_) rfl (by kernel_rfl) (by kernel_rfl) (by kernel_rfl) (by kernel_rfl) (fun _ _ _ h => h) (Or.inl ⟨by rfl, ?_⟩) hS ?_
  rotate_left
  · intro w0 hw0
    (try dsimp only at hw0)
    go_simp
    all_goals with_reducible rfl
  (try simp only [Act.put, List.setIfInBounds_toArray, List.set_cons_zero, List.set_cons_succ])
  refine anyE_take (i := 8) (v := ?_) rfl (by kernel_rfl) (by kernel_rfl) (by kernel_rfl) (by kernel_rfl) (fun _ _ _ h => h) (Or.inl ⟨by rfl, ?_⟩) hS ?_
  rotate_left
  · intro w0 hw0
    (try dsimp only at hw0)
    go_simp
    all_goals with_reducible rfl
  (try simp only [Act.put, List.setIfInBounds_toArray, List.set_cons_zero, List.set_cons_succ])
  refine anyE_take (i := 9) (v := ?_) rfl (by kernel_rfl) (by kernel_rfl) (by kernel_rfl) (by kernel_rfl) (fun _ _ _ h => h) (Or.inl ⟨by rfl, ?_⟩) hS ?_
  rotate_left
  · intro w0 hw0
    (try dsimp only at hw0)
    go_simp
    all_goals with_reducible rfl
  (try simp only [Act.put, List.setIfInBounds_toArray, List.set_cons_zero, List.set_cons_succ])
  refine anyE_take (i := 10) (v := ?_) rfl (by kernel_rfl) (by kernel_rfl) (by kernel_rfl) (by kernel_rfl) (fun _ _ _ h => h) (Or.inl ⟨by rfl, ?_⟩) hS ?_
  rotate_left
  · intro w0 hw0
    (try dsimp only at hw0)
    go_simp
    all_goals with_reducible rfl
  (try simp only [Act.put, List.setIfInBounds_toArray, List.set_cons_zero, List.set_cons_succ])
  refine anyE_take (i := 11) (v := ?_) rfl (by kernel_rfl) (by kernel_rfl) (by kernel_rfl) (by kernel_rfl) (fun _ _ _ h => h) (Or.inl ⟨by rfl, ?_⟩) hS ?_
  rotate_left
  · intro w0 hw0
    (try dsimp only at hw0)
    go_simp
    all_goals with_reducible rfl
  (try simp only [Act.put, List.setIfInBounds_toArray, List.set_cons_zero, List.set_cons_succ])
  refine anyE_take (i := 12) (v := ?_) rfl (by kernel_rfl) (by kernel_rfl) (by kernel_rfl) (by kernel_rfl) (fun _ _ _ h => h) (Or.inl ⟨by rfl, ?_⟩) hS ?_
  rotate_left
  · intro w0 hw0
    (try dsimp only at hw0)
    go_simp
    all_goals with_reducible rfl
  (try simp only [Act.put, List.setIfInBounds_toArray, List.set_cons_zero, List.set_cons_succ])
  refine anyE_step (i := 13) rfl (by kernel_rfl) (fun K hK => ?_)
  go_simp
  refine (insertI (.slice (some ⟨gl, 0, none⟩) L cl) [] l.xs 0 s w2.drew rfl HIT.out (by rw [List.nil_append, HL.out]; exact hL64)).mono ?_
  rintro e w3 ⟨v3, rfl, hI3, hR3⟩
  obtain ⟨a3, n3, c3, rfl⟩ := own_form' hI3
  have nr1 : ¬ some (Addr.block ⟨r.b, 0, none⟩) = (Value.slice (some ⟨gl, 0, none⟩) L cl).ownBlock := fun e => own_ne HL2.out.row HR2.out.1.node (by decide) (by rw [HVL.out, HE2.out.1]; exact e.symm)
  have ns1 : ∀ j, ¬ some (Addr.block ⟨gs, j, none⟩) = (Value.slice (some ⟨gl, 0, none⟩) L cl).ownBlock := fun j e => HR2.out.1.nr l' (List.mem_of_getElem? HI2.out) (by rw [HV2.out, HVL.out]; exact e)
  have b0 := (hR3.grown.cell_far ⟨l'.b, 0, none⟩ hlb (nl 0)).trans l0
  have b1 := (hR3.grown.cell_far ⟨r.b, 0, none⟩ HRB.out nr1).trans q0
  have b2 := (hR3.grown.cell_far ⟨gs, k * 2, none⟩ hgs (ns1 _)).trans x0
  have b3 := (hR3.grown.cell_far ⟨gs, k * 2 + 1, none⟩ hgs (ns1 _)).trans x1
  have b4 := (hR3.grown.frozen_far ⟨l'.b, 0, none⟩ hlb (nl 0)).trans lf0
  have HI3 : Hid (Items w3 (.slice a3 n3 c3) (s :: l.xs)) := hI3
  have HR3 : Hid (NewRow w2 w3 l'.v (.slice a3 n3 c3)) := by
    rw [HVL.out]
    exact ⟨⟨hR3.grown.os, hR3.grown.tape, hR3.grown.output, hR3.grown.size, hR3.grown.block⟩, hR3.lies⟩
  have hS3 : (fun w' => w'.cell? ⟨l'.b, 0, none⟩ = some (.slice (some ⟨gl, 0, none⟩) L cl) ∧ w'.cell? ⟨r.b, 0, none⟩ = some (.slice (some ⟨gs, 0, none⟩) N cs) ∧ w'.cell? ⟨gs, k * 2, none⟩ = some (.string (keyB s)) ∧ w'.cell? ⟨gs, k * 2 + 1, none⟩ = some (.int .i64 (s : Int))) w3 := ⟨b0, b1, b2, b3⟩
  clear hI3 hR3 nr1 ns1
  go_wp2_with fail
  refine hK.out _ _ (fun _ => hS3) ?_
  clear hK K
  (try simp only [Act.put, List.setIfInBounds_toArray, List.set_cons_zero, List.set_cons_succ])
  refine anyE_step (i := 14) rfl (by kernel_rfl) (fun K hK => ?_)
  go_simp
  refine hK.out _ _ (fun _ => hS3) ?_
  clear hK K
  (try simp only [Act.put, List.setIfInBounds_toArray, List.set_cons_zero, List.set_cons_succ])
  refine anyE_step (i := 15) rfl (by kernel_rfl) (fun K hK => ?_)
  go_simp
  refine hK.out _ _ (fun _ => hS3) ?_
  clear hK K
  (try simp only [Act.put, List.setIfInBounds_toArray, List.set_cons_zero, List.set_cons_succ])
  refine anyE_step (i := 16) rfl (by kernel_rfl) (fun K hK => ?_)
  go_simp
  refine hK.out _ _ (fun h => absurd rfl h) ?_
  clear hK K hS hS3
  refine anyE_done (by kernel_rfl) ?_ _
  (try simp only [Act.put, List.setIfInBounds_toArray, List.set_cons_zero, List.set_cons_succ])
  obtain ⟨l2, hl2⟩ : ∃ l2 : Nd, l2 = { l' with v := .slice a3 n3 c3, xs := s :: l.xs } := ⟨_, rfl⟩
  obtain ⟨r4, hr4⟩ : ∃ r4 : Rt, r4 = { r2 with ks := r2.ks.set i l2 } := ⟨_, rfl⟩
  have HR4 : Hid (RootAt (w3.setCell ⟨l'.b, 0, none⟩ (.slice a3 n3 c3)) B G r4 ∧ Below B w (w3.setCell ⟨l'.b, 0, none⟩ (.slice a3 n3 c3))) := by
    have hu : LeafUpd w2 (w3.setCell ⟨l'.b, 0, none⟩ (.slice a3 n3 c3)) l' l2 := by
      rw [hl2]
      exact leaf_items HL2.out HI3.out HR3.out
    have h1 := HR2.out.1.setKid HI2.out hu HX2.out.2.1 (by rw [hl2]; simp)
    rw [hr4]
    exact ⟨h1.1, HR2.out.2.trans h1.2⟩
  have HK4 : Hid (r4.ks[k]? = some m') := by
    rw [hr4]
    show (r2.ks.set i l2)[k]? = some m'
    rw [List.getElem?_set_ne (by have := HIK.out; omega)]
    exact HK2.out
  have HE4 : Hid (r4.b = r.b ∧ r4.v = r.v ∧ r4.ss = r.ss ∧ r4.ks.map Nd.xs = (r.ks.map Nd.xs).set i (s :: l.xs)) := by
    rw [hr4]
    refine ⟨HE2.out.1, HE2.out.2.1, HE2.out.2.2.1, ?_⟩
    show (r2.ks.set i l2).map Nd.xs = _
    rw [List.map_set, HE2.out.2.2.2.2, hl2]
  go_upto_region 6 with fail
  obtain ⟨W4, hW4⟩ : ∃ W4, W4 = w3.setCell ⟨l'.b, 0, none⟩ (.slice a3 n3 c3) := ⟨_, rfl⟩
  rw [← hW4] at HR4 ⊢
  clear hW4 hr4 hl2 HI3 HR3 b0 b1 b2 b3 b4 l0 lf0 hlb q0 x0 x1 hgs nl HIT HRB HL2 HVL HR2 HI2 HV2
  have HL4 : Hid (LeafAt W4 m') := HR4.out.1.leaf m' (List.mem_of_getElem? HK4.out)
  have HV4 : Hid (r4.v = .slice (some ⟨gs, 0, none⟩) N cs) := by rw [HE4.out.2.1]; exact HV.out
  have hTl : m'.xs.length = T + 1 := by rw [HX2.out.2.2.1]; exact HMT.out
  obtain ⟨gm, cm, hvm⟩ := HL4.out.row.form (by omega)
  rw [hTl] at hvm
  have HVM : Hid (m'.v = .slice (some ⟨gm, 0, none⟩) (T + 1) cm) := hvm
  have HMX : Hid (m'.xs = Y ++ [x]) := by rw [HX2.out.2.2.1]; exact HY.out
  obtain ⟨m0, x0, x1, hgm⟩ := leaf_itemCell HL4.out hvm (i := T) (s := x) (by rw [HMX.out, List.getElem?_append_right (by rw [HT.out]; exact Nat.le_refl _), HT.out]; simp)
  have q0 : W4.cell? ⟨r.b, 0, none⟩ = some (.slice (some ⟨gs, 0, none⟩) N cs) := by rw [← HE4.out.1, ← HV4.out]; exact (heap_node HR4.out.1.node).1
  obtain ⟨_, m1, _, mf0, _, hmb⟩ := heap_node HL4.out.node
  have n1 : gs ≠ m'.b := fun e => own_ne HR4.out.1.row HL4.out.node (by decide) (by rw [HV4.out, e]; rfl)
  have n2 : gs ≠ r.b := fun e => own_ne HR4.out.1.row HR4.out.1.node (by decide) (by rw [HV4.out, HE4.out.1, e]; rfl)
  have n3' : gs ≠ gm := fun e => HR4.out.1.nr m' (List.mem_of_getElem? HK4.out) (by rw [HV4.out, HVM.out, e]; rfl)
  have hrow : Items W4 (.slice (some ⟨gs, 0, none⟩) N cs) r4.ss := by
    have h1 := HR4.out.1.row
    rw [HV4.out] at h1
    exact h1
  obtain ⟨_, s0, s1, hgs⟩ := HR4.out.1.itemCell HV4.out (i := k) (s := s) (by rw [HE4.out.2.2.1]; exact HS.out)
  have fr0 := Items.frozen hrow (k * 2)
  have fr1 := Items.frozen hrow (k * 2 + 1)
  clear hrow hvm hTl
  have y0 := (cell_set_other (W4.setCell ⟨gs, k * 2, none⟩ (.string (keyB x))) ⟨gs, k * 2 + 1, none⟩ (.int .i64 (x : Int)) m'.b 0 (.inl n1)).trans ((cell_set_other W4 ⟨gs, k * 2, none⟩ (.string (keyB x)) m'.b 0 (.inl n1)).trans m0)
  have y1 := (cell_set_other (W4.setCell ⟨gs, k * 2, none⟩ (.string (keyB x))) ⟨gs, k * 2 + 1, none⟩ (.int .i64 (x : Int)) r.b 0 (.inl n2)).trans ((cell_set_other W4 ⟨gs, k * 2, none⟩ (.string (keyB x)) r.b 0 (.inl n2)).trans q0)
  have y2 := (cell_set_other (W4.setCell ⟨gs, k * 2, none⟩ (.string (keyB x))) ⟨gs, k * 2 + 1, none⟩ (.int .i64 (x : Int)) gm (T * 2) (.inl n3')).trans ((cell_set_other W4 ⟨gs, k * 2, none⟩ (.string (keyB x)) gm (T * 2) (.inl n3')).trans x0)
  have y3 := (cell_set_other (W4.setCell ⟨gs, k * 2, none⟩ (.string (keyB x))) ⟨gs, k * 2 + 1, none⟩ (.int .i64 (x : Int)) gm (T * 2 + 1) (.inl n3')).trans ((cell_set_other W4 ⟨gs, k * 2, none⟩ (.string (keyB x)) gm (T * 2 + 1) (.inl n3')).trans x1)
  go_region_held3 (fun w' => w'.cell? ⟨m'.b, 0, none⟩ = some (.slice (some ⟨gm, 0, none⟩) (T + 1) cm) ∧ w'.cell? ⟨r.b, 0, none⟩ = some (.slice (some ⟨gs, 0, none⟩) N cs) ∧ w'.cell? ⟨gm, T * 2, none⟩ = some (.string (keyB x)) ∧ w'.cell? ⟨gm, T * 2 + 1, none⟩ = some (.int .i64 (x : Int))) (first | exact ⟨m0, q0, x0, x1⟩ | exact ⟨y0, y1, y2, y3⟩) ((fail))
  go_upto_region 7 with fail
  obtain ⟨r5, hr5⟩ : ∃ r5 : Rt, r5 = { r4 with ss := r4.ss.set k x } := ⟨_, rfl⟩
  have HR5 : Hid (RootAt ((W4.setCell ⟨gs, k * 2, none⟩ (.string (keyB x))).setCell ⟨gs, k * 2 + 1, none⟩ (.int .i64 (x : Int))).drew B G r5 ∧ Below B w ((W4.setCell ⟨gs, k * 2, none⟩ (.string (keyB x))).setCell ⟨gs, k * 2 + 1, none⟩ (.int .i64 (x : Int))).drew) := by
    have h1 := HR4.out.1.setItem HV4.out (by rw [HE4.out.2.2.1]; exact HN.out) k x hsl
    rw [hr5]
    exact ⟨h1.1.drew', (HR4.out.2.trans h1.2).drew⟩
  have HK5 : Hid (r5.ks[k]? = some m') := by rw [hr5]; exact HK4.out
  have HE5 : Hid (r5.b = r.b ∧ r5.ss = r.ss.set k x ∧ r5.ks.map Nd.xs = (r.ks.map Nd.xs).set i (s :: l.xs)) := by
    rw [hr5]
    exact ⟨HE4.out.1, by show r4.ss.set k x = _; rw [HE4.out.2.2.1], HE4.out.2.2.2⟩
  obtain ⟨W5, hW5⟩ : ∃ W5, W5 = ((W4.setCell ⟨gs, k * 2, none⟩ (.string (keyB x))).setCell ⟨gs, k * 2 + 1, none⟩ (.int .i64 (x : Int))).drew := ⟨_, rfl⟩
  rw [← hW5] at HR5 ⊢
  clear hW5 hr5 y0 y1 y2 y3 m0 q0 x0 x1 fr0 fr1 s0 s1 hgs hgm hmb m1 mf0 HR4 HL4 HV4 HK4 HE4 n1 n2 n3'
  have HL5 : Hid (LeafAt W5 m') := HR5.out.1.leaf m' (List.mem_of_getElem? HK5.out)
  obtain ⟨m0, m1, _, mf0, _, hmb⟩ := heap_node HL5.out.node
  rw [HVM.out] at m0
  have HIT5 : Hid (Items W5 (.slice (some ⟨gm, 0, none⟩) (T + 1) cm) (Y ++ x :: [])) := by
    have h1 := HL5.out.row
    rw [HVM.out, HMX.out] at h1
    exact h1
  have nm : ∀ j, ¬ some (Addr.block ⟨m'.b, j, none⟩) = (Value.slice (some ⟨gm, 0, none⟩) (T + 1) cm).ownBlock := fun j e => own_ne HL5.out.row HL5.out.node (by decide) (by rw [HVM.out]; exact e.symm)
  refine region_anyE (fun w' => w'.cell? ⟨m'.b, 0, none⟩ = some (.slice (some ⟨gm, 0, none⟩) (T + 1) cm)) 14 (by kernel_rfl) ?_
  have hS : (fun w' => w'.cell? ⟨m'.b, 0, none⟩ = some (.slice (some ⟨gm, 0, none⟩) (T + 1) cm)) W5.drew := m0
  refine anyE_take (i := 0) (v := ?_) rfl (by kernel_rfl) (by kernel_rfl) (by kernel_rfl) (by kernel_rfl) (fun _ _ _ h => h) (Or.inl ⟨by rfl, ?_⟩) hS ?_
  rotate_left
  · intro w0 hw0
    (try dsimp only at hw0)
    go_simp
    all_goals with_reducible rfl
  (try simp only [Act.put, List.setIfInBounds_toArray, List.set_cons_zero, List.set_cons_succ])
  refine anyE_take (i := 1) (v := ?_) rfl (by kernel_rfl) (by kernel_rfl) (by kernel_rfl) (by kernel_rfl) (fun _ _ _ h => h) (Or.inl ⟨by rfl, ?_⟩) hS ?_
  rotate_left
  · intro w0 hw0
    (try dsimp only at hw0)
    go_simp
    all_goals with_reducible rfl
  (try simp only [Act.put, List.setIfInBounds_toArray, List.set_cons_zero, List.set_cons_succ])
  refine anyE_take (i := 2) (v := ?_) rfl (by kernel_rfl) (by kernel_rfl) (by kernel_rfl) (by kernel_rfl) (fun _ _ _ h => h) (Or.inl ⟨by rfl, ?_⟩) hS ?_
  rotate_left
  · intro w0 hw0
    (try dsimp only at hw0)
    go_simp
    all_goals with_reducible rfl
  (try simp only [Act.put, List.setIfInBounds_toArray, List.set_cons_zero, List.set_cons_succ])
  refine anyE_take (i := 3) (v := ?_) rfl (by kernel_rfl) (by kernel_rfl) (by kernel_rfl) (by kernel_rfl) (fun _ _ _ h => h) (Or.inl ⟨by rfl, ?_⟩) hS ?_
  rotate_left
  · intro w0 hw0
    (try dsimp only at hw0)
    go_simp
    all_goals with_reducible rfl
  (try simp only [Act.put, List.setIfInBounds_toArray, List.set_cons_zero, List.set_cons_succ])
  refine anyE_take (i := 4) (v := ?_) rfl (by kernel_rfl) (by kernel_rfl) (by kernel_rfl) (by kernel_rfl) (fun _ _ _ h => h) (Or.inl ⟨by rfl, ?_⟩) hS ?_
  rotate_left
  · intro w0 hw0
    (try dsimp only at hw0)
    go_simp
    all_goals with_reducible rfl
  (try simp only [Act.put, List.setIfInBounds_toArray, List.set_cons_zero, List.set_cons_succ])
  refine anyE_take (i := 5) (v := ?_) rfl (by kernel_rfl) (by kernel_rfl) (by kernel_rfl) (by kernel_rfl) (fun _ _ _ h => h) (Or.inl ⟨by rfl, ?_⟩) hS ?_
  rotate_left
  · intro w0 hw0
    (try dsimp only at hw0)
    go_simp
    all_goals with_reducible rfl
  (try simp only [Act.put, List.setIfInBounds_toArray, List.set_cons_zero, List.set_cons_succ])
  refine anyE_take (i := 6) (v := ?_) rfl (by kernel_rfl) (by kernel_rfl) (by kernel_rfl) (by kernel_rfl) (fun _ _ _ h => h) (Or.inl ⟨by rfl, ?_⟩) hS ?_
  rotate_left
  · intro w0 hw0
    (try dsimp only at hw0)
    go_simp
    all_goals with_reducible rfl
  (try simp only [Act.put, List.setIfInBounds_toArray, List.set_cons_zero, List.set_cons_succ])
  refine anyE_take (i := 7) (v := ?_) rfl (by kernel_rfl) (by kernel_rfl) (by kernel_rfl) (by kernel_rfl) (fun _ _ _ h => h) (Or.inl ⟨by rfl, ?_⟩) hS ?_
  rotate_left
  · intro w0 hw0
    (try dsimp only at hw0)
    go_simp
    all_goals with_reducible rfl
  (try simp only [Act.put, List.setIfInBounds_toArray, List.set_cons_zero, List.set_cons_succ])
  refine anyE_take (i := 8) (v := ?_) rfl (by kernel_rfl) (by kernel_rfl) (by kernel_rfl) (by kernel_rfl) (fun _ _ _ h => h) (Or.inl ⟨by rfl, ?_⟩) hS ?_
  rotate_left
  · intro w0 hw0
    (try dsimp only at hw0)
    go_simp
    all_goals with_reducible rfl
  (try simp only [Act.put, List.setIfInBounds_toArray, List.set_cons_zero, List.set_cons_succ])
  refine anyE_take (i := 9) (v := ?_) rfl (by kernel_rfl) (by kernel_rfl) (by kernel_rfl) (by kernel_rfl) (fun _ _ _ h => h) (Or.inl ⟨by rfl, ?_⟩) hS ?_
  rotate_left
  · intro w0 hw0
    (try dsimp only at hw0)
    go_simp
    all_goals with_reducible rfl
  (try simp only [Act.put, List.setIfInBounds_toArray, List.set_cons_zero, List.set_cons_succ])
  refine anyE_take (i := 10) (v := ?_) rfl (by kernel_rfl) (by kernel_rfl) (by kernel_rfl) (by kernel_rfl) (fun _ _ _ h => h) (Or.inl ⟨by rfl, ?_⟩) hS ?_
  rotate_left
  · intro w0 hw0
    (try dsimp only at hw0)
    go_simp
    all_goals with_reducible rfl
  (try simp only [Act.put, List.setIfInBounds_toArray, List.set_cons_zero, List.set_cons_succ])
  refine anyE_step (i := 11) rfl (by kernel_rfl) (fun K hK => ?_)
  go_simp
  refine (removeI (.slice (some ⟨gm, 0, none⟩) (T + 1) cm) Y [] T x W5.drew HT.out HIT5.out (by have := HT.out; simp; omega)).mono ?_
  rintro e w6 ⟨v6, rfl, hI6, hR6⟩
  obtain ⟨a6, n6, c6, rfl⟩ := own_form' hI6
  have b0 := (hR6.grown.cell_far ⟨m'.b, 0, none⟩ hmb (nm 0)).trans m0
  have b1 := (hR6.grown.cell_far ⟨m'.b, 1, none⟩ hmb (nm 1)).trans m1
  have b4 := (hR6.grown.frozen_far ⟨m'.b, 0, none⟩ hmb (nm 0)).trans mf0
  have HI6 : Hid (Items w6 (.slice a6 n6 c6) Y) := by
    have h1 := hI6
    rw [List.append_nil] at h1
    exact h1
  have HR6 : Hid (NewRow W5 w6 m'.v (.slice a6 n6 c6)) := by
    rw [HVM.out]
    exact ⟨⟨hR6.grown.os, hR6.grown.tape, hR6.grown.output, hR6.grown.size, hR6.grown.block⟩, hR6.lies⟩
  have hS6 : (fun w' => w'.cell? ⟨m'.b, 0, none⟩ = some (.slice (some ⟨gm, 0, none⟩) (T + 1) cm)) w6 := b0
  clear hI6 hR6
  go_wp2_with fail
  refine hK.out _ _ (fun _ => hS6) ?_
  clear hK K
  (try simp only [Act.put, List.setIfInBounds_toArray, List.set_cons_zero, List.set_cons_succ])
  refine anyE_step (i := 12) rfl (by kernel_rfl) (fun K hK => ?_)
  go_simp
  refine hK.out _ _ (fun _ => hS6) ?_
  clear hK K
  (try simp only [Act.put, List.setIfInBounds_toArray, List.set_cons_zero, List.set_cons_succ])
  refine anyE_step (i := 13) rfl (by kernel_rfl) (fun K hK => ?_)
  go_simp
  refine hK.out _ _ (fun _ => hS6) ?_
  clear hK K
  (try simp only [Act.put, List.setIfInBounds_toArray, List.set_cons_zero, List.set_cons_succ])
  refine anyE_step (i := 14) rfl (by kernel_rfl) (fun K hK => ?_)
  go_simp
  refine hK.out _ _ (fun h => absurd rfl h) ?_
  clear hK K hS hS6
  refine anyE_done (by kernel_rfl) ?_ _
  (try simp only [Act.put, List.setIfInBounds_toArray, List.set_cons_zero, List.set_cons_succ])
  obtain ⟨m2, hm2'⟩ : ∃ m2 : Nd, m2 = { m' with v := .slice a6 n6 c6, xs := Y } := ⟨_, rfl⟩
  have HR7 : Hid (RootAt (w6.setCell ⟨m'.b, 0, none⟩ (.slice a6 n6 c6)) B G { r5 with ks := r5.ks.set k m2 } ∧ Below B w (w6.setCell ⟨m'.b, 0, none⟩ (.slice a6 n6 c6))) := by
    have hu : LeafUpd W5 (w6.setCell ⟨m'.b, 0, none⟩ (.slice a6 n6 c6)) m' m2 := by
      rw [hm2']
      exact leaf_items HL5.out HI6.out HR6.out
    have h1 := HR5.out.1.setKid HK5.out hu HX2.out.2.2.2 (by rw [hm2']; show 0 < Y.length; have := HT.out; omega)
    exact ⟨h1.1, HR5.out.2.trans h1.2⟩
  have HE7 : Hid ((r5.ks.set k m2).map Nd.xs = ((r.ks.map Nd.xs).set i (s :: l.xs)).set k Y) := by
    show _ = _
    rw [List.map_set, HE5.out.2.2, hm2']
  have hnn := Yba.nilne53
  have b2 := (cell_set_other w6 ⟨m'.b, 0, none⟩ (.slice a6 n6 c6) m'.b 1 (.inr (by simp))).trans b1
  clear hm2' HI6 HR6 b0 b1 m0 m1 b4 mf0 hmb nm HIT5
  obtain ⟨W7, hW7⟩ : ∃ W7, W7 = w6.setCell ⟨m'.b, 0, none⟩ (.slice a6 n6 c6) := ⟨_, rfl⟩
  go_upto_region 8 with fail
  rw [← hW7] at HR7 b2 ⊢
  clear hW7
  go_wp2
  go_ret
  exact ⟨rfl, HR7.out.2, _, HR7.out.1, HE5.out.1, HE5.out.2.1, HE7.out⟩
end Go.Proofs.Ybulkira
