import Derived.Test.YbulkiraRWalk
namespace Go.Proofs.Ybulkira
open Go.RowKit
set_option linter.unusedVariables false
attribute [local go_sem ↓] Go.wp_at_zero Go.wp_at_succ

theorem leaf_belowD {w w' : World} {D : Nat} {l : Nd} (h : LeafAt w l) (hb : Below D w w') (hl : ∀ k, l.own k → k < D) : LeafAt w' l := by
  have hc : Chg (fun k => D ≤ k) w w' := ⟨hb.os, hb.tape, hb.output, hb.size, fun k hk hn => hb.block k (by omega)⟩
  exact h.kept hc (fun hs => by have := hl l.b (.inl rfl); omega) (fun g hg hs => by have := hl g (.inr hg); omega)

theorem pre_take : ∀ (ss : List Nat) (ks : List (List Nat)) (j : Nat) (s : Nat) (k : List Nat), ss[j]? = some s → ks[j]? = some k → pre (ss.take (j + 1)) (ks.take (j + 1)) = pre (ss.take j) (ks.take j) ++ (k ++ [s])
  | [], _, j, s, k, h, _ => by simp at h
  | _ :: _, [], j, s, k, _, h => by simp at h
  | s' :: ss, k' :: ks, 0, s, k, h1, h2 => by
    simp at h1 h2
    subst h1
    subst h2
    simp [pre]
  | s' :: ss, k' :: ks, j + 1, s, k, h1, h2 => by
    have ih := pre_take ss ks j s k (by simpa using h1) (by simpa using h2)
    simp only [List.take_succ_cons, pre] at ih ⊢
    rw [ih]
    simp

set_option maxHeartbeats 2000000 in
theorem walk_root (w : World) (B G D : Nat) (r : Rt) (v : Value) (ys : List Nat) (h : RootAt w B G r) (hg : Good r.ss (r.ks.map Nd.xs)) (ho : Out w D v ys) (hD : D ≤ w.heap.size) (hown : ∀ k, r.own k → k < D) (hn : (flat r.ss (r.ks.map Nd.xs)).length < 400) (hy : ys.length < 400) :
    Calls Yba.prog 11 #[.pointer (some ⟨r.b, 0, none⟩), v] w fun e w' => ∃ v', e = .returned v' ∧ Out w' D v' (ys ++ flat r.ss (r.ks.map Nd.xs)) ∧ Below D w w' := by
  obtain ⟨i0, hi0, hz0, hz1, hz2⟩ := info_parts Yba.info57
  have kp : ∀ w : World, (binOp .eql 45 (.pointer (some ⟨r.b, 0, none⟩)) (.pointer none)).run Yba.prog w = .ok (.bool false) w := fun w => by kernel_rfl
  have hkl : r.ks.length = r.ss.length + 1 := by simpa using hg.len
  obtain ⟨c0, c1, _, _, _, hlt⟩ := heap_node h.node
  obtain ⟨aa, cc, hv⟩ := own_form h.row
  obtain ⟨gu, cu, hu, hgu, hcell, _⟩ := h.kids.cell (by simp; omega)
  have hguD : gu < D := hown gu (.inr (.inr (.inl (by rw [hu]; rfl))))
  have hrD : r.b < D := hown r.b (.inl rfl)
  rw [hu, List.length_map, hkl] at c1
  have HV : Hid (r.v = .slice aa r.ss.length cc) := hv
  rw [hv] at c0
  obtain ⟨N, hN⟩ : ∃ N, r.ss.length = N := ⟨_, rfl⟩
  rw [hN] at c0 c1 hkl
  have HN : Hid (r.ss.length = N) := hN
  have HK : Hid (r.ks.length = N + 1) := hkl
  have HH : Hid (RootAt w B G r) := h
  have HG : Hid (Good r.ss (r.ks.map Nd.xs)) := hg
  have HO : Hid (Out w D v ys) := ho
  have HOW : Hid (∀ k, r.own k → k < D) := hown
  have HC : Hid (∀ i b, (r.ks.map Nd.b)[i]? = some b → w.cell? ⟨gu, i, none⟩ = some (.pointer (some ⟨b, 0, none⟩))) := hcell
  have HFL : Hid ((flat r.ss (r.ks.map Nd.xs)).length < 400) := hn
  have hN12 : N < 400 := by have := flat_length r.ss (r.ks.map Nd.xs) hg.len hg.low; omega
  have kq : ∀ w : World, (binOp .neq 53 (.slice (some ⟨gu, 0, none⟩) (N + 1) cu) (.slice none 0 0)).run Yba.prog w = .ok (.bool true) w := fun w => by kernel_rfl
  have hs2 : IntKind.i64.wrap ((N : Int) + 1) = (N : Int) + 1 := by rw [IntKind.wrap_i64]; omega
  clear h hg ho hown hcell hn hv hu hN hkl
  go_enter Yba.func11, Yba.ntmps11
  go_wp2
  go_loopw [1, 5] (fun ov jv wr => ∃ j : Nat, j ≤ N ∧ jv = .int .i64 (j : Int) ∧ Hid (Out wr D ov (ys ++ pre (r.ss.take j) ((r.ks.map Nd.xs).take j)) ∧ Below D w wr)) (fun ov jv _ => N - (intOf jv).toNat)
  case atStart => exact ⟨0, by omega, rfl, by simpa [pre] using HO.out, Below.refl _ _⟩
  case round =>
    obtain ⟨j, hj, rfl, hrel⟩ := hrel
    have d0 := (hrel.out.2.cell (p := ⟨r.b, 0, none⟩) hrD).trans c0
    have d1 := (hrel.out.2.cell (p := ⟨r.b, 1, none⟩) hrD).trans c1
    obtain ⟨l, hl⟩ : ∃ l, r.ks[j]? = some l := ⟨_, List.getElem?_eq_getElem (by have := HK.out; omega)⟩
    have cj := (hrel.out.2.cell (p := ⟨gu, j, none⟩) hguD).trans (HC.out j l.b (by rw [List.getElem?_map, hl]; rfl))
    have hlm := List.mem_of_getElem? hl
    have HL : Hid (LeafAt wr l) := leaf_belowD (HH.out.leaf l hlm) hrel.out.2 (fun k hk => HOW.out k (.inr (.inr (.inr ⟨l, hlm, hk⟩))))
    have HLD : Hid (∀ k, l.own k → k < D) := fun k hk => HOW.out k (.inr (.inr (.inr ⟨l, hlm, hk⟩)))
    have hhi := HG.out.high l.xs (List.mem_of_getElem? (kx_get hl))
    have hDr : D ≤ wr.heap.size := Nat.le_trans hD hrel.out.2.size
    have HLJ : Hid (r.ks[j]? = some l) := hl
    obtain ⟨oa, oc, hov⟩ := own_form hrel.out.1
    have hpl : (ys ++ pre (r.ss.take j) ((r.ks.map Nd.xs).take j)).length < 800 := by
      have h1 := flat_pre (r.ss.take j) ((r.ks.map Nd.xs).take j) (r.ss.drop j) ((r.ks.map Nd.xs).drop j) (by have := HN.out; have := HK.out; simp; omega)
      rw [List.take_append_drop, List.take_append_drop] at h1
      have h2 := HFL.out
      rw [h1] at h2
      simp at h2 ⊢
      omega
    obtain ⟨L, hL⟩ : ∃ L, (ys ++ pre (r.ss.take j) ((r.ks.map Nd.xs).take j)).length = L := ⟨_, rfl⟩
    rw [hL] at hov
    subst hov
    clear hl hlm hL
    by_cases hlt' : j < N
    · have hltI : (j : Int) < (N : Int) := by omega
      have hltI2 : (j : Int) < (N : Int) + 1 := by omega
      go_wp2_with fail
      refine (walk_leaf wr D l _ _ HL.out hrel.out.1 hDr (HLD.out _ (.inl rfl)) (fun g hg => HLD.out g (.inr hg)) hhi (by omega)).mono ?_
      rintro e w1 ⟨v1, rfl, ho1, hb1⟩
      obtain ⟨x, hx⟩ : ∃ x, r.ss[j]? = some x := ⟨_, List.getElem?_eq_getElem (by rw [HN.out]; exact hlt')⟩
      obtain ⟨g, c, hvv, hgg, hcell⟩ := HH.out.row.cell (by rw [HN.out]; omega)
      have hgD : g < D := HOW.out g (.inr (.inl (by rw [hvv]; rfl)))
      have hbw : Below D w w1 := hrel.out.2.trans hb1
      have cx := hcell j x hx
      have x0 := (hbw.cell (p := ⟨g, j * 2, none⟩) hgD).trans cx.1
      have x1 := (hbw.cell (p := ⟨g, j * 2 + 1, none⟩) hgD).trans cx.2
      have f0 := (hbw.cell (p := ⟨r.b, 0, none⟩) hrD).trans c0
      have hax : aa = some ⟨g, 0, none⟩ := by
        have := HV.out.symm.trans hvv
        cases this
        rfl
      subst hax
      have hD1 : D ≤ w1.heap.size := Nat.le_trans hD hbw.size
      have HBW : Hid (Below D w w1) := hbw
      obtain ⟨oa1, oc1, hov1⟩ := own_form ho1
      have hlen1 : (ys ++ pre (r.ss.take j) ((r.ks.map Nd.xs).take j) ++ l.xs).length < 900 := by rw [List.length_append]; omega
      obtain ⟨L1, hL1⟩ : ∃ L1, (ys ++ pre (r.ss.take j) ((r.ks.map Nd.xs).take j) ++ l.xs).length = L1 := ⟨_, rfl⟩
      rw [hL1] at hov1 hlen1
      subst hov1
      have HOR : Hid ((w1.alloc (.cells #[.string (keyB x), .int .i64 (x : Int)] 57)).ownsRow D 57 2 (.slice oa1 L1 oc1) L1 (itemCells (ys ++ pre (r.ss.take j) ((r.ks.map Nd.xs).take j) ++ l.xs))) := by
        have := World.ownsRow.alloc ho1 (.cells #[.string (keyB x), .int .i64 (x : Int)] 57)
        rw [hL1] at this
        exact this
      have HL1 : Hid ((ys ++ pre (r.ss.take j) ((r.ks.map Nd.xs).take j) ++ l.xs).length = L1) := hL1
      have HX : Hid (r.ss[j]? = some x) := hx
      have hLm : L1 + 1 ≤ maxLen := by unfold maxLen; omega
      clear hx hvv hcell cx hL1 ho1 hb1 hbw hrel d0 d1 cj
      go_wp2_with (at_builtin; refine wpList_append_lies _ rfl _ _ 49 rfl D 57 i0 (.agg #[.string ⟨#[]⟩, .int .i64 0]) 2 24 Yba.underlying49 hi0 hz0 hz1 hz2 rfl (by decide) _ _ _ rfl HOR.out ⟨w1.heap.size, 0, none⟩ 1 1 [.string (keyB x), .int .i64 (x : Int)] rfl rfl ?c1 ?c2 (by decide) hLm ?c3 (by simp; omega) _ rfl ?_)
      case c1 => exact World.news_of_block (cs := #[.string (keyB x), .int .i64 (x : Int)]) (t := 57) (fr := (0, 0)) (heap_alloc_new w1 _)
      case c2 => intro u hu; simp at hu; rcases hu with rfl | rfl <;> rfl
      case c3 => omega
      intro g2 cap2 w2 hown2 hgrow2 hat2 hlt2
      have HO2 : Hid (Out w2 D (.slice (some ⟨g2, 0, none⟩) (L1 + 1) cap2) (ys ++ pre (r.ss.take (j + 1)) ((r.ks.map Nd.xs).take (j + 1))) ∧ Below D w w2) := by
        constructor
        · rw [pre_take r.ss (r.ks.map Nd.xs) j x l.xs HX.out (kx_get HLJ.out), ← List.append_assoc, ← List.append_assoc]
          refine Out.step (w := w2) (v := .slice none 0 0) ?_
          rw [HL1.out, List.append_assoc ys]
          exact hown2
        · exact (HBW.out.alloc hD1 _).grown hgrow2 (by simp; omega) (fun k hk => (HOR.out.lt k hk).1)
      clear hown2 hgrow2 hat2 hlt2 HOR x0 x1 f0
      go_wp2
      go_roundw
      case rel => exact ⟨j + 1, hlt', by go_num, HO2⟩
      case measure => simp [intOf]; omega
    · have hltI : ¬ (j : Int) < (N : Int) := by omega
      obtain rfl : j = N := by omega
      have hgt : (j : Int) < (j : Int) + 1 := by omega
      have hpl9 : (ys ++ pre (r.ss.take j) ((r.ks.map Nd.xs).take j)).length < 900 := Nat.lt_of_lt_of_le hpl (by decide)
      have HFIN : Hid (ys ++ flat r.ss (r.ks.map Nd.xs) = ys ++ pre (r.ss.take j) ((r.ks.map Nd.xs).take j) ++ l.xs) := by
        show _ = _
        have h1 := (last_split HG.out.len (l := l.xs) (by rw [HN.out]; exact kx_get HLJ.out)).2
        rw [h1, HN.out, List.append_assoc, show r.ss.take j = r.ss from List.take_of_length_le (by rw [HN.out]; exact Nat.le_refl _)]
      go_wp2_with fail
      go_quiet (fail)
      go_wp2_with fail
      have HW : Hid (LeafAt (wr.drewN nq) l ∧ Out (wr.drewN nq) D (.slice oa L oc) (ys ++ pre (r.ss.take j) ((r.ks.map Nd.xs).take j)) ∧ Below D w (wr.drewN nq) ∧ D ≤ (wr.drewN nq).heap.size) := ⟨⟨HL.out.node, HL.out.row⟩, hrel.out.1, below_drewN hrel.out.2 nq, hDr⟩
      have q0 : (wr.drewN nq).cell? ⟨r.b, 0, none⟩ = some (.slice aa j cc) := d0
      have q1 : (wr.drewN nq).cell? ⟨r.b, 1, none⟩ = some (.slice (some ⟨gu, 0, none⟩) (j + 1) cu) := d1
      have q2 : (wr.drewN nq).cell? ⟨gu, j, none⟩ = some (.pointer (some ⟨l.b, 0, none⟩)) := cj
      clear d0 d1 cj hrel HL hDr
      generalize wr.drewN nq = W2 at *
      go_region_held3 (fun w' => w'.cell? ⟨r.b, 0, none⟩ = some (.slice aa j cc) ∧ w'.cell? ⟨r.b, 1, none⟩ = some (.slice (some ⟨gu, 0, none⟩) (j + 1) cu) ∧ w'.cell? ⟨gu, j, none⟩ = some (.pointer (some ⟨l.b, 0, none⟩))) (first | go_keep | exact ⟨p0, p1, p2⟩) ((go_at_call 11; refine (walk_leaf _ D l (.slice oa L oc) (ys ++ pre (r.ss.take j) ((r.ks.map Nd.xs).take j)) ?_ ?_ ?_ ?_ ?_ hhi hpl9).mono ?_; exact ⟨HW.out.1.node, HW.out.1.row⟩; exact HW.out.2.1; exact HW.out.2.2.2; exact HLD.out _ (.inl rfl); exact (fun g hg => HLD.out g (.inr hg)); rintro e w3 ⟨v3, rfl, ho3, hb3⟩; have p0 := (hb3.cell (p := ⟨r.b, 0, none⟩) hrD).trans q0; have p1 := (hb3.cell (p := ⟨r.b, 1, none⟩) hrD).trans q1; have p2 := (hb3.cell (p := ⟨gu, j, none⟩) hguD).trans q2; have HO3 : Hid (Out w3 D v3 (ys ++ pre (r.ss.take j) ((r.ks.map Nd.xs).take j) ++ l.xs) ∧ Below D w w3) := ⟨ho3, HW.out.2.2.1.trans ⟨hb3.os, hb3.tape, hb3.output, hb3.size, hb3.block⟩⟩; clear ho3 hb3))
      go_wp2
      go_ret
      exact ⟨_, rfl, by rw [HFIN.out]; exact HO3.out.1, HO3.out.2⟩
end Go.Proofs.Ybulkira
