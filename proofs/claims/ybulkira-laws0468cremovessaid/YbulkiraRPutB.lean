import Derived.Test.YbulkiraRPutR
namespace Go.Proofs.Ybulkira
open Go.RowKit
set_option linter.unusedVariables false
attribute [local go_sem ↓] Go.wp_at_zero Go.wp_at_succ

theorem child_at (w : World) (B G : Nat) (r : Rt) (b i : Nat) (l : Nd) (hb : r.b = b) (h : RootAt w B G r) (hi : r.ks[i]? = some l) (hm : r.ks.length < 1000) (hx : l.xs.length < 1000) :
    Calls Yba.prog 19 #[.pointer (some ⟨b, 0, none⟩), .int .i64 (i : Int), .int .u64 (G : Int)] w fun e w' => ∃ l', e = .returned (.pointer (some ⟨l'.b, 0, none⟩)) ∧ l'.xs = l.xs ∧ l'.gen = G ∧ RootAt w' B G { r with ks := r.ks.set i l' } ∧ Below B w w' ∧ Foot w w' r { r with ks := r.ks.set i l' } := by
  subst hb
  exact child_any w B G r i l h hi hm hx

theorem set_mid {α : Type} (A C : List α) (a b c : α) : (A ++ a :: b :: C).set A.length c = A ++ c :: b :: C ∧ (A ++ a :: b :: C).set (A.length + 1) c = A ++ a :: c :: C := by
  constructor
  · rw [List.set_append_right _ _ (Nat.le_refl _), Nat.sub_self]; rfl
  · rw [List.set_append_right _ _ (by omega), show A.length + 1 - A.length = 1 by omega]; rfl

set_option maxHeartbeats 2000000 in
theorem put_root_up (w : World) (B G : Nat) (r : Rt) (x i : Nat) (l : Nd) (h : RootAt w B G r) (hx1 : x < 1000) (hi : lb r.ss x = i) (hl : r.ks[i]? = some l) (hm : r.ks.length < 900) (hs : r.ss.length < 900) (hss : Rising r.ss) (hxs : x ∉ r.ss)
    (hls : Rising l.xs) (hlx : x ∉ l.xs) (hln : l.xs.length = 63) (mm : Nat) (hmm : l.xs[31]? = some mm) (hxm : mm < x) :
    Calls Yba.prog 24 #[.pointer (some ⟨r.b, 0, none⟩), .agg #[.string (keyB x), .int .i64 (x : Int)], .int .u64 (G : Int)] w fun e w' => (∃ v, e = .returned v) ∧ Below B w w' ∧ ∃ r', Foot w w' r r' ∧ RootAt w' B G r' ∧ r'.b = r.b ∧ r'.ss = r.ss.take i ++ mm :: r.ss.drop i ∧ r'.ks.map Nd.xs = (r.ks.take i).map Nd.xs ++ l.xs.take 31 :: ins x (l.xs.drop 32) :: (r.ks.drop (i + 1)).map Nd.xs := by
  have HH : Hid (RootAt w B G r) := h
  have HS : Hid (Rising r.ss) := hss
  have HNOT : Hid (x ∉ r.ss) := hxs
  have HLB : Hid (lb r.ss x = i) := hi
  have HKL : Hid (r.ks[i]? = some l) := hl
  have HLS : Hid (Rising l.xs ∧ x ∉ l.xs) := ⟨hls, hlx⟩
  have hil : i < r.ks.length := (List.getElem?_eq_some_iff.1 hl).1
  have HMM : Hid (l.xs[31]? = some mm) := hmm
  have HSUB : Hid (Rising (l.xs.drop 32) ∧ x ∉ l.xs.drop 32) := ⟨⟨hls.less.sublist (List.drop_sublist _ _), fun y hy => hls.small y (List.mem_of_mem_drop hy)⟩, fun h => hlx (List.mem_of_mem_drop h)⟩
  have hmm1 : mm < 1000 := hls.small mm (List.mem_of_getElem? hmm)
  clear h hss hxs hi hl hls hlx hmm
  go_enter Yba.func24, Yba.ntmps24
  go_wp2_with fail
  obtain ⟨W0, hW0⟩ : ∃ W0, W0 = w.alloc (.cells #[.string (keyB x), .int .i64 (x : Int)] 57) := ⟨_, rfl⟩
  have HB0 : Hid (Below w.heap.size w W0) := by rw [hW0]; exact (Below.refl _ _).alloc (Nat.le_refl _) _
  have b0 : W0.cell? ⟨w.heap.size, 0, none⟩ = some (.string (keyB x)) := by rw [hW0, cell_new]; rfl
  have b1 : W0.cell? ⟨w.heap.size, 1, none⟩ = some (.int .i64 (x : Int)) := by rw [hW0, cell_new]; rfl
  have hs0 : w.heap.size < W0.heap.size := by rw [hW0]; simp
  rw [← hW0]
  clear hW0
  have HR0 : Hid (RootAt W0 B G r) := root_below HH.out HB0.out
  refine (search16 r.b r.v r.ss x true (keyB x) W0 (heap_node HR0.out.node).1 (keyIs_key x hx1) HS.out.small HS.out.less (by omega) HR0.out.row).mono ?_
  rintro e W1 ⟨rfl, hb1⟩
  have HP : Hid (PutAt w W1 B G r x w.heap.size) := ⟨root_below HR0.out hb1, HB0.out.trans (hb1.mono (by omega)), (hb1.cell (p := ⟨w.heap.size, 0, none⟩) hs0).trans b0, (hb1.cell (p := ⟨w.heap.size, 1, none⟩) hs0).trans b1, Nat.lt_of_lt_of_le hs0 hb1.size, fun hk => Nat.lt_irrefl _ (HH.out.own_lt hk)⟩
  rw [HLB.out]
  clear hb1 b0 b1 HR0 HB0 hs0
  obtain ⟨D, hD⟩ : ∃ D, D = w.heap.size := ⟨_, rfl⟩
  rw [← hD] at HP ⊢
  clear hD
  obtain ⟨d0, d1, _, e0, _, hlt1⟩ := heap_node HP.out.root.node
  have b2 := HP.out.c0
  have b3 := HP.out.c1
  have hle := lb_le r.ss x
  rw [HLB.out] at hle
  have HNX : Hid (r.ss[i]? ≠ some x) := fun e => HNOT.out (List.mem_of_getElem? e)
  obtain ⟨aa, cc, hv⟩ := own_form HP.out.root.row
  obtain ⟨gu, cu, hu, hgu, hcell, _⟩ := HP.out.root.kids.cell (by simp; omega)
  have eu := hcell i l.b (by simp [HKL.out])
  have HLL : Hid (LeafAt W1 l) := HP.out.root.leaf l (List.mem_of_getElem? HKL.out)
  obtain ⟨lc0, _, _, _, _, _⟩ := heap_node HLL.out.node
  obtain ⟨la, lc, hlv⟩ := own_form HLL.out.row
  rw [hlv] at lc0
  rw [hv] at d0
  rw [hu, List.length_map] at d1
  obtain ⟨N, hN⟩ : ∃ N, r.ss.length = N := ⟨_, rfl⟩
  obtain ⟨M, hM⟩ : ∃ M, r.ks.length = M := ⟨_, rfl⟩
  obtain ⟨Q, hQ⟩ : ∃ Q, l.xs.length = Q := ⟨_, rfl⟩
  rw [hN] at d0 hle hs
  rw [hM] at d1 hil hm
  rw [hQ] at lc0 hln
  have HN : Hid (r.ss.length = N) := hN
  have HM : Hid (r.ks.length = M) := hM
  have HQ : Hid (l.xs.length = Q) := hQ
  have HV : Hid (r.v = .slice aa r.ss.length cc) := hv
  have kq : ∀ w : World, (binOp .eql 53 (.slice (some ⟨gu, 0, none⟩) M cu) (.slice none 0 0)).run Yba.prog w = .ok (.bool false) w := fun w => by kernel_rfl
  have hil' : (i : Int) < (M : Int) := by omega
  have hq63 : ((Q : Int) = 63) := by omega
  clear hv hu hcell hlv hN hM hQ
  go_wp2_with fail
  by_cases h0 : i < N
  · obtain ⟨y, hy⟩ : ∃ y, r.ss[i]? = some y := ⟨_, List.getElem?_eq_getElem (by rw [HN.out]; exact h0)⟩
    have hyx : y ≠ x := fun e => HNX.out (by rw [hy, e])
    obtain ⟨g, c, hvv, hg, hcell⟩ := HP.out.root.row.cell (by have := HN.out; omega)
    have cy := (hcell _ y hy).1
    have hys := (keyIs_key x hx1).same y (HS.out.small y (List.mem_of_getElem? hy))
    rw [← keyB_toList] at hys
    have hdx : decide (y = x) = false := by simp [hyx]
    rw [hdx] at hys
    simp only [Bool.and_false] at hys
    have hgg : aa = some ⟨g, 0, none⟩ := by
      have := HV.out.symm.trans hvv
      cases this
      rfl
    subst hgg
    have h0' : (i : Int) < (N : Int) := by omega
    clear hcell hvv hy hdx
    go_quiet (fail)
    go_wp2_with fail
    have HP2 : Hid (PutAt w (W1.drewN nq) B G r x D) := ⟨root_below HP.out.root (below_drewN (Below.refl _ _) nq), below_drewN HP.out.below nq, HP.out.c0, HP.out.c1, HP.out.lt, HP.out.new⟩
    clear d0 d1 e0 hlt1 b2 b3 eu lc0 kq HP HLL cy hys
    generalize W1.drewN nq = W2 at *
    refine (split_any W2 B G r i l mm HP2.out.root HKL.out (by have := HM.out; omega) (by have := HN.out; omega) (by have := HN.out; omega) (by have := HQ.out; omega) HMM.out).mono ?_
    rintro e w3 ⟨⟨v3, rfl⟩, hB3, r1, hF3, hR3, hb3, hss3, hks3⟩
    have HB3 : Hid (Below B W2 w3) := hB3
    have HF3 : Hid (Foot W2 w3 r r1) := hF3
    have HR3 : Hid (RootAt w3 B G r1) := hR3
    have HE3 : Hid (r1.b = r.b ∧ r1.ss = r.ss.take i ++ mm :: r.ss.drop i ∧ r1.ks.map Nd.xs = (r.ks.take i).map Nd.xs ++ l.xs.take 31 :: l.xs.drop 32 :: (r.ks.drop (i + 1)).map Nd.xs) := ⟨hb3, hss3, hks3⟩
    have b2 : w3.cell? ⟨D, 0, none⟩ = some (.string (keyB x)) := (World.cell?_of_block (a := ⟨D, 0, none⟩) (hF3.chg.block D HP2.out.lt HP2.out.new)).trans HP2.out.c0
    have b3 : w3.cell? ⟨D, 1, none⟩ = some (.int .i64 (x : Int)) := (World.cell?_of_block (a := ⟨D, 1, none⟩) (hF3.chg.block D HP2.out.lt HP2.out.new)).trans HP2.out.c1
    have HD1 : Hid (¬ r1.own D) := fun hk => (hF3.own D hk).elim HP2.out.new (fun h => by have := HP2.out.lt; omega)
    have hDlt : D < w3.heap.size := Nat.lt_of_lt_of_le HP2.out.lt hB3.size
    have hmi : r1.ss[i]? = some mm := by
      rw [hss3, List.getElem?_append_right (by rw [List.length_take]; omega), List.length_take, Nat.min_eq_left (by have := HN.out; omega), Nat.sub_self]
      rfl
    have hls1 : r1.ss.length = N + 1 := by rw [hss3]; have := HN.out; simp; omega
    obtain ⟨g1, c1, hv1, hg1, hcell1⟩ := hR3.row.cell (by omega)
    have cm := (hcell1 i mm hmi).1
    obtain ⟨d0, _⟩ := heap_node hR3.node
    rw [hv1, hls1, hb3] at d0
    have hil1 : (i : Int) < (N : Int) + 1 := by omega
    have keq : ((keyB x).toList == (keyB mm).toList) = false := by
      rw [keyB_toList, keyB_toList, key_eq x mm hx1 hmm1]
      simp; omega
    have kls : Op.bytesLess (keyB x).toList (keyB mm).toList = false := by
      rw [keyB_toList, keyB_toList, key_less x mm hx1 hmm1]
      simp; omega
    have hk1 : r1.ks.length = M + 1 := by
      have h1 : (r1.ks.map Nd.xs).length = M + 1 := by rw [hks3]; have := HM.out; simp; omega
      simpa using h1
    obtain ⟨l1, hl1⟩ : ∃ l1, r1.ks[i + 1]? = some l1 := ⟨_, List.getElem?_eq_getElem (by omega)⟩
    have HL1 : Hid (r1.ks[i + 1]? = some l1) := hl1
    have HLX : Hid (l1.xs = l.xs.drop 32) := by
      have h1 : (r1.ks.map Nd.xs)[i + 1]? = some l1.xs := by rw [List.getElem?_map, hl1]; rfl
      rw [hks3, List.getElem?_append_right (by rw [List.length_map, List.length_take]; omega), List.length_map, List.length_take, Nat.min_eq_left (by have := HM.out; omega)] at h1
      rw [show i + 1 - i = 1 by omega] at h1
      exact (Option.some.inj h1).symm
    have HKN : Hid (r1.ks.length = M + 1) := hk1
    clear hB3 hF3 hR3 hb3 hss3 hks3 hmi hls1 hv1 hcell1 hk1 hl1
    obtain ⟨j, hj⟩ : ∃ j : Nat, j = i + 1 := ⟨_, rfl⟩
    have hji : (i : Int) + 1 = (j : Int) := by omega
    have HJ : Hid (j = i + 1) := hj
    clear hj
    go_wp2_with fail
    go_quiet (fail)
    generalize nq = q1 at *
    go_upto_region 13 with fail
    go_quiet (fail)
    go_upto_region 15 with fail
    have HR5 : Hid (RootAt (w3.drewN (q1 + nq)) B G r1) := root_below HR3.out (below_drewN (Below.refl _ _) _)
    have HW5 : Hid (Below w3.heap.size w3 (w3.drewN (q1 + nq))) := below_drewN (Below.refl _ _) _
    have p2 : (w3.drewN (q1 + nq)).cell? ⟨D, 0, none⟩ = some (.string (keyB x)) := b2
    have p3 : (w3.drewN (q1 + nq)).cell? ⟨D, 1, none⟩ = some (.int .i64 (x : Int)) := b3
    have hDlt5 : D < (w3.drewN (q1 + nq)).heap.size := hDlt
    clear b2 b3 cm d0 hDlt
    generalize w3.drewN (q1 + nq) = W5 at *
    go_region_with (first
      | (go_at_call 19; go_loud (refine (child_at _ B G r1 r.b j l1 HE3.out.1 (by first | exact HR5.out | exact HR5.out.drew') (by rw [HJ.out]; exact HL1.out) (by have := HKN.out; omega) (by rw [HLX.out]; have := HQ.out; simp; omega)).mono ?_; rintro e w5 ⟨l', rfl, hxs5, hgen5, hR5, hB5, hF5⟩; have p0 := (World.cell?_of_block (a := ⟨D, 0, none⟩) (hF5.chg.block D hDlt5 HD1.out)).trans p2; have p1 := (World.cell?_of_block (a := ⟨D, 1, none⟩) (hF5.chg.block D hDlt5 HD1.out)).trans p3; have HR6 : Hid (RootAt w5 B G { r1 with ks := r1.ks.set j l' }) := hR5; have HB6 : Hid (Below B W5 w5) := ⟨hB5.os, hB5.tape, hB5.output, hB5.size, hB5.block⟩; have HF6 : Hid (Foot W5 w5 r1 { r1 with ks := r1.ks.set j l' }) := ⟨⟨hF5.chg.os, hF5.chg.tape, hF5.chg.output, hF5.chg.size, hF5.chg.block⟩, hF5.own⟩; have HX6 : Hid (l'.xs = l.xs.drop 32 ∧ l'.gen = G) := ⟨hxs5.trans HLX.out, hgen5⟩; have HL6 : Hid (LeafAt w5 l') := hR5.leaf l' (List.mem_of_getElem? (i := j) (List.getElem?_set_self (by have := HKN.out; omega))); clear hxs5 hgen5 hR5 hB5 hF5))
      | (go_at_call 24; go_loud (refine (put_leaf l' x G _ (by exact ⟨HL6.out.node, HL6.out.row⟩) hx1 (by rw [HX6.out.1]; exact HSUB.out.2) (by rw [HX6.out.1]; exact HSUB.out.1.small) (by rw [HX6.out.1]; exact HSUB.out.1.less) (by rw [HX6.out.1]; have := HQ.out; simp; omega)).mono ?_; rintro e w6 ⟨⟨v6, rfl⟩, l6, hx6, hu6⟩; have HU6 : Hid (l6.xs = ins x (l.xs.drop 32) ∧ LeafUpd w5 w6 l' l6) := ⟨by rw [hx6, HX6.out.1]; rfl, ⟨⟨hu6.leaf.node, hu6.leaf.row⟩, hu6.b, hu6.gen, hu6.lies, ⟨hu6.chg.os, hu6.chg.tape, hu6.chg.output, hu6.chg.size, hu6.chg.block⟩⟩⟩; clear hx6 hu6)))
    all_goals
      go_wp2
      go_ret
      refine ⟨⟨_, rfl⟩, ?_⟩
      obtain ⟨hb6, r', hf6, hr6, e1, e2, e3⟩ := put_end HR3.out.base HW5.out HF6.out HR6.out HB6.out HX6.out.2 (by have := HKN.out; omega) HU6.out.2 HU6.out.1 (by simp [ins]; omega)
      refine ⟨((HP2.out.below.mono HH.out.base).trans HB3.out).trans hb6, r', ((Foot.of_below r HP2.out.below).trans HF3.out).trans hf6, hr6, e1.trans HE3.out.1, e2.trans HE3.out.2.1, ?_⟩
      rw [e3, HE3.out.2.2]
      have hlen : ((r.ks.take i).map Nd.xs).length = i := by rw [List.length_map, List.length_take, Nat.min_eq_left (by have := HM.out; omega)]
      rw [HJ.out]
      have := (set_mid ((r.ks.take i).map Nd.xs) ((r.ks.drop (i + 1)).map Nd.xs) (l.xs.take 31) (l.xs.drop 32) (ins x (l.xs.drop 32))).2
      rw [hlen] at this
      exact this
  · have hie : ¬ ((i : Int) < (N : Int)) := by omega
    go_quiet (fail)
    go_wp2_with fail
    have HP2 : Hid (PutAt w (W1.drewN nq) B G r x D) := ⟨root_below HP.out.root (below_drewN (Below.refl _ _) nq), below_drewN HP.out.below nq, HP.out.c0, HP.out.c1, HP.out.lt, HP.out.new⟩
    clear d0 d1 e0 hlt1 b2 b3 eu lc0 kq HP HLL
    generalize W1.drewN nq = W2 at *
    refine (split_any W2 B G r i l mm HP2.out.root HKL.out (by have := HM.out; omega) (by have := HN.out; omega) (by have := HN.out; omega) (by have := HQ.out; omega) HMM.out).mono ?_
    rintro e w3 ⟨⟨v3, rfl⟩, hB3, r1, hF3, hR3, hb3, hss3, hks3⟩
    have HB3 : Hid (Below B W2 w3) := hB3
    have HF3 : Hid (Foot W2 w3 r r1) := hF3
    have HR3 : Hid (RootAt w3 B G r1) := hR3
    have HE3 : Hid (r1.b = r.b ∧ r1.ss = r.ss.take i ++ mm :: r.ss.drop i ∧ r1.ks.map Nd.xs = (r.ks.take i).map Nd.xs ++ l.xs.take 31 :: l.xs.drop 32 :: (r.ks.drop (i + 1)).map Nd.xs) := ⟨hb3, hss3, hks3⟩
    have b2 : w3.cell? ⟨D, 0, none⟩ = some (.string (keyB x)) := (World.cell?_of_block (a := ⟨D, 0, none⟩) (hF3.chg.block D HP2.out.lt HP2.out.new)).trans HP2.out.c0
    have b3 : w3.cell? ⟨D, 1, none⟩ = some (.int .i64 (x : Int)) := (World.cell?_of_block (a := ⟨D, 1, none⟩) (hF3.chg.block D HP2.out.lt HP2.out.new)).trans HP2.out.c1
    have HD1 : Hid (¬ r1.own D) := fun hk => (hF3.own D hk).elim HP2.out.new (fun h => by have := HP2.out.lt; omega)
    have hDlt : D < w3.heap.size := Nat.lt_of_lt_of_le HP2.out.lt hB3.size
    have hmi : r1.ss[i]? = some mm := by
      rw [hss3, List.getElem?_append_right (by rw [List.length_take]; omega), List.length_take, Nat.min_eq_left (by have := HN.out; omega), Nat.sub_self]
      rfl
    have hls1 : r1.ss.length = N + 1 := by rw [hss3]; have := HN.out; simp; omega
    obtain ⟨g1, c1, hv1, hg1, hcell1⟩ := hR3.row.cell (by omega)
    have cm := (hcell1 i mm hmi).1
    obtain ⟨d0, _⟩ := heap_node hR3.node
    rw [hv1, hls1, hb3] at d0
    have hil1 : (i : Int) < (N : Int) + 1 := by omega
    have keq : ((keyB x).toList == (keyB mm).toList) = false := by
      rw [keyB_toList, keyB_toList, key_eq x mm hx1 hmm1]
      simp; omega
    have kls : Op.bytesLess (keyB x).toList (keyB mm).toList = false := by
      rw [keyB_toList, keyB_toList, key_less x mm hx1 hmm1]
      simp; omega
    have hk1 : r1.ks.length = M + 1 := by
      have h1 : (r1.ks.map Nd.xs).length = M + 1 := by rw [hks3]; have := HM.out; simp; omega
      simpa using h1
    obtain ⟨l1, hl1⟩ : ∃ l1, r1.ks[i + 1]? = some l1 := ⟨_, List.getElem?_eq_getElem (by omega)⟩
    have HL1 : Hid (r1.ks[i + 1]? = some l1) := hl1
    have HLX : Hid (l1.xs = l.xs.drop 32) := by
      have h1 : (r1.ks.map Nd.xs)[i + 1]? = some l1.xs := by rw [List.getElem?_map, hl1]; rfl
      rw [hks3, List.getElem?_append_right (by rw [List.length_map, List.length_take]; omega), List.length_map, List.length_take, Nat.min_eq_left (by have := HM.out; omega)] at h1
      rw [show i + 1 - i = 1 by omega] at h1
      exact (Option.some.inj h1).symm
    have HKN : Hid (r1.ks.length = M + 1) := hk1
    clear hB3 hF3 hR3 hb3 hss3 hks3 hmi hls1 hv1 hcell1 hk1 hl1
    obtain ⟨j, hj⟩ : ∃ j : Nat, j = i + 1 := ⟨_, rfl⟩
    have hji : (i : Int) + 1 = (j : Int) := by omega
    have HJ : Hid (j = i + 1) := hj
    clear hj
    go_wp2_with fail
    go_quiet (fail)
    generalize nq = q1 at *
    go_upto_region 13 with fail
    go_quiet (fail)
    go_upto_region 15 with fail
    have HR5 : Hid (RootAt (w3.drewN (q1 + nq)) B G r1) := root_below HR3.out (below_drewN (Below.refl _ _) _)
    have HW5 : Hid (Below w3.heap.size w3 (w3.drewN (q1 + nq))) := below_drewN (Below.refl _ _) _
    have p2 : (w3.drewN (q1 + nq)).cell? ⟨D, 0, none⟩ = some (.string (keyB x)) := b2
    have p3 : (w3.drewN (q1 + nq)).cell? ⟨D, 1, none⟩ = some (.int .i64 (x : Int)) := b3
    have hDlt5 : D < (w3.drewN (q1 + nq)).heap.size := hDlt
    clear b2 b3 cm d0 hDlt
    generalize w3.drewN (q1 + nq) = W5 at *
    go_region_with (first
      | (go_at_call 19; go_loud (refine (child_at _ B G r1 r.b j l1 HE3.out.1 (by first | exact HR5.out | exact HR5.out.drew') (by rw [HJ.out]; exact HL1.out) (by have := HKN.out; omega) (by rw [HLX.out]; have := HQ.out; simp; omega)).mono ?_; rintro e w5 ⟨l', rfl, hxs5, hgen5, hR5, hB5, hF5⟩; have p0 := (World.cell?_of_block (a := ⟨D, 0, none⟩) (hF5.chg.block D hDlt5 HD1.out)).trans p2; have p1 := (World.cell?_of_block (a := ⟨D, 1, none⟩) (hF5.chg.block D hDlt5 HD1.out)).trans p3; have HR6 : Hid (RootAt w5 B G { r1 with ks := r1.ks.set j l' }) := hR5; have HB6 : Hid (Below B W5 w5) := ⟨hB5.os, hB5.tape, hB5.output, hB5.size, hB5.block⟩; have HF6 : Hid (Foot W5 w5 r1 { r1 with ks := r1.ks.set j l' }) := ⟨⟨hF5.chg.os, hF5.chg.tape, hF5.chg.output, hF5.chg.size, hF5.chg.block⟩, hF5.own⟩; have HX6 : Hid (l'.xs = l.xs.drop 32 ∧ l'.gen = G) := ⟨hxs5.trans HLX.out, hgen5⟩; have HL6 : Hid (LeafAt w5 l') := hR5.leaf l' (List.mem_of_getElem? (i := j) (List.getElem?_set_self (by have := HKN.out; omega))); clear hxs5 hgen5 hR5 hB5 hF5))
      | (go_at_call 24; go_loud (refine (put_leaf l' x G _ (by exact ⟨HL6.out.node, HL6.out.row⟩) hx1 (by rw [HX6.out.1]; exact HSUB.out.2) (by rw [HX6.out.1]; exact HSUB.out.1.small) (by rw [HX6.out.1]; exact HSUB.out.1.less) (by rw [HX6.out.1]; have := HQ.out; simp; omega)).mono ?_; rintro e w6 ⟨⟨v6, rfl⟩, l6, hx6, hu6⟩; have HU6 : Hid (l6.xs = ins x (l.xs.drop 32) ∧ LeafUpd w5 w6 l' l6) := ⟨by rw [hx6, HX6.out.1]; rfl, ⟨⟨hu6.leaf.node, hu6.leaf.row⟩, hu6.b, hu6.gen, hu6.lies, ⟨hu6.chg.os, hu6.chg.tape, hu6.chg.output, hu6.chg.size, hu6.chg.block⟩⟩⟩; clear hx6 hu6)))
    all_goals
      go_wp2
      go_ret
      refine ⟨⟨_, rfl⟩, ?_⟩
      obtain ⟨hb6, r', hf6, hr6, e1, e2, e3⟩ := put_end HR3.out.base HW5.out HF6.out HR6.out HB6.out HX6.out.2 (by have := HKN.out; omega) HU6.out.2 HU6.out.1 (by simp [ins]; omega)
      refine ⟨((HP2.out.below.mono HH.out.base).trans HB3.out).trans hb6, r', ((Foot.of_below r HP2.out.below).trans HF3.out).trans hf6, hr6, e1.trans HE3.out.1, e2.trans HE3.out.2.1, ?_⟩
      rw [e3, HE3.out.2.2]
      have hlen : ((r.ks.take i).map Nd.xs).length = i := by rw [List.length_map, List.length_take, Nat.min_eq_left (by have := HM.out; omega)]
      rw [HJ.out]
      have := (set_mid ((r.ks.take i).map Nd.xs) ((r.ks.drop (i + 1)).map Nd.xs) (l.xs.take 31) (l.xs.drop 32) (ins x (l.xs.drop 32))).2
      rw [hlen] at this
      exact this
end Go.Proofs.Ybulkira
