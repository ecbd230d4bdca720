import Derived.Test.YbulkiraRSplit
namespace Go.Proofs.Ybulkira
open Go.RowKit
set_option linter.unusedVariables false
attribute [local go_sem ↓] Go.wp_at_zero Go.wp_at_succ

/-- x set into a rising row -/
def ins (x : Nat) (xs : List Nat) : List Nat := xs.take (lb xs x) ++ x :: xs.drop (lb xs x)

/-- rows as a tree holds them -/
structure Rising (xs : List Nat) : Prop where
  less : xs.Pairwise (· < ·)
  small : ∀ x ∈ xs, x < 1000

theorem root_below {w w' : World} {B G : Nat} {r : Rt} (h : RootAt w B G r) (hb : Below w.heap.size w w') : RootAt w' B G r := by
  have hc := Chg.of_below hb
  exact ⟨(hb.block r.b h.lt).trans h.node, own_kept h.row hc (fun _ _ h => h), own_kept h.kids hc (fun _ _ h => h), fun l hl => leaf_below (h.leaf l hl) hb, h.full, h.nb, h.nv, h.nr, Nat.le_trans h.base hb.size, h.hb, h.hv, h.hu, h.hk, h.gens⟩

/-- the root as put has searched it, and the item's own box -/
structure PutAt (w W : World) (B G : Nat) (r : Rt) (x D : Nat) : Prop where
  root : RootAt W B G r
  below : Below w.heap.size w W
  c0 : W.cell? ⟨D, 0, none⟩ = some (.string (keyB x))
  c1 : W.cell? ⟨D, 1, none⟩ = some (.int .i64 (x : Int))
  lt : D < W.heap.size
  new : ¬ r.own D

theorem put_end {w W2 w5 w6 : World} {B G : Nat} {r : Rt} {i : Nat} {l' l2 : Nd} {ys : List Nat} (hB : B ≤ w.heap.size) (hbel : Below w.heap.size w W2) (hF5 : Foot W2 w5 r { r with ks := r.ks.set i l' }) (hR5 : RootAt w5 B G { r with ks := r.ks.set i l' })
    (hB5 : Below B W2 w5) (hgen : l'.gen = G) (hil : i < r.ks.length) (hu : LeafUpd w5 w6 l' l2) (hx : l2.xs = ys) (h0 : 0 < ys.length) :
    Below B w w6 ∧ ∃ r', Foot w w6 r r' ∧ RootAt w6 B G r' ∧ r'.b = r.b ∧ r'.ss = r.ss ∧ r'.ks.map Nd.xs = (r.ks.map Nd.xs).set i ys := by
  have hi1 : (r.ks.set i l')[i]? = some l' := List.getElem?_set_self hil
  have h1 := hR5.setKid (i := i) (l := l') hi1 hu hgen (by rw [hx]; exact h0)
  have h2 := foot_setKid (r := { r with ks := r.ks.set i l' }) hi1 hu
  simp only [List.set_set] at h1 h2
  refine ⟨(hbel.mono hB).trans (hB5.trans h1.2), _, ((Foot.of_below r hbel).trans hF5).trans h2, h1.1, rfl, rfl, ?_⟩
  show (r.ks.set i l2).map Nd.xs = _
  rw [List.map_set, hx]

set_option maxHeartbeats 2000000 in
theorem put_root_a (w : World) (B G : Nat) (r : Rt) (x i : Nat) (l : Nd) (h : RootAt w B G r) (hx1 : x < 1000) (hi : lb r.ss x = i) (hl : r.ks[i]? = some l) (hm : r.ks.length < 900) (hs : r.ss.length < 900) (hss : Rising r.ss) (hxs : x ∉ r.ss)
    (hls : Rising l.xs) (hlx : x ∉ l.xs) (hln : l.xs.length < 63) :
    Calls Yba.prog 24 #[.pointer (some ⟨r.b, 0, none⟩), .agg #[.string (keyB x), .int .i64 (x : Int)], .int .u64 (G : Int)] w fun e w' => (∃ v, e = .returned v) ∧ Below B w w' ∧ ∃ r', Foot w w' r r' ∧ RootAt w' B G r' ∧ r'.b = r.b ∧ r'.ss = r.ss ∧ r'.ks.map Nd.xs = (r.ks.map Nd.xs).set i (ins x l.xs) := by
  have HH : Hid (RootAt w B G r) := h
  have HS : Hid (Rising r.ss) := hss
  have HNOT : Hid (x ∉ r.ss) := hxs
  have HLB : Hid (lb r.ss x = i) := hi
  have HKL : Hid (r.ks[i]? = some l) := hl
  have HLS : Hid (Rising l.xs ∧ x ∉ l.xs) := ⟨hls, hlx⟩
  have hil : i < r.ks.length := (List.getElem?_eq_some_iff.1 hl).1
  clear h hss hxs hi hl hls hlx
  go_enter Yba.func24, Yba.ntmps24
  go_wp2_with fail
  obtain ⟨W0, hW0⟩ : ∃ W0, W0 = w.alloc (.cells #[.string (keyB x), .int .i64 (x : Int)] 57) := ⟨_, rfl⟩
  have HB0 : Hid (Below w.heap.size w W0) := by rw [hW0]; exact (Below.refl _ _).alloc (Nat.le_refl _) _
  have b0 : W0.cell? ⟨w.heap.size, 0, none⟩ = some (.string (keyB x)) := by rw [hW0, cell_new]; rfl
  have b1 : W0.cell? ⟨w.heap.size, 1, none⟩ = some (.int .i64 (x : Int)) := by rw [hW0, cell_new]; rfl
  have hs0 : w.heap.size < W0.heap.size := by rw [hW0]; simp
  rw [← hW0]
  clear hW0
  have HR0 : Hid (RootAt W0 B G r) := root_below HH.out HB0.out
  refine (search16 r.b r.v r.ss x true (keyB x) W0 (heap_node HR0.out.node).1 (keyIs_key x hx1) HS.out.small HS.out.less (by omega) HR0.out.row).mono ?_
  rintro e W1 ⟨rfl, hb1⟩
  have HP : Hid (PutAt w W1 B G r x w.heap.size) := ⟨root_below HR0.out hb1, HB0.out.trans (hb1.mono (by omega)), (hb1.cell (p := ⟨w.heap.size, 0, none⟩) hs0).trans b0, (hb1.cell (p := ⟨w.heap.size, 1, none⟩) hs0).trans b1, Nat.lt_of_lt_of_le hs0 hb1.size, fun hk => Nat.lt_irrefl _ (HH.out.own_lt hk)⟩
  rw [HLB.out]
  clear hb1 b0 b1 HR0 HB0 hs0
  obtain ⟨D, hD⟩ : ∃ D, D = w.heap.size := ⟨_, rfl⟩
  rw [← hD] at HP ⊢
  clear hD
  obtain ⟨d0, d1, _, e0, _, hlt1⟩ := heap_node HP.out.root.node
  have b2 := HP.out.c0
  have b3 := HP.out.c1
  have hle := lb_le r.ss x
  rw [HLB.out] at hle
  have HNX : Hid (r.ss[i]? ≠ some x) := fun e => HNOT.out (List.mem_of_getElem? e)
  obtain ⟨aa, cc, hv⟩ := own_form HP.out.root.row
  obtain ⟨gu, cu, hu, hgu, hcell, _⟩ := HP.out.root.kids.cell (by simp; omega)
  have eu := hcell i l.b (by simp [HKL.out])
  have HLL : Hid (LeafAt W1 l) := HP.out.root.leaf l (List.mem_of_getElem? HKL.out)
  obtain ⟨lc0, _, _, _, _, _⟩ := heap_node HLL.out.node
  obtain ⟨la, lc, hlv⟩ := own_form HLL.out.row
  rw [hlv] at lc0
  rw [hv] at d0
  rw [hu, List.length_map] at d1
  obtain ⟨N, hN⟩ : ∃ N, r.ss.length = N := ⟨_, rfl⟩
  obtain ⟨M, hM⟩ : ∃ M, r.ks.length = M := ⟨_, rfl⟩
  obtain ⟨Q, hQ⟩ : ∃ Q, l.xs.length = Q := ⟨_, rfl⟩
  rw [hN] at d0 hle hs
  rw [hM] at d1 hil hm
  rw [hQ] at lc0 hln
  have HN : Hid (r.ss.length = N) := hN
  have HM : Hid (r.ks.length = M) := hM
  have HQ : Hid (l.xs.length = Q) := hQ
  have HV : Hid (r.v = .slice aa r.ss.length cc) := hv
  have kq : ∀ w : World, (binOp .eql 53 (.slice (some ⟨gu, 0, none⟩) M cu) (.slice none 0 0)).run Yba.prog w = .ok (.bool false) w := fun w => by kernel_rfl
  have hil' : (i : Int) < (M : Int) := by omega
  have hq63 : ¬ ((Q : Int) = 63) := by omega
  clear hv hu hcell hlv hN hM hQ
  go_wp2_with fail
  by_cases h0 : i < N
  · obtain ⟨y, hy⟩ : ∃ y, r.ss[i]? = some y := ⟨_, List.getElem?_eq_getElem (by rw [HN.out]; exact h0)⟩
    have hyx : y ≠ x := fun e => HNX.out (by rw [hy, e])
    obtain ⟨g, c, hvv, hg, hcell⟩ := HP.out.root.row.cell (by have := HN.out; omega)
    have cy := (hcell _ y hy).1
    have hys := (keyIs_key x hx1).same y (HS.out.small y (List.mem_of_getElem? hy))
    rw [← keyB_toList] at hys
    have hdx : decide (y = x) = false := by simp [hyx]
    rw [hdx] at hys
    simp only [Bool.and_false] at hys
    have hgg : aa = some ⟨g, 0, none⟩ := by
      have := HV.out.symm.trans hvv
      cases this
      rfl
    subst hgg
    have h0' : (i : Int) < (N : Int) := by omega
    clear hcell hvv hy hdx
    go_quiet (fail)
    go_wp2
    have HP2 : Hid (PutAt w (W1.drewN nq) B G r x D) := ⟨root_below HP.out.root (below_drewN (Below.refl _ _) nq), below_drewN HP.out.below nq, HP.out.c0, HP.out.c1, HP.out.lt, HP.out.new⟩
    clear d0 d1 e0 hlt1 b2 b3 eu lc0 kq HP HLL cy hys
    generalize W1.drewN nq = W2 at *
    have b2 := HP2.out.c0
    have b3 := HP2.out.c1
    have hDlt := HP2.out.lt
    go_region_with (first
      | (go_at_call 19; go_loud (refine (child_any _ B G r i l (by first | exact HP2.out.root | exact HP2.out.root.drew') HKL.out (by have := HM.out; omega) (by have := HQ.out; omega)).mono ?_; rintro e w5 ⟨l', rfl, hxs5, hgen5, hR5, hB5, hF5⟩; have p0 := (World.cell?_of_block (a := ⟨D, 0, none⟩) (hF5.chg.block D hDlt HP2.out.new)).trans b2; have p1 := (World.cell?_of_block (a := ⟨D, 1, none⟩) (hF5.chg.block D hDlt HP2.out.new)).trans b3; have HR5 : Hid (RootAt w5 B G { r with ks := r.ks.set i l' }) := hR5; have HB5 : Hid (Below B W2 w5) := ⟨hB5.os, hB5.tape, hB5.output, hB5.size, hB5.block⟩; have HF5 : Hid (Foot W2 w5 r { r with ks := r.ks.set i l' }) := ⟨⟨hF5.chg.os, hF5.chg.tape, hF5.chg.output, hF5.chg.size, hF5.chg.block⟩, hF5.own⟩; have HX5 : Hid (l'.xs = l.xs ∧ l'.gen = G) := ⟨hxs5, hgen5⟩; have HL5 : Hid (LeafAt w5 l') := hR5.leaf l' (List.mem_of_getElem? (i := i) (List.getElem?_set_self (by have := HM.out; omega))); clear hxs5 hgen5 hR5 hB5 hF5))
      | (go_at_call 24; go_loud (refine (put_leaf l' x G _ (by exact ⟨HL5.out.node, HL5.out.row⟩) hx1 (by rw [HX5.out.1]; exact HLS.out.2) (by rw [HX5.out.1]; exact HLS.out.1.small) (by rw [HX5.out.1]; exact HLS.out.1.less) (by rw [HX5.out.1]; have := HQ.out; omega)).mono ?_; rintro e w6 ⟨⟨v6, rfl⟩, l6, hx6, hu6⟩; have HU6 : Hid (l6.xs = ins x l.xs ∧ LeafUpd w5 w6 l' l6) := ⟨by rw [hx6, HX5.out.1]; rfl, ⟨⟨hu6.leaf.node, hu6.leaf.row⟩, hu6.b, hu6.gen, hu6.lies, ⟨hu6.chg.os, hu6.chg.tape, hu6.chg.output, hu6.chg.size, hu6.chg.block⟩⟩⟩; clear hx6 hu6)))
    all_goals
      go_wp2
      go_ret
      exact ⟨⟨_, rfl⟩, put_end HH.out.base HP2.out.below HF5.out HR5.out HB5.out HX5.out.2 (by have := HM.out; omega) HU6.out.2 HU6.out.1 (by simp [ins]; omega)⟩
  · have hie : ¬ ((i : Int) < (N : Int)) := by omega
    go_quiet (fail)
    go_wp2
    have HP2 : Hid (PutAt w (W1.drewN nq) B G r x D) := ⟨root_below HP.out.root (below_drewN (Below.refl _ _) nq), below_drewN HP.out.below nq, HP.out.c0, HP.out.c1, HP.out.lt, HP.out.new⟩
    clear d0 d1 e0 hlt1 b2 b3 eu lc0 kq HP HLL 
    generalize W1.drewN nq = W2 at *
    have b2 := HP2.out.c0
    have b3 := HP2.out.c1
    have hDlt := HP2.out.lt
    go_region_with (first
      | (go_at_call 19; go_loud (refine (child_any _ B G r i l (by first | exact HP2.out.root | exact HP2.out.root.drew') HKL.out (by have := HM.out; omega) (by have := HQ.out; omega)).mono ?_; rintro e w5 ⟨l', rfl, hxs5, hgen5, hR5, hB5, hF5⟩; have p0 := (World.cell?_of_block (a := ⟨D, 0, none⟩) (hF5.chg.block D hDlt HP2.out.new)).trans b2; have p1 := (World.cell?_of_block (a := ⟨D, 1, none⟩) (hF5.chg.block D hDlt HP2.out.new)).trans b3; have HR5 : Hid (RootAt w5 B G { r with ks := r.ks.set i l' }) := hR5; have HB5 : Hid (Below B W2 w5) := ⟨hB5.os, hB5.tape, hB5.output, hB5.size, hB5.block⟩; have HF5 : Hid (Foot W2 w5 r { r with ks := r.ks.set i l' }) := ⟨⟨hF5.chg.os, hF5.chg.tape, hF5.chg.output, hF5.chg.size, hF5.chg.block⟩, hF5.own⟩; have HX5 : Hid (l'.xs = l.xs ∧ l'.gen = G) := ⟨hxs5, hgen5⟩; have HL5 : Hid (LeafAt w5 l') := hR5.leaf l' (List.mem_of_getElem? (i := i) (List.getElem?_set_self (by have := HM.out; omega))); clear hxs5 hgen5 hR5 hB5 hF5))
      | (go_at_call 24; go_loud (refine (put_leaf l' x G _ (by exact ⟨HL5.out.node, HL5.out.row⟩) hx1 (by rw [HX5.out.1]; exact HLS.out.2) (by rw [HX5.out.1]; exact HLS.out.1.small) (by rw [HX5.out.1]; exact HLS.out.1.less) (by rw [HX5.out.1]; have := HQ.out; omega)).mono ?_; rintro e w6 ⟨⟨v6, rfl⟩, l6, hx6, hu6⟩; have HU6 : Hid (l6.xs = ins x l.xs ∧ LeafUpd w5 w6 l' l6) := ⟨by rw [hx6, HX5.out.1]; rfl, ⟨⟨hu6.leaf.node, hu6.leaf.row⟩, hu6.b, hu6.gen, hu6.lies, ⟨hu6.chg.os, hu6.chg.tape, hu6.chg.output, hu6.chg.size, hu6.chg.block⟩⟩⟩; clear hx6 hu6)))
    all_goals
      go_wp2
      go_ret
      exact ⟨⟨_, rfl⟩, put_end HH.out.base HP2.out.below HF5.out HR5.out HB5.out HX5.out.2 (by have := HM.out; omega) HU6.out.2 HU6.out.1 (by simp [ins]; omega)⟩
end Go.Proofs.Ybulkira
