import Derived.Test.YbulkiraRRemN
namespace Go.Proofs.Ybulkira
open Go.RowKit
set_option linter.unusedVariables false
set_option linter.unusedSimpArgs false
attribute [local go_sem ↓] Go.wp_at_zero Go.wp_at_succ

set_option maxRecDepth 100000 in
set_option maxHeartbeats 4000000 in
theorem remove_fl (w : World) (B G : Nat) (r : Rt) (i j p : Nat) (k : ByteArray) (a b : Nd) (hij : j = i + 1) (h : RootAt w B G r) (hg : Good r.ss (r.ks.map Nd.xs)) (hkey : KeyIs k p true) (hr : Rising (flat r.ss (r.ks.map Nd.xs))) (hn : r.ss.length < 800)
    (hlb : lb r.ss p = i) (hp : r.ss[i]? = some p) (ha : r.ks[i]? = some a) (hb : r.ks[j]? = some b) (x : Nat) (Y : List Nat) (hY : a.xs = Y ++ [x]) (hrich : 31 < a.xs.length) :
    Calls Yba.prog 13 #[.pointer (some ⟨r.b, 0, none⟩), .string k, .int .u64 (G : Int)] w fun e w' => (∃ v, e = .returned v) ∧ Removed w w' B G r p true := by
  have hsub := flat_seps_sub r.ss (r.ks.map Nd.xs) hg.len
  have hkl : r.ks.length = r.ss.length + 1 := by simpa using hg.len
  have hil : i < r.ss.length := (List.getElem?_eq_some_iff.1 hp).1
  obtain ⟨gu, cu, hu⟩ := h.kidForm (by omega)
  obtain ⟨gs, cs, hv⟩ := h.itemForm (by omega)
  obtain ⟨c0, c1, _, _, _, hlt⟩ := heap_node h.node
  have HH : Hid (RootAt w B G r) := h
  have HG : Hid (Good r.ss (r.ks.map Nd.xs)) := hg
  have HR : Hid (Rising (flat r.ss (r.ks.map Nd.xs))) := hr
  have HS : Hid (Rising r.ss) := hr.sub hsub
  have HA : Hid (r.ks[i]? = some a) := ha
  have HB : Hid (r.ks[j]? = some b) := hb
  have HLB : Hid (lb r.ss p = i) := hlb
  have HP : Hid (r.ss[i]? = some p) := hp
  have HIJ : Hid (j = i + 1) := hij
  have hal := hg.low _ (List.mem_of_getElem? (kx_get ha))
  have hah := hg.high _ (List.mem_of_getElem? (kx_get ha))
  have hbl := hg.low _ (List.mem_of_getElem? (kx_get hb))
  have hbh := hg.high _ (List.mem_of_getElem? (kx_get hb))
  obtain ⟨M, hM⟩ : ∃ M, r.ks.length = M := ⟨_, rfl⟩
  obtain ⟨N, hN⟩ : ∃ N, r.ss.length = N := ⟨_, rfl⟩
  obtain ⟨X, hX⟩ : ∃ X, a.xs.length = X := ⟨_, rfl⟩
  obtain ⟨Z, hZ⟩ : ∃ Z, b.xs.length = Z := ⟨_, rfl⟩
  rw [hM] at hu hkl
  rw [hN] at hv hn hkl hil
  rw [hX] at hal hah
  rw [hZ] at hbl hbh
  rw [hu] at c1
  have HU : Hid (r.u = .slice (some ⟨gu, 0, none⟩) M cu) := hu
  have HV : Hid (r.v = .slice (some ⟨gs, 0, none⟩) N cs) := hv
  have HM : Hid (r.ks.length = M) := hM
  have HN : Hid (r.ss.length = N) := hN
  have HX : Hid (a.xs.length = X) := hX
  have HZ : Hid (b.xs.length = Z) := hZ
  have HMN : Hid (M = N + 1) := hkl
  have kq : ∀ w : World, (binOp .eql 53 (.slice (some ⟨gu, 0, none⟩) M cu) (.slice none 0 0)).run Yba.prog w = .ok (.bool false) w := fun w => by kernel_rfl
  have hil' : (i : Int) < (N : Int) := by omega
  have him' : (i : Int) < (M : Int) := by omega
  have hjm' : (j : Int) < (M : Int) := by omega
  have hjm : j < M := by omega
  have hM900 : M < 900 := by omega
  have hij1 : (i : Int) + 1 = (j : Int) := by omega
  have hwj : IntKind.i64.wrap (j : Int) = (j : Int) := by rw [IntKind.wrap_i64]; omega
  have hys := hkey.same p (hr.small p (hsub.subset (List.mem_of_getElem? hp)))
  rw [← keyB_toList] at hys
  simp only [decide_true, Bool.and_self] at hys
  have HY : Hid (a.xs = Y ++ [x]) := hY
  rw [hX] at hrich
  have hr31 : (31 : Int) < (X : Int) := by omega
  clear hY
  obtain ⟨T, hT⟩ : ∃ T, Y.length = T := ⟨_, rfl⟩
  have HXT : Hid (a.xs.length = T + 1 ∧ a.xs[T]? = some x) := by
    constructor
    · rw [HY.out]; simp [hT]
    · rw [HY.out, List.getElem?_append_right (by omega), hT, Nat.sub_self]; rfl
  have HT : Hid (Y.length = T) := hT
  have hT63 : T < 63 := by
    have h1 := HXT.out.1
    rw [hX] at h1
    omega
  have hT31 : 31 ≤ T := by
    have h1 := HXT.out.1
    rw [hX] at h1
    omega
  have HXS : Hid (Rising a.xs) := hr.sub (flat_kid_sub r.ss _ hg.len _ (List.mem_of_getElem? (kx_get ha)))
  have hx1000 : x < 1000 := HXS.out.small x (by rw [HY.out]; simp)
  clear hT
  clear h hg hr hlb hp ha hb hv hu hM hN hX hZ hsub hkl hij
  go_enter Yba.func13, Yba.ntmps13
  go_wp2_with fail
  refine (search16 r.b r.v r.ss p true k w c0 hkey HS.out.small HS.out.less (by have := HN.out; omega) HH.out.row).mono ?_
  rintro e w1 ⟨rfl, hb1⟩
  have HR1 : Hid (RootAt w1 B G r ∧ Below B w w1) := ⟨root_below HH.out hb1, hb1.mono HH.out.base⟩
  have d0 := (hb1.cell (p := ⟨r.b, 0, none⟩) hlt).trans c0
  have d1 := (hb1.cell (p := ⟨r.b, 1, none⟩) hlt).trans c1
  rw [HV.out] at d0
  rw [HLB.out]
  clear hb1 c0 c1
  have cy := (HR1.out.1.itemCell HV.out HP.out).2.1
  have ka := (HR1.out.1.kidCell HU.out HA.out).2
  have kb := (HR1.out.1.kidCell HU.out HB.out).2
  have HLA : Hid (LeafAt w1 a) := HR1.out.1.leaf a (List.mem_of_getElem? HA.out)
  have HLB1 : Hid (LeafAt w1 b) := HR1.out.1.leaf b (List.mem_of_getElem? HB.out)
  have na := (heap_node HLA.out.node).1
  have nb := (heap_node HLB1.out.node).1
  obtain ⟨aa, ac, hva⟩ := own_form HLA.out.row
  obtain ⟨ba, bc, hvb⟩ := own_form HLB1.out.row
  rw [hva, HX.out] at na
  rw [hvb, HZ.out] at nb
  clear hva hvb
  go_wp2_with fail
  go_quiet (fail)
  go_upto_region 12 with fail
  have HR2 : Hid (RootAt (w1.drewN nq) B G r ∧ Below B w (w1.drewN nq)) := ⟨root_below HR1.out.1 (below_drewN (Below.refl _ _) nq), below_drewN HR1.out.2 nq⟩
  clear d0 d1 cy ka kb na nb HLA HLB1 HR1
  generalize w1.drewN nq = W2 at *
  have HLA : Hid (LeafAt W2 a) := HR2.out.1.leaf a (List.mem_of_getElem? HA.out)
  obtain ⟨q0, s0, s1, hgs⟩ := HR2.out.1.itemCell HV.out HP.out
  have hrb : r.b < W2.heap.size := HR2.out.1.lt
  have ngs : gs ≠ r.b := fun e => own_ne HR2.out.1.row HR2.out.1.node (by decide) (by rw [HV.out, e]; rfl)
  go_region_held3 (fun w' => w'.cell? ⟨r.b, 0, none⟩ = some (.slice (some ⟨gs, 0, none⟩) N cs)) (first | exact q0 | exact p0 | exact y0) ((go_at_call 20; refine (last_leaf _ a x T ?_ HXT.out.1 HXT.out.2 ?_).mono ?_; exact ⟨HLA.out.node, HLA.out.row⟩; omega; rintro e w3 ⟨rfl, hb3⟩; have p0 := (hb3.cell (p := ⟨r.b, 0, none⟩) hrb).trans q0; have HR3 : Hid (RootAt w3 B G r ∧ Below B w w3) := ⟨root_below HR2.out.1 ⟨hb3.os, hb3.tape, hb3.output, hb3.size, hb3.block⟩, HR2.out.2.trans ((Below.mono ⟨hb3.os, hb3.tape, hb3.output, hb3.size, hb3.block⟩ HR2.out.1.base))⟩; obtain ⟨_, t0, t1, hgs3⟩ := HR3.out.1.itemCell HV.out HP.out; have hrow : Items w3 (.slice (some ⟨gs, 0, none⟩) N cs) r.ss := (by have h1 := HR3.out.1.row; rw [HV.out] at h1; exact h1); have fr0 := Items.frozen hrow (i * 2); have fr1 := Items.frozen hrow (i * 2 + 1); have y0 := (cell_set_other (w3.setCell ⟨gs, i * 2, none⟩ (.string (keyB x))) ⟨gs, i * 2 + 1, none⟩ (.int .i64 (x : Int)) r.b 0 (.inl ngs)).trans ((cell_set_other w3 ⟨gs, i * 2, none⟩ (.string (keyB x)) r.b 0 (.inl ngs)).trans p0); clear hb3 hrow))
  go_upto_region 13 with fail
  obtain ⟨W4, hW4⟩ : ∃ W4, W4 = (w3.setCell ⟨gs, i * 2, none⟩ (.string (keyB x))).setCell ⟨gs, i * 2 + 1, none⟩ (.int .i64 (x : Int)) := ⟨_, rfl⟩
  have HR4 : Hid (RootAt W4 B G { r with ss := r.ss.set i x } ∧ Below B w W4) := by
    have h1 := HR3.out.1.setItem HV.out HN.out i x hil
    rw [hW4]
    exact ⟨h1.1, HR3.out.2.trans h1.2⟩
  have HSX : Hid ((r.ss.set i x)[i]? = some x) := List.getElem?_set_self (by rw [HN.out]; exact hil)
  rw [← hW4]
  clear hW4 HR3 HR2 HLA q0 s0 s1 hgs hrb ngs p0 t0 t1 hgs3 fr0 fr1 y0
  obtain ⟨q0, s0, _, _⟩ := HR4.out.1.itemCell HV.out HSX.out
  go_region_held3 (fun w' => w'.cell? ⟨r.b, 0, none⟩ = some (.slice (some ⟨gs, 0, none⟩) N cs) ∧ w'.cell? ⟨gs, i * 2, none⟩ = some (.string (keyB x))) (first | exact ⟨q0, s0⟩ | exact ⟨p0, p1⟩ | exact ⟨y0, y1⟩) ((first
    | (go_at_call 19; refine (child_any _ B G { r with ss := r.ss.set i x } i a ?_ HA.out ?_ ?_).mono ?_; (first | exact HR4.out.1 | exact HR4.out.1.drew'); (have h1 := HM.out; show r.ks.length < 1000; omega); (have h1 := HX.out; omega); rintro e w5 ⟨l3, rfl, hx3, hg3, hR5, hB5, _⟩; obtain ⟨p0, p1, _, _⟩ := hR5.itemCell HV.out HSX.out; have HR5 : Hid (RootAt w5 B G { r with ss := r.ss.set i x, ks := r.ks.set i l3 } ∧ Below B w w5 ∧ l3.xs = a.xs ∧ l3.gen = G) := ⟨hR5, HR4.out.2.trans ⟨hB5.os, hB5.tape, hB5.output, hB5.size, hB5.block⟩, hx3, hg3⟩; have HI5 : Hid ((r.ks.set i l3)[i]? = some l3) := List.getElem?_set_self (by have h1 := HM.out; omega); have HL5 : Hid (LeafAt w5 l3) := hR5.leaf l3 (List.mem_of_getElem? HI5.out); clear hx3 hg3 hR5 hB5)
    | (go_at_call 13; refine (remove_leaf l3 x true (keyB x) G _ ?_ (keyIs_key x hx1000) ?_ ?_ ?_).mono ?_; exact ⟨HL5.out.node, HL5.out.row⟩; (rw [HR5.out.2.2.1]; exact HXS.out.small); (rw [HR5.out.2.2.1]; exact HXS.out.less); (rw [HR5.out.2.2.1, HXT.out.1]; omega); rintro e w6 ⟨⟨v6, rfl⟩, l4, hx4, hu4⟩; have HU6 : Hid (l4.xs = Y ∧ LeafUpd w5 w6 l3 l4) := ⟨(by rw [hx4, HR5.out.2.2.1, HY.out]; exact del_last (by rw [← HY.out]; exact HXS.out.less)), ⟨⟨hu4.leaf.node, hu4.leaf.row⟩, hu4.b, hu4.gen, hu4.lies, ⟨hu4.chg.os, hu4.chg.tape, hu4.chg.output, hu4.chg.size, hu4.chg.block⟩⟩⟩; have hR6 := (HR5.out.1.setKid HI5.out HU6.out.2 HR5.out.2.2.2 (by rw [HU6.out.1, HT.out]; omega)).1; obtain ⟨y0, y1, _, _⟩ := hR6.itemCell HV.out HSX.out; clear hx4 hu4 hR6)))
  go_wp2
  refine bodyPost_end (v := .tuple #[]) (by simp [results, Yba.results13, go_sem]) rfl ⟨⟨_, rfl⟩, ?_⟩
  have hfl := flat_last HG.out.len HR.out.less HP.out (by rw [kx_get HA.out, HY.out]) (by rw [← HIJ.out]; exact kx_get HB.out)
  refine rem_end (r2 := { r with ss := r.ss.set i x }) HR5.out.2.1 HR5.out.1 rfl ⟨by rw [HG.out.len]; simp, HG.out.low, HG.out.high⟩ HA.out (by rw [HT.out]; exact hT31) (by rw [HT.out]; omega) HR5.out.2.2.2 HU6.out.2 HU6.out.1 hfl

set_option maxRecDepth 100000 in
set_option maxHeartbeats 4000000 in
theorem remove_fr (w : World) (B G : Nat) (r : Rt) (i j p : Nat) (k : ByteArray) (a b : Nd) (hij : j = i + 1) (h : RootAt w B G r) (hg : Good r.ss (r.ks.map Nd.xs)) (hkey : KeyIs k p true) (hr : Rising (flat r.ss (r.ks.map Nd.xs))) (hn : r.ss.length < 800)
    (hlb : lb r.ss p = i) (hp : r.ss[i]? = some p) (ha : r.ks[i]? = some a) (hb : r.ks[j]? = some b) (x : Nat) (Y : List Nat) (hY : b.xs = x :: Y) (hpoor : a.xs.length ≤ 31) (hrich : 31 < b.xs.length) :
    Calls Yba.prog 13 #[.pointer (some ⟨r.b, 0, none⟩), .string k, .int .u64 (G : Int)] w fun e w' => (∃ v, e = .returned v) ∧ Removed w w' B G r p true := by
  have hsub := flat_seps_sub r.ss (r.ks.map Nd.xs) hg.len
  have hkl : r.ks.length = r.ss.length + 1 := by simpa using hg.len
  have hil : i < r.ss.length := (List.getElem?_eq_some_iff.1 hp).1
  obtain ⟨gu, cu, hu⟩ := h.kidForm (by omega)
  obtain ⟨gs, cs, hv⟩ := h.itemForm (by omega)
  obtain ⟨c0, c1, _, _, _, hlt⟩ := heap_node h.node
  have HH : Hid (RootAt w B G r) := h
  have HG : Hid (Good r.ss (r.ks.map Nd.xs)) := hg
  have HR : Hid (Rising (flat r.ss (r.ks.map Nd.xs))) := hr
  have HS : Hid (Rising r.ss) := hr.sub hsub
  have HA : Hid (r.ks[i]? = some a) := ha
  have HB : Hid (r.ks[j]? = some b) := hb
  have HLB : Hid (lb r.ss p = i) := hlb
  have HP : Hid (r.ss[i]? = some p) := hp
  have HIJ : Hid (j = i + 1) := hij
  have hal := hg.low _ (List.mem_of_getElem? (kx_get ha))
  have hah := hg.high _ (List.mem_of_getElem? (kx_get ha))
  have hbl := hg.low _ (List.mem_of_getElem? (kx_get hb))
  have hbh := hg.high _ (List.mem_of_getElem? (kx_get hb))
  obtain ⟨M, hM⟩ : ∃ M, r.ks.length = M := ⟨_, rfl⟩
  obtain ⟨N, hN⟩ : ∃ N, r.ss.length = N := ⟨_, rfl⟩
  obtain ⟨X, hX⟩ : ∃ X, a.xs.length = X := ⟨_, rfl⟩
  obtain ⟨Z, hZ⟩ : ∃ Z, b.xs.length = Z := ⟨_, rfl⟩
  rw [hM] at hu hkl
  rw [hN] at hv hn hkl hil
  rw [hX] at hal hah
  rw [hZ] at hbl hbh
  rw [hu] at c1
  have HU : Hid (r.u = .slice (some ⟨gu, 0, none⟩) M cu) := hu
  have HV : Hid (r.v = .slice (some ⟨gs, 0, none⟩) N cs) := hv
  have HM : Hid (r.ks.length = M) := hM
  have HN : Hid (r.ss.length = N) := hN
  have HX : Hid (a.xs.length = X) := hX
  have HZ : Hid (b.xs.length = Z) := hZ
  have HMN : Hid (M = N + 1) := hkl
  have kq : ∀ w : World, (binOp .eql 53 (.slice (some ⟨gu, 0, none⟩) M cu) (.slice none 0 0)).run Yba.prog w = .ok (.bool false) w := fun w => by kernel_rfl
  have hil' : (i : Int) < (N : Int) := by omega
  have him' : (i : Int) < (M : Int) := by omega
  have hjm' : (j : Int) < (M : Int) := by omega
  have hjm : j < M := by omega
  have hM900 : M < 900 := by omega
  have hij1 : (i : Int) + 1 = (j : Int) := by omega
  have hwj : IntKind.i64.wrap (j : Int) = (j : Int) := by rw [IntKind.wrap_i64]; omega
  have hys := hkey.same p (hr.small p (hsub.subset (List.mem_of_getElem? hp)))
  rw [← keyB_toList] at hys
  simp only [decide_true, Bool.and_self] at hys
  have HY : Hid (b.xs = x :: Y) := hY
  rw [hZ] at hrich
  rw [hX] at hpoor
  have hr30 : ¬ (31 : Int) < (X : Int) := by omega
  have hr31 : (31 : Int) < (Z : Int) := by omega
  clear hY
  obtain ⟨T, hT⟩ : ∃ T, Y.length = T := ⟨_, rfl⟩
  have HXT : Hid (b.xs.length = T + 1 ∧ b.xs[0]? = some x) := by
    constructor
    · rw [HY.out]; simp [hT]
    · rw [HY.out]; rfl
  have HT : Hid (Y.length = T) := hT
  have hT63 : T < 63 := by
    have h1 := HXT.out.1
    rw [hZ] at h1
    omega
  have hT31 : 31 ≤ T := by
    have h1 := HXT.out.1
    rw [hZ] at h1
    omega
  have HXS : Hid (Rising b.xs) := hr.sub (flat_kid_sub r.ss _ hg.len _ (List.mem_of_getElem? (kx_get hb)))
  have hx1000 : x < 1000 := HXS.out.small x (by rw [HY.out]; simp)
  clear hT
  clear h hg hr hlb hp ha hb hv hu hM hN hX hZ hsub hkl hij
  go_enter Yba.func13, Yba.ntmps13
  go_wp2_with fail
  refine (search16 r.b r.v r.ss p true k w c0 hkey HS.out.small HS.out.less (by have := HN.out; omega) HH.out.row).mono ?_
  rintro e w1 ⟨rfl, hb1⟩
  have HR1 : Hid (RootAt w1 B G r ∧ Below B w w1) := ⟨root_below HH.out hb1, hb1.mono HH.out.base⟩
  have d0 := (hb1.cell (p := ⟨r.b, 0, none⟩) hlt).trans c0
  have d1 := (hb1.cell (p := ⟨r.b, 1, none⟩) hlt).trans c1
  rw [HV.out] at d0
  rw [HLB.out]
  clear hb1 c0 c1
  have cy := (HR1.out.1.itemCell HV.out HP.out).2.1
  have ka := (HR1.out.1.kidCell HU.out HA.out).2
  have kb := (HR1.out.1.kidCell HU.out HB.out).2
  have HLA : Hid (LeafAt w1 a) := HR1.out.1.leaf a (List.mem_of_getElem? HA.out)
  have HLB1 : Hid (LeafAt w1 b) := HR1.out.1.leaf b (List.mem_of_getElem? HB.out)
  have na := (heap_node HLA.out.node).1
  have nb := (heap_node HLB1.out.node).1
  obtain ⟨aa, ac, hva⟩ := own_form HLA.out.row
  obtain ⟨ba, bc, hvb⟩ := own_form HLB1.out.row
  rw [hva, HX.out] at na
  rw [hvb, HZ.out] at nb
  clear hva hvb
  go_wp2_with fail
  go_quiet (fail)
  go_upto_region 15 with fail
  have HR2 : Hid (RootAt (w1.drewN nq) B G r ∧ Below B w (w1.drewN nq)) := ⟨root_below HR1.out.1 (below_drewN (Below.refl _ _) nq), below_drewN HR1.out.2 nq⟩
  clear d0 d1 cy ka kb na nb HLA HLB1 HR1
  generalize w1.drewN nq = W2 at *
  have HLA : Hid (LeafAt W2 b) := HR2.out.1.leaf b (List.mem_of_getElem? HB.out)
  obtain ⟨q0, s0, s1, hgs⟩ := HR2.out.1.itemCell HV.out HP.out
  have hrb : r.b < W2.heap.size := HR2.out.1.lt
  have ngs : gs ≠ r.b := fun e => own_ne HR2.out.1.row HR2.out.1.node (by decide) (by rw [HV.out, e]; rfl)
  go_region_held3 (fun w' => w'.cell? ⟨r.b, 0, none⟩ = some (.slice (some ⟨gs, 0, none⟩) N cs)) (first | exact q0 | exact p0 | exact y0) ((go_at_call 21; refine (first_leaf _ b x T ?_ HXT.out.1 HXT.out.2 ?_).mono ?_; exact ⟨HLA.out.node, HLA.out.row⟩; omega; rintro e w3 ⟨rfl, hb3⟩; have p0 := (hb3.cell (p := ⟨r.b, 0, none⟩) hrb).trans q0; have HR3 : Hid (RootAt w3 B G r ∧ Below B w w3) := ⟨root_below HR2.out.1 ⟨hb3.os, hb3.tape, hb3.output, hb3.size, hb3.block⟩, HR2.out.2.trans ((Below.mono ⟨hb3.os, hb3.tape, hb3.output, hb3.size, hb3.block⟩ HR2.out.1.base))⟩; obtain ⟨_, t0, t1, hgs3⟩ := HR3.out.1.itemCell HV.out HP.out; have hrow : Items w3 (.slice (some ⟨gs, 0, none⟩) N cs) r.ss := (by have h1 := HR3.out.1.row; rw [HV.out] at h1; exact h1); have fr0 := Items.frozen hrow (i * 2); have fr1 := Items.frozen hrow (i * 2 + 1); have y0 := (cell_set_other (w3.setCell ⟨gs, i * 2, none⟩ (.string (keyB x))) ⟨gs, i * 2 + 1, none⟩ (.int .i64 (x : Int)) r.b 0 (.inl ngs)).trans ((cell_set_other w3 ⟨gs, i * 2, none⟩ (.string (keyB x)) r.b 0 (.inl ngs)).trans p0); clear hb3 hrow))
  go_upto_region 16 with fail
  obtain ⟨W4, hW4⟩ : ∃ W4, W4 = (w3.setCell ⟨gs, i * 2, none⟩ (.string (keyB x))).setCell ⟨gs, i * 2 + 1, none⟩ (.int .i64 (x : Int)) := ⟨_, rfl⟩
  have HR4 : Hid (RootAt W4 B G { r with ss := r.ss.set i x } ∧ Below B w W4) := by
    have h1 := HR3.out.1.setItem HV.out HN.out i x hil
    rw [hW4]
    exact ⟨h1.1, HR3.out.2.trans h1.2⟩
  have HSX : Hid ((r.ss.set i x)[i]? = some x) := List.getElem?_set_self (by rw [HN.out]; exact hil)
  rw [← hW4]
  clear hW4 HR3 HR2 HLA q0 s0 s1 hgs hrb ngs p0 t0 t1 hgs3 fr0 fr1 y0
  obtain ⟨q0, s0, _, _⟩ := HR4.out.1.itemCell HV.out HSX.out
  go_region_held3 (fun w' => w'.cell? ⟨r.b, 0, none⟩ = some (.slice (some ⟨gs, 0, none⟩) N cs) ∧ w'.cell? ⟨gs, i * 2, none⟩ = some (.string (keyB x))) (first | exact ⟨q0, s0⟩ | exact ⟨p0, p1⟩ | exact ⟨y0, y1⟩) ((first
    | (go_at_call 19; refine (child_any _ B G { r with ss := r.ss.set i x } j b ?_ HB.out ?_ ?_).mono ?_; (first | exact HR4.out.1 | exact HR4.out.1.drew'); (have h1 := HM.out; show r.ks.length < 1000; omega); (have h1 := HZ.out; omega); rintro e w5 ⟨l3, rfl, hx3, hg3, hR5, hB5, _⟩; obtain ⟨p0, p1, _, _⟩ := hR5.itemCell HV.out HSX.out; have HR5 : Hid (RootAt w5 B G { r with ss := r.ss.set i x, ks := r.ks.set j l3 } ∧ Below B w w5 ∧ l3.xs = b.xs ∧ l3.gen = G) := ⟨hR5, HR4.out.2.trans ⟨hB5.os, hB5.tape, hB5.output, hB5.size, hB5.block⟩, hx3, hg3⟩; have HI5 : Hid ((r.ks.set j l3)[j]? = some l3) := List.getElem?_set_self (by have h1 := HM.out; omega); have HL5 : Hid (LeafAt w5 l3) := hR5.leaf l3 (List.mem_of_getElem? HI5.out); clear hx3 hg3 hR5 hB5)
    | (go_at_call 13; refine (remove_leaf l3 x true (keyB x) G _ ?_ (keyIs_key x hx1000) ?_ ?_ ?_).mono ?_; exact ⟨HL5.out.node, HL5.out.row⟩; (rw [HR5.out.2.2.1]; exact HXS.out.small); (rw [HR5.out.2.2.1]; exact HXS.out.less); (rw [HR5.out.2.2.1, HXT.out.1]; omega); rintro e w6 ⟨⟨v6, rfl⟩, l4, hx4, hu4⟩; have HU6 : Hid (l4.xs = Y ∧ LeafUpd w5 w6 l3 l4) := ⟨(by rw [hx4, HR5.out.2.2.1, HY.out]; exact del_head (by rw [← HY.out]; exact HXS.out.less)), ⟨⟨hu4.leaf.node, hu4.leaf.row⟩, hu4.b, hu4.gen, hu4.lies, ⟨hu4.chg.os, hu4.chg.tape, hu4.chg.output, hu4.chg.size, hu4.chg.block⟩⟩⟩; have hR6 := (HR5.out.1.setKid HI5.out HU6.out.2 HR5.out.2.2.2 (by rw [HU6.out.1, HT.out]; omega)).1; obtain ⟨y0, y1, _, _⟩ := hR6.itemCell HV.out HSX.out; clear hx4 hu4 hR6)))
  go_wp2
  refine bodyPost_end (v := .tuple #[]) (by simp [results, Yba.results13, go_sem]) rfl ⟨⟨_, rfl⟩, ?_⟩
  have hbk := kx_get HB.out
  rw [HIJ.out, HY.out] at hbk
  have hfl := flat_first HG.out.len HR.out.less HP.out (kx_get HA.out) hbk
  rw [← HIJ.out] at hfl
  refine rem_end (r2 := { r with ss := r.ss.set i x }) HR5.out.2.1 HR5.out.1 rfl ⟨by rw [HG.out.len]; simp, HG.out.low, HG.out.high⟩ HB.out (by rw [HT.out]; exact hT31) (by rw [HT.out]; omega) HR5.out.2.2.2 HU6.out.2 HU6.out.1 hfl

set_option maxRecDepth 100000 in
set_option maxHeartbeats 4000000 in
theorem remove_fm (w : World) (B G : Nat) (r : Rt) (i j p : Nat) (k : ByteArray) (a b : Nd) (hij : j = i + 1) (h : RootAt w B G r) (hg : Good r.ss (r.ks.map Nd.xs)) (hkey : KeyIs k p true) (hr : Rising (flat r.ss (r.ks.map Nd.xs))) (hn : r.ss.length < 800)
    (hlb : lb r.ss p = i) (hp : r.ss[i]? = some p) (ha : r.ks[i]? = some a) (hb : r.ks[j]? = some b) (hpa : a.xs.length ≤ 31) (hpb : b.xs.length ≤ 31) :
    Calls Yba.prog 13 #[.pointer (some ⟨r.b, 0, none⟩), .string k, .int .u64 (G : Int)] w fun e w' => (∃ v, e = .returned v) ∧ Removed w w' B G r p true := by
  have hsub := flat_seps_sub r.ss (r.ks.map Nd.xs) hg.len
  have hkl : r.ks.length = r.ss.length + 1 := by simpa using hg.len
  have hil : i < r.ss.length := (List.getElem?_eq_some_iff.1 hp).1
  obtain ⟨gu, cu, hu⟩ := h.kidForm (by omega)
  obtain ⟨gs, cs, hv⟩ := h.itemForm (by omega)
  obtain ⟨c0, c1, _, _, _, hlt⟩ := heap_node h.node
  have HH : Hid (RootAt w B G r) := h
  have HG : Hid (Good r.ss (r.ks.map Nd.xs)) := hg
  have HR : Hid (Rising (flat r.ss (r.ks.map Nd.xs))) := hr
  have HS : Hid (Rising r.ss) := hr.sub hsub
  have HA : Hid (r.ks[i]? = some a) := ha
  have HB : Hid (r.ks[j]? = some b) := hb
  have HLB : Hid (lb r.ss p = i) := hlb
  have HP : Hid (r.ss[i]? = some p) := hp
  have HIJ : Hid (j = i + 1) := hij
  have hal := hg.low _ (List.mem_of_getElem? (kx_get ha))
  have hah := hg.high _ (List.mem_of_getElem? (kx_get ha))
  have hbl := hg.low _ (List.mem_of_getElem? (kx_get hb))
  have hbh := hg.high _ (List.mem_of_getElem? (kx_get hb))
  obtain ⟨M, hM⟩ : ∃ M, r.ks.length = M := ⟨_, rfl⟩
  obtain ⟨N, hN⟩ : ∃ N, r.ss.length = N := ⟨_, rfl⟩
  obtain ⟨X, hX⟩ : ∃ X, a.xs.length = X := ⟨_, rfl⟩
  obtain ⟨Z, hZ⟩ : ∃ Z, b.xs.length = Z := ⟨_, rfl⟩
  rw [hM] at hu hkl
  rw [hN] at hv hn hkl hil
  rw [hX] at hal hah
  rw [hZ] at hbl hbh
  rw [hu] at c1
  have HU : Hid (r.u = .slice (some ⟨gu, 0, none⟩) M cu) := hu
  have HV : Hid (r.v = .slice (some ⟨gs, 0, none⟩) N cs) := hv
  have HM : Hid (r.ks.length = M) := hM
  have HN : Hid (r.ss.length = N) := hN
  have HX : Hid (a.xs.length = X) := hX
  have HZ : Hid (b.xs.length = Z) := hZ
  have HMN : Hid (M = N + 1) := hkl
  have kq : ∀ w : World, (binOp .eql 53 (.slice (some ⟨gu, 0, none⟩) M cu) (.slice none 0 0)).run Yba.prog w = .ok (.bool false) w := fun w => by kernel_rfl
  have hil' : (i : Int) < (N : Int) := by omega
  have him' : (i : Int) < (M : Int) := by omega
  have hjm' : (j : Int) < (M : Int) := by omega
  have hjm : j < M := by omega
  have hM900 : M < 900 := by omega
  have hij1 : (i : Int) + 1 = (j : Int) := by omega
  have hwj : IntKind.i64.wrap (j : Int) = (j : Int) := by rw [IntKind.wrap_i64]; omega
  have hys := hkey.same p (hr.small p (hsub.subset (List.mem_of_getElem? hp)))
  rw [← keyB_toList] at hys
  simp only [decide_true, Bool.and_self] at hys
  rw [hX] at hpa
  rw [hZ] at hpb
  have hr30 : ¬ (31 : Int) < (X : Int) := by omega
  have hr31 : ¬ (31 : Int) < (Z : Int) := by omega
  clear h hg hr hlb hp ha hb hv hu hM hN hX hZ hsub hkl hij
  go_enter Yba.func13, Yba.ntmps13
  go_wp2_with fail
  refine (search16 r.b r.v r.ss p true k w c0 hkey HS.out.small HS.out.less (by have := HN.out; omega) HH.out.row).mono ?_
  rintro e w1 ⟨rfl, hb1⟩
  have HR1 : Hid (RootAt w1 B G r ∧ Below B w w1) := ⟨root_below HH.out hb1, hb1.mono HH.out.base⟩
  have d0 := (hb1.cell (p := ⟨r.b, 0, none⟩) hlt).trans c0
  have d1 := (hb1.cell (p := ⟨r.b, 1, none⟩) hlt).trans c1
  rw [HV.out] at d0
  rw [HLB.out]
  clear hb1 c0 c1
  have cy := (HR1.out.1.itemCell HV.out HP.out).2.1
  have ka := (HR1.out.1.kidCell HU.out HA.out).2
  have kb := (HR1.out.1.kidCell HU.out HB.out).2
  have HLA : Hid (LeafAt w1 a) := HR1.out.1.leaf a (List.mem_of_getElem? HA.out)
  have HLB1 : Hid (LeafAt w1 b) := HR1.out.1.leaf b (List.mem_of_getElem? HB.out)
  have na := (heap_node HLA.out.node).1
  have nb := (heap_node HLB1.out.node).1
  obtain ⟨aa, ac, hva⟩ := own_form HLA.out.row
  obtain ⟨ba, bc, hvb⟩ := own_form HLB1.out.row
  rw [hva, HX.out] at na
  rw [hvb, HZ.out] at nb
  clear hva hvb
  go_wp2_with fail
  go_quiet (fail)
  go_wp2_with fail
  have HR2 : Hid (RootAt (w1.drewN nq) B G r ∧ Below B w (w1.drewN nq)) := ⟨root_below HR1.out.1 (below_drewN (Below.refl _ _) nq), below_drewN HR1.out.2 nq⟩
  clear d0 d1 cy ka kb na nb HLA HLB1 HR1
  generalize w1.drewN nq = W2 at *
  refine (merge_any W2 B G r i a b p HR2.out.1 HA.out (by rw [← HIJ.out]; exact HB.out) HP.out (by rw [HM.out]; exact hM900) (by rw [HN.out]; omega) (by rw [HX.out]; omega) (by rw [HZ.out]; omega)).mono ?_
  rintro e w3 ⟨⟨v3, rfl⟩, hB3, r3, l3, hR3, eb3, es3, ek3, hg3, hx3⟩
  have hl3 : r3.ks[i]? = some l3 := by
    rw [ek3, List.getElem?_append_right (by rw [List.length_take]; omega), List.length_take, Nat.min_eq_left (by rw [HM.out]; omega), Nat.sub_self]
    rfl
  have ekx : r3.ks.map Nd.xs = (r.ks.map Nd.xs).take i ++ (a.xs ++ p :: b.xs) :: (r.ks.map Nd.xs).drop (i + 2) := by
    rw [ek3, List.map_append, List.map_cons, List.map_take, List.map_drop, hx3]
  have hbk := kx_get HB.out
  rw [HIJ.out] at hbk
  have hc : (a.xs ++ p :: b.xs).length = X + Z + 1 := by
    rw [List.length_append, List.length_cons, HX.out, HZ.out]
    omega
  have HG3 : Hid (Good r3.ss (r3.ks.map Nd.xs)) := by
    rw [es3, ekx]
    exact good_merge HG.out HP.out (kx_get HA.out) hbk (by rw [hc]; omega) (by rw [hc]; omega)
  have HF3 : Hid (flat r3.ss (r3.ks.map Nd.xs) = flat r.ss (r.ks.map Nd.xs)) := by
    rw [es3, ekx]
    exact flat_merge HG.out.len HP.out (kx_get HA.out) hbk
  have HR3 : Hid (RootAt w3 B G r3 ∧ Below B w w3 ∧ r3.b = r.b ∧ r3.ks[i]? = some l3 ∧ l3.gen = G ∧ l3.xs = a.xs ++ p :: b.xs) := ⟨hR3, HR2.out.2.trans hB3, eb3, hl3, hg3, hx3⟩
  have HL3 : Hid (LeafAt w3 l3) := hR3.leaf l3 (List.mem_of_getElem? hl3)
  have HXS : Hid (Rising l3.xs) := by
    refine HR.out.sub ?_
    rw [← HF3.out]
    exact flat_kid_sub r3.ss _ HG3.out.len _ (List.mem_of_getElem? (kx_get hl3))
  have HC3 : Hid (l3.xs.length = X + Z + 1) := by rw [hx3]; exact hc
  obtain ⟨gw, cw, hw3⟩ := hR3.kidForm (by have := (List.getElem?_eq_some_iff.1 hl3).1; omega)
  obtain ⟨d1', ka⟩ := hR3.kidCell hw3 hl3
  have d1 : w3.cell? ⟨r.b, 1, none⟩ = some (.slice (some ⟨gw, 0, none⟩) r3.ks.length cw) := by rw [← eb3]; exact d1'
  have hil3 : i < r3.ks.length := (List.getElem?_eq_some_iff.1 hl3).1
  obtain ⟨M3, hM3⟩ : ∃ M3, r3.ks.length = M3 := ⟨_, rfl⟩
  rw [hM3] at d1 hil3
  have hil3' : (i : Int) < (M3 : Int) := by omega
  clear hB3 hR3 eb3 es3 ek3 hg3 hx3 hl3 ekx hbk hc d1' hw3 hM3 HR2
  go_wp2_with fail
  refine (remove_leaf l3 p true k G w3 HL3.out hkey HXS.out.small HXS.out.less (by rw [HC3.out]; omega)).mono ?_
  rintro e w4 ⟨⟨v4, rfl⟩, l4, hx4, hu4⟩
  have HU4 : Hid (l4.xs = del p true l3.xs ∧ LeafUpd w3 w4 l3 l4) := ⟨hx4, hu4⟩
  clear hx4 hu4
  go_wp2
  refine bodyPost_end (v := .tuple #[]) (by simp [results, Yba.results13, go_sem]) rfl ⟨⟨_, rfl⟩, ?_⟩
  have hdl := del_length p true HXS.out.less
  have hc := HC3.out
  have hl3 := HR3.out.2.2.2.1
  have hR3 : RootAt w3 B G { r3 with ks := r3.ks.set i l3 } := by
    rw [set_self hl3]
    exact HR3.out.1
  refine rem_end HR3.out.2.1 hR3 HR3.out.2.2.1 HG3.out hl3 (by omega) (by omega) HR3.out.2.2.2.2.1 HU4.out.2 HU4.out.1 ?_
  rw [← HF3.out]
  exact del_flat HG3.out.len (kx_get hl3) (by rw [HF3.out]; exact HR.out.less) (fun _ _ => by rw [HR3.out.2.2.2.2.2]; simp)

end Go.Proofs.Ybulkira
