import Derived.Test.YbulkiraREnd
namespace Go.Proofs.Ybulkira
open Go.RowKit
set_option linter.unusedVariables false
set_option linter.unusedSimpArgs false
attribute [local go_sem ↓] Go.wp_at_zero Go.wp_at_succ

/-! ### the cells of a root and of a leaf, told once -/
theorem RootAt.kidCell {w : World} {B G : Nat} {r : Rt} (h : RootAt w B G r) {gu cu : Nat} {M : Nat} (hu : r.u = .slice (some ⟨gu, 0, none⟩) M cu) {i : Nat} {l : Nd} (hi : r.ks[i]? = some l) :
    w.cell? ⟨r.b, 1, none⟩ = some (.slice (some ⟨gu, 0, none⟩) M cu) ∧ w.cell? ⟨gu, i, none⟩ = some (.pointer (some ⟨l.b, 0, none⟩)) := by
  have hil : i < r.ks.length := (List.getElem?_eq_some_iff.1 hi).1
  obtain ⟨g, c, hv, hg, hcell, _⟩ := h.kids.cell (by simp; omega)
  rw [hu] at hv
  cases hv
  exact ⟨by rw [← hu]; exact (heap_node h.node).2.1, hcell i l.b (by simp [hi])⟩

theorem RootAt.kidForm {w : World} {B G : Nat} {r : Rt} (h : RootAt w B G r) (h0 : 0 < r.ks.length) : ∃ gu cu, r.u = .slice (some ⟨gu, 0, none⟩) r.ks.length cu := by
  obtain ⟨g, c, hv, _⟩ := h.kids.cell (by simpa using h0)
  exact ⟨g, c, by simpa using hv⟩

theorem RootAt.itemCell {w : World} {B G : Nat} {r : Rt} (h : RootAt w B G r) {g c N : Nat} (hv : r.v = .slice (some ⟨g, 0, none⟩) N c) {i s : Nat} (hi : r.ss[i]? = some s) :
    w.cell? ⟨r.b, 0, none⟩ = some (.slice (some ⟨g, 0, none⟩) N c) ∧ w.cell? ⟨g, i * 2, none⟩ = some (.string (keyB s)) ∧ w.cell? ⟨g, i * 2 + 1, none⟩ = some (.int .i64 (s : Int)) ∧ g < w.heap.size := by
  have hil : i < r.ss.length := (List.getElem?_eq_some_iff.1 hi).1
  obtain ⟨g', c', hv', hg, hcell⟩ := h.row.cell (by omega)
  rw [hv] at hv'
  cases hv'
  exact ⟨by rw [← hv]; exact (heap_node h.node).1, (hcell i s hi).1, (hcell i s hi).2, hg⟩

theorem RootAt.itemForm {w : World} {B G : Nat} {r : Rt} (h : RootAt w B G r) (h0 : 0 < r.ss.length) : ∃ g c, r.v = .slice (some ⟨g, 0, none⟩) r.ss.length c := by
  obtain ⟨g, c, hv, _⟩ := h.row.cell h0
  exact ⟨g, c, hv⟩

/-- one of the children is let go -/
theorem RootAt.dropKid {w w2 : World} {B G : Nat} {r : Rt} (h : RootAt w B G r) {ks' : List Nd} {u' : Value} (hs : ks'.Sublist r.ks) (hK : Kids w2 u' (ks'.map Nd.b)) (hr : NewRow w w2 r.u u') :
    RootAt (w2.setCell ⟨r.b, 1, none⟩ u') B G { r with u := u', ks := ks' } ∧ Below B w (w2.setCell ⟨r.b, 1, none⟩ u') := by
  have hne := own_ne h.kids h.node (by decide)
  have hn2 : w2.heap[r.b]? = some (nodeObj r.v r.u G) := (hr.chg.block r.b h.lt (fun e => hne e)).trans h.node
  have hc := Chg.set (w := w2) ⟨r.b, 1, none⟩ u'
  have hch : Chg (fun k => k = r.b ∨ r.u.ownBlock = some k) w (w2.setCell ⟨r.b, 1, none⟩ u') := (hr.chg.mono (fun j hj => Or.inr hj)).trans hc (fun j hj => .inl (.inl hj))
  refine h.turnKids hch (set_node1 hn2) (own_kept hK hc (fun g hg e => ?_)) hr.lies (fun l hl => .inl (hs.subset hl)) ?_ ?_ ?_
  · exact own_ne hK hn2 (by decide) (by rw [hg]; exact congrArg some e)
  · exact (List.nodup_cons.1 h.nb).2.sublist (hs.map Nd.b)
  · exact h.nv.sublist (hs.map (·.v.ownBlock))
  · exact fun l hl => h.gens l (hs.subset hl)

/-- a leaf's children stay nil -/
theorem LeafUpd.nil {w : World} {l : Nd} (h : LeafAt w l) : LeafUpd w (w.setCell ⟨l.b, 1, none⟩ (.slice none 0 0)) l l := by
  have hc := Chg.set (w := w) ⟨l.b, 1, none⟩ (.slice none 0 0)
  refine ⟨⟨set_node1 h.node, own_kept h.row hc (fun g hg e => ?_)⟩, rfl, rfl, .inl rfl, hc.mono (fun j hj => .inl hj)⟩
  exact own_ne h.row h.node (by decide) (by rw [hg]; exact congrArg some e)

theorem Yba.appnil (ty : TypeId) (w : World) : (Builtin.append_ #[53, 53] ty #[.slice none 0 0, .slice none 0 0]).run Yba.prog w = .ok (.slice none 0 0) w := by
  kernel_rfl

theorem step_append_nil {ops : Array Oper} {o : Oper} {a : Act} {w : World} {K : Act → World → Prop} {Q : Exit → Act → World → Prop} {E : Prop} (hgd : o.guard = none) (s x : Operand)
    (ho : o.op = .call { callee := .builtin .append, args := #[s, x], argTypes := #[53, 53] }) (hs : a.eval s = .slice none 0 0) (hx : a.eval x = .slice none 0 0) (h : K (a.put o.dst (.slice none 0 0)) w) :
    if Region.wanted o (yielded ops a.tmps) = true then Oper.wp Yba.prog o a w K Q else E := by
  have hw : Region.wanted o (yielded ops a.tmps) = true := by simp [Region.wanted, hgd]
  rw [if_pos hw]
  unfold Oper.wp
  simp [execOp, ho, resolve, invoke, builtin, hs, hx, Yba.appnil, Result.andThen]
  exact h

theorem get_split {α : Type} {L : List α} {i : Nat} {x : α} (h : L[i]? = some x) : L = L.take i ++ x :: L.drop (i + 1) ∧ (L.take i).length = i := by
  have hi := (List.getElem?_eq_some_iff.1 h).1
  constructor
  · have h2 : L.drop i = x :: L.drop (i + 1) := by
      rw [List.drop_eq_getElem_cons hi]
      rw [List.getElem?_eq_getElem hi] at h
      rw [Option.some.inj h]
    rw [← h2, List.take_append_drop]
  · simp; omega

theorem set_split {α : Type} {L : List α} {i : Nat} (a : α) (h : i < L.length) : L.set i a = L.take i ++ a :: L.drop (i + 1) := by
  rw [List.set_eq_take_append_cons_drop, if_pos h]

set_option maxHeartbeats 2000000 in
theorem merge_any (w : World) (B G : Nat) (r : Rt) (i : Nat) (l m : Nd) (s : Nat) (h : RootAt w B G r) (hi : r.ks[i]? = some l) (hj : r.ks[i + 1]? = some m) (hs : r.ss[i]? = some s) (hkm : r.ks.length < 900) (hsm : r.ss.length < 900) (hl : l.xs.length < 64) (hm : m.xs.length < 64) :
    Calls Yba.prog 22 #[.pointer (some ⟨r.b, 0, none⟩), .int .i64 (i : Int), .int .u64 (G : Int)] w fun e w' => (∃ v, e = .returned v) ∧ Below B w w' ∧ ∃ r' l2, RootAt w' B G r' ∧ r'.b = r.b ∧ r'.ss = r.ss.take i ++ r.ss.drop (i + 1) ∧ r'.ks = r.ks.take i ++ l2 :: r.ks.drop (i + 2) ∧ l2.gen = G ∧ l2.xs = l.xs ++ s :: m.xs := by
  obtain ⟨i0, hi0, hz0, hz1, hz2⟩ := info_parts Yba.info57
  have hil : i + 1 < r.ks.length := (List.getElem?_eq_some_iff.1 hj).1
  have hsl : i < r.ss.length := (List.getElem?_eq_some_iff.1 hs).1
  obtain ⟨gu, cu, hu⟩ := h.kidForm (by omega)
  obtain ⟨gs, cs, hv⟩ := h.itemForm (by omega)
  obtain ⟨c1, e1⟩ := h.kidCell hu hj
  have HH : Hid (RootAt w B G r) := h
  have HI : Hid (r.ks[i]? = some l) := hi
  have HJ : Hid (r.ks[i + 1]? = some m) := hj
  have HS : Hid (r.ss[i]? = some s) := hs
  obtain ⟨M, hM⟩ : ∃ M, r.ks.length = M := ⟨_, rfl⟩
  obtain ⟨N, hN⟩ : ∃ N, r.ss.length = N := ⟨_, rfl⟩
  rw [hM] at hu hil hkm c1
  rw [hN] at hv hsl hsm
  have HU : Hid (r.u = .slice (some ⟨gu, 0, none⟩) M cu) := hu
  have HV : Hid (r.v = .slice (some ⟨gs, 0, none⟩) N cs) := hv
  have HM : Hid (r.ks.length = M) := hM
  have HN : Hid (r.ss.length = N) := hN
  have hil' : (i : Int) + 1 < (M : Int) := by omega
  have hsl' : (i : Int) < (N : Int) := by omega
  have hw1 : IntKind.i64.wrap ((i : Int) + 1) = (i : Int) + 1 := by rw [IntKind.wrap_i64]; omega
  obtain ⟨j, hjj⟩ : ∃ j, j = i + 1 := ⟨_, rfl⟩
  have hji : (i : Int) + 1 = (j : Int) := by omega
  rw [← hjj] at e1
  rw [hji] at hil' hw1
  have HJJ : Hid (j = i + 1) := hjj
  clear h hi hj hs hu hv hM hN hjj
  go_enter Yba.func22, Yba.ntmps22
  go_wp2_with fail
  go_region_held3 (fun w' => w'.cell? ⟨r.b, 1, none⟩ = some (.slice (some ⟨gu, 0, none⟩) M cu) ∧ w'.cell? ⟨gu, j, none⟩ = some (.pointer (some ⟨m.b, 0, none⟩))) (first | go_keep | exact ⟨p1, p2⟩) ((go_at_call 19; refine (child_any _ B G r i l ?_ HI.out ?_ ?_).mono ?_; (first | exact HH.out | exact HH.out.drew'); (have := HM.out; omega); omega; rintro e w1 ⟨l', rfl, hxs, hgen, hR1, hB1, _⟩; obtain ⟨p1, p2⟩ := hR1.kidCell HU.out (i := j) (l := m) (by rw [HJJ.out]; show (r.ks.set i l')[i + 1]? = some m; rw [List.getElem?_set_ne (by omega)]; exact HJ.out); have HR1 : Hid (RootAt w1 B G { r with ks := r.ks.set i l' } ∧ Below B w w1 ∧ l'.xs = l.xs ∧ l'.gen = G) := ⟨hR1, ⟨hB1.os, hB1.tape, hB1.output, hB1.size, hB1.block⟩, hxs, hgen⟩; clear hR1 hB1 hxs hgen))
  go_upto_region 1 with fail
  have HI1 : Hid ((r.ks.set i l')[i]? = some l') := List.getElem?_set_self (by have := HM.out; omega)
  have HJ1 : Hid ((r.ks.set i l')[i + 1]? = some m) := by
    show (r.ks.set i l')[i + 1]? = some m
    rw [List.getElem?_set_ne (by omega)]; exact HJ.out
  have HL1 : Hid (LeafAt w1 l') := HR1.out.1.leaf l' (List.mem_of_getElem? HI1.out)
  have HM1 : Hid (LeafAt w1 m) := HR1.out.1.leaf m (List.mem_of_getElem? HJ1.out)
  have h0l := HR1.out.1.full l' (List.mem_of_getElem? HI1.out)
  have h0m := HR1.out.1.full m (List.mem_of_getElem? HJ1.out)
  obtain ⟨gl, cl, hvl, hgl, _⟩ := HL1.out.row.cell h0l
  obtain ⟨gm, cm, hvm, hgm, _⟩ := HM1.out.row.cell h0m
  obtain ⟨q0, x0, x1, hgs⟩ := HR1.out.1.itemCell HV.out (i := i) (s := s) HS.out
  obtain ⟨l0, l1, _, lf0, lf1, hlb⟩ := heap_node HL1.out.node
  obtain ⟨m0, m1, _, _, _, hmb⟩ := heap_node HM1.out.node
  have hrb : r.b < w1.heap.size := HR1.out.1.lt
  obtain ⟨L, hL⟩ : ∃ L, l'.xs.length = L := ⟨_, rfl⟩
  obtain ⟨Q, hQ⟩ : ∃ Q, m.xs.length = Q := ⟨_, rfl⟩
  have hL64 : L < 64 := by rw [← hL, HR1.out.2.2.1]; exact hl
  rw [hL] at hvl h0l
  rw [hQ] at hvm h0m hm
  have HL : Hid (l'.xs.length = L) := hL
  have HQ : Hid (m.xs.length = Q) := hQ
  have HVL : Hid (l'.v = .slice (some ⟨gl, 0, none⟩) L cl) := hvl
  have HVM : Hid (m.v = .slice (some ⟨gm, 0, none⟩) Q cm) := hvm
  rw [hvl] at l0
  rw [hvm] at m0
  have n1 : gl ≠ l'.b := fun e => own_ne HL1.out.row HL1.out.node (by decide) (by rw [HVL.out, ← e]; rfl)
  have n2 : gl ≠ m.b := fun e => own_ne HL1.out.row HM1.out.node (by decide) (by rw [HVL.out, ← e]; rfl)
  have n3 : gl ≠ r.b := fun e => own_ne HL1.out.row HR1.out.1.node (by decide) (by rw [HVL.out, ← e]; rfl)
  have n4 : gl ≠ gs := fun e => HR1.out.1.nr l' (List.mem_of_getElem? HI1.out) (by show r.v.ownBlock = _; rw [HV.out, HVL.out, e]; rfl)
  have n5 : gl ≠ gm := fun e => (HR1.out.1.apart HI1.out HJ1.out (by omega)).2 (by rw [HVL.out, HVM.out, e]; rfl)
  have n6 : l'.b ≠ r.b := fun e => HR1.out.1.root_ne (List.mem_of_getElem? HI1.out) e.symm
  have n7 : l'.b ≠ m.b := (HR1.out.1.apart HI1.out HJ1.out (by omega)).1
  have n8 : l'.b ≠ gs := fun e => own_ne HR1.out.1.row HL1.out.node (by decide) (by show r.v.ownBlock = _; rw [HV.out, e]; rfl)
  have HROW : Hid (w1.ownsRow 0 57 2 (.slice (some ⟨gl, 0, none⟩) L cl) L (itemCells l'.xs)) := by
    have := HL1.out.row
    unfold Items at this
    rw [hvl, hL] at this
    exact this
  have HNM : Hid (∀ k u, (itemCells m.xs)[k]? = some u → w1.cell? ((⟨gm, 0, none⟩ : Addr).add k) = some u) := World.ownsRow.cells HM1.out.row (g := gm) (by rw [hvm]; rfl)
  have hml : L + 1 ≤ maxLen := by unfold maxLen; omega
  have hml2 : L + 1 + Q ≤ maxLen := by unfold maxLen; omega
  clear hl hL hQ hvl hvm
  have z0 := (cell_past w1 (.cells #[.string (keyB s), .int .i64 (s : Int)] 57) l'.b 0 hlb).trans l0
  have z1 := (cell_past w1 (.cells #[.string (keyB s), .int .i64 (s : Int)] 57) r.b 0 hrb).trans q0
  have z2 := (cell_past w1 (.cells #[.string (keyB s), .int .i64 (s : Int)] 57) m.b 0 hmb).trans m0
  have z3 := (cell_past w1 (.cells #[.string (keyB s), .int .i64 (s : Int)] 57) gs (i * 2) hgs).trans x0
  have z4 := (cell_past w1 (.cells #[.string (keyB s), .int .i64 (s : Int)] 57) gs (i * 2 + 1) hgs).trans x1
  have z5 := (((Below.refl w1.heap.size w1).alloc (Nat.le_refl _) (.cells #[.string (keyB s), .int .i64 (s : Int)] 57)).frozen (p := ⟨l'.b, 0, none⟩) hlb).trans lf0
  have HROWA : Hid ((w1.alloc (.cells #[.string (keyB s), .int .i64 (s : Int)] 57)).ownsRow 0 57 2 (.slice (some ⟨gl, 0, none⟩) L cl) L (itemCells l'.xs)) := World.ownsRow.alloc HROW.out _
  have HNEW : Hid (∀ k u, [Value.string (keyB s), Value.int .i64 (s : Int)][k]? = some u → (w1.alloc (.cells #[.string (keyB s), .int .i64 (s : Int)] 57)).cell? ((⟨w1.heap.size, 0, none⟩ : Addr).add k) = some u) := World.news_of_block (cs := #[.string (keyB s), .int .i64 (s : Int)]) (t := 57) (fr := (0, 0)) (heap_alloc_new w1 _)
  have HQ2 : Hid ((itemCells m.xs).length = Q * 2) := by
    show _ = _
    rw [itemCells_length, HQ.out]
  have hby1 : (L + 1) * 24 ≤ 140737488355328 := by omega
  have hby2 : (L + 1 + Q) * 24 ≤ 140737488355328 := by omega
  refine region_anyE (fun w' => w'.cell? ⟨l'.b, 0, none⟩ = some (.slice (some ⟨gl, 0, none⟩) L cl) ∧ w'.cell? ⟨r.b, 0, none⟩ = some (.slice (some ⟨gs, 0, none⟩) N cs) ∧ w'.cell? ⟨m.b, 0, none⟩ = some (.slice (some ⟨gm, 0, none⟩) Q cm) ∧ w'.cell? ⟨gs, i * 2, none⟩ = some (.string (keyB s)) ∧ w'.cell? ⟨gs, i * 2 + 1, none⟩ = some (.int .i64 (s : Int))) 21 (by kernel_rfl) ?_
  have hS : (fun w' => w'.cell? ⟨l'.b, 0, none⟩ = some (.slice (some ⟨gl, 0, none⟩) L cl) ∧ w'.cell? ⟨r.b, 0, none⟩ = some (.slice (some ⟨gs, 0, none⟩) N cs) ∧ w'.cell? ⟨m.b, 0, none⟩ = some (.slice (some ⟨gm, 0, none⟩) Q cm) ∧ w'.cell? ⟨gs, i * 2, none⟩ = some (.string (keyB s)) ∧ w'.cell? ⟨gs, i * 2 + 1, none⟩ = some (.int .i64 (s : Int))) w1.drew := ⟨l0, q0, m0, x0, x1⟩
  refine anyE_take (i := 0) (v := ?_) rfl (by kernel_rfl) (by kernel_rfl) (by kernel_rfl) (by kernel_rfl) (fun _ _ _ h => h) (Or.inl ⟨by rfl, ?_⟩) hS ?_
  rotate_left
  · intro w0 hw0
    (try dsimp only at hw0)
    go_simp
    all_goals with_reducible rfl
  (try simp only [Act.put, List.setIfInBounds_toArray, List.set_cons_zero, List.set_cons_succ])
  refine anyE_take (i := 1) (v := ?_) rfl (by kernel_rfl) (by kernel_rfl) (by kernel_rfl) (by kernel_rfl) (fun _ _ _ h => h) (Or.inl ⟨by rfl, ?_⟩) hS ?_
  rotate_left
  · intro w0 hw0
    (try dsimp only at hw0)
    go_simp
    all_goals with_reducible rfl
  (try simp only [Act.put, List.setIfInBounds_toArray, List.set_cons_zero, List.set_cons_succ])
  refine anyE_take (i := 2) (v := ?_) rfl (by kernel_rfl) (by kernel_rfl) (by kernel_rfl) (by kernel_rfl) (fun _ _ _ h => h) (Or.inl ⟨by rfl, ?_⟩) hS ?_
  rotate_left
  · intro w0 hw0
    (try dsimp only at hw0)
    go_simp
    all_goals with_reducible rfl
  (try simp only [Act.put, List.setIfInBounds_toArray, List.set_cons_zero, List.set_cons_succ])
  refine anyE_take (i := 3) (v := ?_) rfl (by kernel_rfl) (by kernel_rfl) (by kernel_rfl) (by kernel_rfl) (fun _ _ _ h => h) (Or.inl ⟨by rfl, ?_⟩) hS ?_
  rotate_left
  · intro w0 hw0
    (try dsimp only at hw0)
    go_simp
    all_goals with_reducible rfl
  (try simp only [Act.put, List.setIfInBounds_toArray, List.set_cons_zero, List.set_cons_succ])
  refine anyE_take (i := 4) (v := ?_) rfl (by kernel_rfl) (by kernel_rfl) (by kernel_rfl) (by kernel_rfl) (fun _ _ _ h => h) (Or.inl ⟨by rfl, ?_⟩) hS ?_
  rotate_left
  · intro w0 hw0
    (try dsimp only at hw0)
    go_simp
    all_goals with_reducible rfl
  (try simp only [Act.put, List.setIfInBounds_toArray, List.set_cons_zero, List.set_cons_succ])
  refine anyE_take (i := 5) (v := ?_) rfl (by kernel_rfl) (by kernel_rfl) (by kernel_rfl) (by kernel_rfl) (fun _ _ _ h => h) (Or.inl ⟨by rfl, ?_⟩) hS ?_
  rotate_left
  · intro w0 hw0
    (try dsimp only at hw0)
    go_simp
    all_goals with_reducible rfl
  (try simp only [Act.put, List.setIfInBounds_toArray, List.set_cons_zero, List.set_cons_succ])
  refine anyE_take (i := 6) (v := ?_) rfl (by kernel_rfl) (by kernel_rfl) (by kernel_rfl) (by kernel_rfl) (fun _ _ _ h => h) (Or.inl ⟨by rfl, ?_⟩) hS ?_
  rotate_left
  · intro w0 hw0
    (try dsimp only at hw0)
    go_simp
    all_goals with_reducible rfl
  (try simp only [Act.put, List.setIfInBounds_toArray, List.set_cons_zero, List.set_cons_succ])
  refine anyE_take (i := 7) (v := ?_) rfl (by kernel_rfl) (by kernel_rfl) (by kernel_rfl) (by kernel_rfl) (fun _ _ _ h => h) (Or.inl ⟨by rfl, ?_⟩) hS ?_
  rotate_left
  · intro w0 hw0
    (try dsimp only at hw0)
    go_simp
    all_goals with_reducible rfl
  (try simp only [Act.put, List.setIfInBounds_toArray, List.set_cons_zero, List.set_cons_succ])
  refine anyE_take (i := 8) (v := ?_) rfl (by kernel_rfl) (by kernel_rfl) (by kernel_rfl) (by kernel_rfl) (fun _ _ _ h => h) (Or.inl ⟨by rfl, ?_⟩) hS ?_
  rotate_left
  · intro w0 hw0
    (try dsimp only at hw0)
    go_simp
    all_goals with_reducible rfl
  (try simp only [Act.put, List.setIfInBounds_toArray, List.set_cons_zero, List.set_cons_succ])
  refine anyE_take (i := 9) (v := ?_) rfl (by kernel_rfl) (by kernel_rfl) (by kernel_rfl) (by kernel_rfl) (fun _ _ _ h => h) (Or.inl ⟨by rfl, ?_⟩) hS ?_
  rotate_left
  · intro w0 hw0
    (try dsimp only at hw0)
    go_simp
    all_goals with_reducible rfl
  (try simp only [Act.put, List.setIfInBounds_toArray, List.set_cons_zero, List.set_cons_succ])
  refine anyE_take (i := 10) (v := ?_) rfl (by kernel_rfl) (by kernel_rfl) (by kernel_rfl) (by kernel_rfl) (fun _ _ _ h => h) (Or.inl ⟨by rfl, ?_⟩) hS ?_
  rotate_left
  · intro w0 hw0
    (try dsimp only at hw0)
    go_simp
    all_goals with_reducible rfl
  (try simp only [Act.put, List.setIfInBounds_toArray, List.set_cons_zero, List.set_cons_succ])
  refine anyE_take (i := 11) (v := ?_) rfl (by kernel_rfl) (by kernel_rfl) (by kernel_rfl) (by kernel_rfl) (fun _ _ _ h => h) (Or.inl ⟨by rfl, ?_⟩) hS ?_
  rotate_left
  · intro w0 hw0
    (try dsimp only at hw0)
    go_simp
    all_goals with_reducible rfl
  (try simp only [Act.put, List.setIfInBounds_toArray, List.set_cons_zero, List.set_cons_succ])
  refine anyE_take (i := 14) (v := ?_) rfl (by kernel_rfl) (by kernel_rfl) (by kernel_rfl) (by kernel_rfl) (fun _ _ _ h => h) (Or.inl ⟨by rfl, ?_⟩) hS ?_
  rotate_left
  · intro w0 hw0
    (try dsimp only at hw0)
    go_simp
    all_goals with_reducible rfl
  (try simp only [Act.put, List.setIfInBounds_toArray, List.set_cons_zero, List.set_cons_succ])
  refine anyE_take (i := 15) (v := ?_) rfl (by kernel_rfl) (by kernel_rfl) (by kernel_rfl) (by kernel_rfl) (fun _ _ _ h => h) (Or.inl ⟨by rfl, ?_⟩) hS ?_
  rotate_left
  · intro w0 hw0
    (try dsimp only at hw0)
    go_simp
    all_goals with_reducible rfl
  (try simp only [Act.put, List.setIfInBounds_toArray, List.set_cons_zero, List.set_cons_succ])
  refine anyE_take (i := 16) (v := ?_) rfl (by kernel_rfl) (by kernel_rfl) (by kernel_rfl) (by kernel_rfl) (fun _ _ _ h => h) (Or.inl ⟨by rfl, ?_⟩) hS ?_
  rotate_left
  · intro w0 hw0
    (try dsimp only at hw0)
    go_simp
    all_goals with_reducible rfl
  (try simp only [Act.put, List.setIfInBounds_toArray, List.set_cons_zero, List.set_cons_succ])
  refine anyE_take (i := 17) (v := ?_) rfl (by kernel_rfl) (by kernel_rfl) (by kernel_rfl) (by kernel_rfl) (fun _ _ _ h => h) (Or.inl ⟨by rfl, ?_⟩) hS ?_
  rotate_left
  · intro w0 hw0
    (try dsimp only at hw0)
    go_simp
    all_goals with_reducible rfl
  (try simp only [Act.put, List.setIfInBounds_toArray, List.set_cons_zero, List.set_cons_succ])
  refine anyE_step (i := 12) rfl (by kernel_rfl) (fun K hK => ?_)
  go_simp
  refine hK.out _ _ (fun _ => ⟨z0, z1, z2, z3, z4⟩) ?_
  clear hK K
  (try simp only [Act.put, List.setIfInBounds_toArray, List.set_cons_zero, List.set_cons_succ])
  refine anyE_step (i := 13) rfl (by kernel_rfl) (fun K hK => ?_)
  refine step_append_lies _ (by rfl) (.tmp 24) (.tmp 32) 49 (by rfl) 0 57 i0 (.agg #[.string ⟨#[]⟩, .int .i64 0]) 2 24 Yba.underlying49 hi0 hz0 hz1 hz2 rfl (by decide) (.slice (some ⟨gl, 0, none⟩) L cl) L (itemCells l'.xs) (by rfl) HROWA.out ⟨w1.heap.size, 0, none⟩ 1 1 [.string (keyB s), .int .i64 (s : Int)] (by rfl) (by rfl) HNEW.out ?_ (by decide) hml hby1 (Nat.zero_le _) _ rfl ?_
  · intro u hu
    simp at hu
    rcases hu with rfl | rfl <;> rfl
  intro g2 c2 w2 hown2 hgrow2 hat2 hlt2
  have a0 := (hgrow2.cell_far ⟨l'.b, 0, none⟩ (by simp; omega) (by simp [Value.ownBlock]; omega)).trans z0
  have a1 := (hgrow2.cell_far ⟨r.b, 0, none⟩ (by simp; omega) (by simp [Value.ownBlock]; omega)).trans z1
  have a2 := (hgrow2.cell_far ⟨m.b, 0, none⟩ (by simp; omega) (by simp [Value.ownBlock]; omega)).trans z2
  have a3 := (hgrow2.cell_far ⟨gs, i * 2, none⟩ (by simp; omega) (by simp [Value.ownBlock]; omega)).trans z3
  have a4 := (hgrow2.cell_far ⟨gs, i * 2 + 1, none⟩ (by simp; omega) (by simp [Value.ownBlock]; omega)).trans z4
  have a5 := (hgrow2.frozen_far ⟨l'.b, 0, none⟩ (by simp; omega) (by simp [Value.ownBlock]; omega)).trans z5
  have HO2 : Hid (w2.ownsRow 0 57 2 (.slice (some ⟨g2, 0, none⟩) (L + 1) c2) (L + 1) (itemCells l'.xs ++ [.string (keyB s), .int .i64 (s : Int)])) := hown2
  have HC2 : Hid (w1.grownBy w2 (some gl)) := ⟨hgrow2.os, hgrow2.tape, hgrow2.output, Nat.le_trans (by simp) hgrow2.size, fun k hk hne => (hgrow2.block k (by simp; omega) hne).trans (Below.heap_alloc w1 _ k hk)⟩
  have HG2 : Hid (g2 = gl ∨ w1.heap.size ≤ g2) := hat2.elim (fun h => .inl (by cases h; rfl)) (fun h => .inr (by rw [h]; simp))
  have HN2 : Hid (∀ k u, (itemCells m.xs)[k]? = some u → w2.cell? ((⟨gm, 0, none⟩ : Addr).add k) = some u) := by
    intro k u hk
    have h1 := HNM.out k u hk
    rw [Addr.add_lit] at h1 ⊢
    exact (HC2.out.cell_far ⟨gm, 0 + k, none⟩ hgm (by simp; omega)).trans h1
  have hs2 : w1.heap.size ≤ w2.heap.size := HC2.out.size
  clear hown2 hgrow2 hat2
  refine hK.out _ _ (fun _ => ⟨a0, a1, a2, a3, a4⟩) ?_
  clear hK K
  (try simp only [Act.put, List.setIfInBounds_toArray, List.set_cons_zero, List.set_cons_succ])
  refine anyE_step (i := 18) rfl (by kernel_rfl) (fun K hK => ?_)
  refine step_append_lies _ (by rfl) (.tmp 33) (.tmp 37) 49 (by rfl) 0 57 i0 (.agg #[.string ⟨#[]⟩, .int .i64 0]) 2 24 Yba.underlying49 hi0 hz0 hz1 hz2 rfl (by decide) (.slice (some ⟨g2, 0, none⟩) (L + 1) c2) (L + 1) (itemCells l'.xs ++ [.string (keyB s), .int .i64 (s : Int)]) (by rfl) HO2.out ⟨gm, 0, none⟩ Q cm (itemCells m.xs) (by rfl) HQ2.out HN2.out (itemCells_one _) h0m hml2 hby2 (Nat.zero_le _) _ rfl ?_
  intro g3 c3 w3 hown3 hgrow3 hat3 hlt3
  have hg2 := HG2.out
  have b0 := (hgrow3.cell_far ⟨l'.b, 0, none⟩ (by simp; omega) (by simp [Value.ownBlock]; omega)).trans a0
  have b1 := (hgrow3.cell_far ⟨r.b, 0, none⟩ (by simp; omega) (by simp [Value.ownBlock]; omega)).trans a1
  have b2 := (hgrow3.cell_far ⟨m.b, 0, none⟩ (by simp; omega) (by simp [Value.ownBlock]; omega)).trans a2
  have b3 := (hgrow3.cell_far ⟨gs, i * 2, none⟩ (by simp; omega) (by simp [Value.ownBlock]; omega)).trans a3
  have b4 := (hgrow3.cell_far ⟨gs, i * 2 + 1, none⟩ (by simp; omega) (by simp [Value.ownBlock]; omega)).trans a4
  have b5 := (hgrow3.frozen_far ⟨l'.b, 0, none⟩ (by simp; omega) (by simp [Value.ownBlock]; omega)).trans a5
  have HI3 : Hid (Items w3 (.slice (some ⟨g3, 0, none⟩) (L + 1 + Q) c3) (l.xs ++ s :: m.xs)) := by
    show w3.ownsRow 0 57 2 _ (l.xs ++ s :: m.xs).length _
    have e1 : (l.xs ++ s :: m.xs).length = L + 1 + Q := by
      have h1 := HL.out
      have h2 := HQ.out
      rw [HR1.out.2.2.1] at h1
      simp
      omega
    rw [e1, itemCells_append, itemCells_cons, ← HR1.out.2.2.1]
    have e2 : itemCells l'.xs ++ [.string (keyB s), .int .i64 (s : Int)] ++ itemCells m.xs = itemCells l'.xs ++ (.string (keyB s) :: .int .i64 (s : Int) :: itemCells m.xs) := by simp
    rw [← e2]
    exact hown3
  have HC3 : Hid (w1.grownBy w3 (some gl)) := ⟨hgrow3.os.trans HC2.out.os, hgrow3.tape.trans HC2.out.tape, hgrow3.output.trans HC2.out.output, Nat.le_trans hs2 hgrow3.size, fun k hk hne => (hgrow3.block k (by omega) (fun e => by have e' : k = g2 := (by cases e; rfl); rcases hg2 with h | h; exact hne (by rw [e', h]); omega)).trans (HC2.out.block k hk hne)⟩
  have HG3 : Hid (g3 = gl ∨ w1.heap.size ≤ g3) := hat3.elim (fun h => by cases h; exact hg2) (fun h => .inr (by rw [h]; exact hs2))
  have hS : (fun w' => w'.cell? ⟨l'.b, 0, none⟩ = some (.slice (some ⟨gl, 0, none⟩) L cl) ∧ w'.cell? ⟨r.b, 0, none⟩ = some (.slice (some ⟨gs, 0, none⟩) N cs) ∧ w'.cell? ⟨m.b, 0, none⟩ = some (.slice (some ⟨gm, 0, none⟩) Q cm) ∧ w'.cell? ⟨gs, i * 2, none⟩ = some (.string (keyB s)) ∧ w'.cell? ⟨gs, i * 2 + 1, none⟩ = some (.int .i64 (s : Int))) w3 := ⟨b0, b1, b2, b3, b4⟩
  clear hown3 hgrow3 hat3 hg2
  refine hK.out _ _ (fun _ => hS) ?_
  clear hK K
  (try simp only [Act.put, List.setIfInBounds_toArray, List.set_cons_zero, List.set_cons_succ])
  refine anyE_step (i := 19) rfl (by kernel_rfl) (fun K hK => ?_)
  go_simp
  refine hK.out _ _ (fun _ => hS) ?_
  clear hK K
  (try simp only [Act.put, List.setIfInBounds_toArray, List.set_cons_zero, List.set_cons_succ])
  refine anyE_step (i := 20) rfl (by kernel_rfl) (fun K hK => ?_)
  go_simp
  refine hK.out _ _ (fun _ => hS) ?_
  clear hK K
  (try simp only [Act.put, List.setIfInBounds_toArray, List.set_cons_zero, List.set_cons_succ])
  refine anyE_step (i := 21) rfl (by kernel_rfl) (fun K hK => ?_)
  go_simp
  refine hK.out _ _ (fun h => absurd rfl h) ?_
  clear hK K
  refine anyE_done (by kernel_rfl) ?_ _
  (try simp only [Act.put, List.setIfInBounds_toArray, List.set_cons_zero, List.set_cons_succ])
  go_upto_region 2 with fail
  obtain ⟨l2, hl2⟩ : ∃ l2 : Nd, l2 = { l' with v := .slice (some ⟨g3, 0, none⟩) (L + 1 + Q) c3, xs := l.xs ++ s :: m.xs } := ⟨_, rfl⟩
  have HU4 : Hid (LeafUpd w1 (w3.setCell ⟨l'.b, 0, none⟩ (.slice (some ⟨g3, 0, none⟩) (L + 1 + Q) c3)) l' l2) := by
    rw [hl2]
    refine leaf_items HL1.out HI3.out ⟨?_, ?_⟩
    · rw [HVL.out]; exact HC3.out
    · rw [HVL.out]
      exact HG3.out.imp (fun h => by rw [h]; rfl) (fun h => ⟨g3, rfl, h⟩)
  have HX2 : Hid (l2.gen = G ∧ l2.xs = l.xs ++ s :: m.xs) := by rw [hl2]; exact ⟨HR1.out.2.2.2, rfl⟩
  have e2b : l2.b = l'.b := by rw [hl2]
  have hil0 : i < r.ks.length := by have := HM.out; omega
  have HR4 : Hid (RootAt (w3.setCell ⟨l'.b, 0, none⟩ (.slice (some ⟨g3, 0, none⟩) (L + 1 + Q) c3)) B G { r with ks := r.ks.set i l2 } ∧ Below B w (w3.setCell ⟨l'.b, 0, none⟩ (.slice (some ⟨g3, 0, none⟩) (L + 1 + Q) c3))) := by
    have h1 := HR1.out.1.setKid HI1.out HU4.out HR1.out.2.2.2 (by rw [HX2.out.2, List.length_append, List.length_cons]; omega)
    simp only [List.set_set] at h1
    exact ⟨h1.1, HR1.out.2.1.trans h1.2⟩
  obtain ⟨W4, hW4⟩ : ∃ W4, W4 = w3.setCell ⟨l'.b, 0, none⟩ (.slice (some ⟨g3, 0, none⟩) (L + 1 + Q) c3) := ⟨_, rfl⟩
  rw [← hW4] at HR4 ⊢
  rw [← e2b]
  clear hW4 HU4 hl2 HI3 HC3 HG3 HO2 HC2 HG2 HN2 a0 a1 a2 a3 a4 a5 b0 b1 b2 b3 b4 b5 z0 z1 z2 z3 z4 z5 hS HROWA HNEW HNM HROW l0 l1 lf0 lf1 m0 m1 q0 x0 x1 hgs hgl hgm hlb hmb hrb hs2 hlt2 hlt3 HVL HVM n1 n2 n3 n4 n5 n6 n7 n8 HL1 HM1 p1 p2 e2b
  have HI4 : Hid ((r.ks.set i l2)[i]? = some l2) := List.getElem?_set_self hil0
  have HJ4 : Hid ((r.ks.set i l2)[i + 1]? = some m) := by
    show (r.ks.set i l2)[i + 1]? = some m
    rw [List.getElem?_set_ne (by omega)]; exact HJ.out
  have n9 : l2.b ≠ m.b := (HR4.out.1.apart HI4.out HJ4.out (by omega)).1
  have HL4 : Hid (LeafAt W4 l2) := HR4.out.1.leaf l2 (List.mem_of_getElem? HI4.out)
  obtain ⟨_, d1, _, _, df1, hd⟩ := heap_node HL4.out.node
  obtain ⟨_, f1, _, _, _, hf⟩ := heap_node (HR4.out.1.leaf m (List.mem_of_getElem? HJ4.out)).node
  have y0 : (W4.setCell ⟨l2.b, 1, none⟩ (.slice none 0 0)).cell? ⟨l2.b, 1, none⟩ = some (.slice none 0 0) := World.cell?_setCell_same W4 _ _ d1
  have y1 := (cell_set_other W4 ⟨l2.b, 1, none⟩ (.slice none 0 0) m.b 1 (.inl n9)).trans f1
  go_region_held3 (fun w' => w'.cell? ⟨l2.b, 1, none⟩ = some (.slice none 0 0) ∧ w'.cell? ⟨m.b, 1, none⟩ = some (.slice none 0 0)) (first | exact ⟨d1, f1⟩ | exact ⟨y0, y1⟩) ((refine step_append_nil (by rfl) (.tmp 45) (.tmp 49) (by rfl) (by rfl) (by rfl) ?_))
  go_upto_region 3 with fail
  obtain ⟨W5, hW5⟩ : ∃ W5, W5 = (W4.setCell ⟨l2.b, 1, none⟩ (.slice none 0 0)).drew := ⟨_, rfl⟩
  have HR5 : Hid (RootAt W5 B G { r with ks := r.ks.set i l2 } ∧ Below B w W5) := by
    have h1 := HR4.out.1.setKid HI4.out (LeafUpd.nil HL4.out) HX2.out.1 (by rw [HX2.out.2, List.length_append, List.length_cons]; omega)
    simp only [List.set_set] at h1
    rw [hW5]
    exact ⟨h1.1.drew', (HR4.out.2.trans h1.2).drew⟩
  rw [← hW5]
  clear hW5 HR4 HI4 HJ4 HL4 d1 df1 hd f1 hf y0 y1 n9
  obtain ⟨c0', c1', _, g0', g1', hlt5⟩ := heap_node HR5.out.1.node
  have q0 : W5.cell? ⟨r.b, 0, none⟩ = some (.slice (some ⟨gs, 0, none⟩) N cs) := by rw [← HV.out]; exact c0'
  have q1 : W5.cell? ⟨r.b, 1, none⟩ = some (.slice (some ⟨gu, 0, none⟩) M cu) := by rw [← HU.out]; exact c1'
  have hlt5' : r.b < W5.heap.size := hlt5
  have f0 : W5.frozen? ⟨r.b, 0, none⟩ = false := g0'
  have f1 : W5.frozen? ⟨r.b, 1, none⟩ = false := g1'
  have HSS : Hid (r.ss = r.ss.take i ++ s :: r.ss.drop (i + 1) ∧ (r.ss.take i).length = i) := get_split HS.out
  have HIT : Hid (Items W5 (.slice (some ⟨gs, 0, none⟩) N cs) (r.ss.take i ++ s :: r.ss.drop (i + 1))) := by
    have h1 : Items W5 r.v r.ss := HR5.out.1.row
    rw [HV.out] at h1
    rw [← HSS.out.1]
    exact h1
  clear c0' c1' g0' g1' hlt5
  go_wp2_with fail
  refine (removeI (.slice (some ⟨gs, 0, none⟩) N cs) (r.ss.take i) (r.ss.drop (i + 1)) i s W5 HSS.out.2 HIT.out (by rw [← HSS.out.1, HN.out]; omega)).mono ?_
  rintro e w6 ⟨v6, rfl, hI6, hR6⟩
  obtain ⟨a6, n6, c6, rfl⟩ := own_form' hI6
  have hne : ∀ j, ¬ some (Addr.block ⟨r.b, j, none⟩) = (Value.slice (some ⟨gs, 0, none⟩) N cs).ownBlock := fun j e => own_ne HR5.out.1.row HR5.out.1.node (by decide) (by show r.v.ownBlock = _; rw [HV.out]; exact e.symm)
  have q0' := (hR6.grown.cell_far ⟨r.b, 0, none⟩ hlt5' (hne 0)).trans q0
  have q1' := (hR6.grown.cell_far ⟨r.b, 1, none⟩ hlt5' (hne 1)).trans q1
  have f0' := (hR6.grown.frozen_far ⟨r.b, 0, none⟩ hlt5' (hne 0)).trans f0
  have HR6 : Hid (RootAt (w6.setCell ⟨r.b, 0, none⟩ (.slice a6 n6 c6)) B G { r with v := .slice a6 n6 c6, ss := r.ss.take i ++ r.ss.drop (i + 1), ks := r.ks.set i l2 } ∧ Below B w (w6.setCell ⟨r.b, 0, none⟩ (.slice a6 n6 c6))) := by
    have h1 := root_items (r := { r with ks := r.ks.set i l2 }) HR5.out.1 hI6 (by show NewRow W5 w6 r.v _; rw [HV.out]; exact hR6)
    exact ⟨h1.1, HR5.out.2.trans h1.2⟩
  clear hI6 hR6 hne q0 q1 f0 f1 HIT HR5
  go_upto_region 4 with fail
  obtain ⟨W7, hW7⟩ : ∃ W7, W7 = w6.setCell ⟨r.b, 0, none⟩ (.slice a6 n6 c6) := ⟨_, rfl⟩
  rw [← hW7] at HR6 ⊢
  clear hW7 q0' q1' f0'
  obtain ⟨_, c1', _, _, g1', hlt7⟩ := heap_node HR6.out.1.node
  have q1 : W7.cell? ⟨r.b, 1, none⟩ = some (.slice (some ⟨gu, 0, none⟩) M cu) := by rw [← HU.out]; exact c1'
  have hlt7' : r.b < W7.heap.size := hlt7
  have f1 : W7.frozen? ⟨r.b, 1, none⟩ = false := g1'
  have HKS : Hid (r.ks.set i l2 = (r.ks.take i ++ [l2]) ++ m :: r.ks.drop (i + 2) ∧ (r.ks.take i).length = i) := by
    have h1 := set_split l2 hil0
    have h2 : r.ks.drop (i + 1) = m :: r.ks.drop (i + 2) := by
      have h3 := HJ.out
      have h4 : i + 1 < r.ks.length := (List.getElem?_eq_some_iff.1 h3).1
      rw [List.drop_eq_getElem_cons h4]
      rw [List.getElem?_eq_getElem h4] at h3
      rw [Option.some.inj h3]
    refine ⟨by rw [h1, h2]; simp, by simp; omega⟩
  have HKT : Hid (Kids W7 (.slice (some ⟨gu, 0, none⟩) M cu) ((r.ks.take i ++ [l2]).map Nd.b ++ m.b :: (r.ks.drop (i + 2)).map Nd.b)) := by
    have h1 : Kids W7 r.u ((r.ks.set i l2).map Nd.b) := HR6.out.1.kids
    rw [HU.out, HKS.out.1, List.map_append, List.map_cons] at h1
    exact h1
  have HX1 : Hid (((r.ks.take i ++ [l2]).map Nd.b).length = j) := by
    have h1 := HKS.out.2
    have h2 := HJJ.out
    show _ = _
    rw [List.length_map, List.length_append, h1, h2]
    rfl
  have HKL : Hid (((r.ks.take i ++ [l2]).map Nd.b ++ m.b :: (r.ks.drop (i + 2)).map Nd.b).length < 1000) := by
    have h1 : ((r.ks.set i l2).map Nd.b).length < 1000 := by rw [List.length_map, List.length_set, HM.out]; omega
    rw [HKS.out.1, List.map_append, List.map_cons] at h1
    exact h1
  clear c1' g1' hlt7
  go_wp2_with fail
  refine (removeP (.slice (some ⟨gu, 0, none⟩) M cu) ((r.ks.take i ++ [l2]).map Nd.b) ((r.ks.drop (i + 2)).map Nd.b) j m.b W7 HX1.out HKT.out HKL.out).mono ?_
  rintro e w8 ⟨v8, rfl, hI8, hR8⟩
  obtain ⟨a8, n8, c8, rfl⟩ := own_form' hI8
  have hne : ∀ j, ¬ some (Addr.block ⟨r.b, j, none⟩) = (Value.slice (some ⟨gu, 0, none⟩) M cu).ownBlock := fun j e => own_ne HR6.out.1.kids HR6.out.1.node (by decide) (by show r.u.ownBlock = _; rw [HU.out]; exact e.symm)
  have q1' := (hR8.grown.cell_far ⟨r.b, 1, none⟩ hlt7' (hne 1)).trans q1
  have f1' := (hR8.grown.frozen_far ⟨r.b, 1, none⟩ hlt7' (hne 1)).trans f1
  have HR8 : Hid (RootAt (w8.setCell ⟨r.b, 1, none⟩ (.slice a8 n8 c8)) B G ⟨r.b, .slice a6 n6 c6, .slice a8 n8 c8, r.ss.take i ++ r.ss.drop (i + 1), r.ks.take i ++ l2 :: r.ks.drop (i + 2)⟩ ∧ Below B w (w8.setCell ⟨r.b, 1, none⟩ (.slice a8 n8 c8))) := by
    have hsub : (r.ks.take i ++ l2 :: r.ks.drop (i + 2)).Sublist (r.ks.set i l2) := by
      rw [HKS.out.1, List.append_assoc]
      exact (List.Sublist.refl _).append (List.Sublist.cons_cons _ (List.sublist_cons_self _ _))
    have h1 := HR6.out.1.dropKid (ks' := r.ks.take i ++ l2 :: r.ks.drop (i + 2)) hsub (u' := .slice a8 n8 c8) (by
      rw [List.map_append, List.map_cons]
      have h2 := hI8
      rw [List.map_append, List.map_cons, List.map_nil, List.append_assoc] at h2
      exact h2) (by show NewRow W7 w8 r.u _; rw [HU.out]; exact hR8)
    exact ⟨h1.1, HR6.out.2.trans h1.2⟩
  clear hI8 hR8 hne q1 f1
  go_wp2
  refine bodyPost_end (v := .tuple #[]) (by simp [results, Yba.results22, go_sem]) rfl ⟨⟨_, rfl⟩, HR8.out.2, _, l2, HR8.out.1, rfl, rfl, rfl, HX2.out.1, HX2.out.2⟩
end Go.Proofs.Ybulkira
