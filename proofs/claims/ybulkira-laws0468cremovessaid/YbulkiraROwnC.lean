import Derived.Test.YbulkiraRPutR
namespace Go.Proofs.Ybulkira
open Go.RowKit
set_option linter.unusedVariables false
set_option linter.unusedSimpArgs false
attribute [local go_sem ↓] Go.wp_at_zero Go.wp_at_succ

theorem make_kids (N : Nat) (h : N < 1000) : ∃ Z : Array Value, Z.size = (N + 1) * 1 ∧ ∀ w : World, (Instr.makeSlice 53 (.int .i64 0) (.int .i64 ((N : Int) + 1))).run Yba.prog w = .ok (.slice (some ⟨w.heap.size, 0, none⟩) 0 (N + 1)) (w.alloc (.cells Z 45)) := by
  obtain ⟨i0, hi, hz0, hz1, hz2⟩ := info_parts Yba.info45
  refine ⟨madeCells (Value.pointer none).cells ((N + 1) * 1), by rw [size_madeCells], fun w => ?_⟩
  · have := run_make (P := Yba.prog) w 53 45 i0 _ Yba.underlying53 hi hz0 .i64 .i64 0 ((N : Int) + 1) (by omega) (by omega) (by rw [hz2]; omega) (by omega)
    rw [this, hz1, show ((N : Int) + 1).toNat = N + 1 by omega]
    rfl

/-- a root copied for a later generation, over the same leaves -/
theorem root_copy {w w' : World} {B G0 G c : Nat} {r : Rt} {v' u' : Value} (h : RootAt w B G0 r) (hG : G0 < G) (hb : Below w.heap.size w w') (hn : w'.heap[c]? = some (nodeObj v' u' G)) (hc : w.heap.size ≤ c) (hI : Items w' v' r.ss) (hK : Kids w' u' (r.ks.map Nd.b))
    (hv : ∀ g, v'.ownBlock = some g → w.heap.size ≤ g) (hv0 : v'.ownBlock ≠ none) (hu : ∀ g, u'.ownBlock = some g → w.heap.size ≤ g) : RootAt w' w.heap.size G ⟨c, v', u', r.ss, r.ks⟩ := by
  refine ⟨hn, hI, hK, fun l hl => leaf_below (h.leaf l hl) hb, h.full, ?_, h.nv, ?_, hb.size, hc, hv, hu, ?_, ?_⟩
  · refine List.nodup_cons.2 ⟨fun hm => ?_, (List.nodup_cons.1 h.nb).2⟩
    obtain ⟨l, hl, e⟩ := List.mem_map.1 hm
    have h1 := (h.leaf l hl).lt
    have e' : l.b = c := e
    omega
  · intro l hl e
    obtain ⟨g, hg, hgl⟩ := (h.leaf l hl).some (h.full l hl)
    have h1 := hv g (Eq.trans e hg)
    omega
  · intro l hl hg
    have := h.gens l hl
    omega
  · intro l hl
    have := h.gens l hl
    show l.gen ≤ G
    omega
set_option maxRecDepth 100000 in
set_option maxHeartbeats 4000000 in
theorem own_root (w : World) (B G0 G : Nat) (r : Rt) (h : RootAt w B G0 r) (hG : G0 < G) (h0 : 0 < r.ss.length) (hs : r.ss.length < 900) (hk0 : 0 < r.ks.length) (hks : r.ks.length < 900) :
    Calls Yba.prog 12 #[.pointer (some ⟨r.b, 0, none⟩), .int .u64 (G : Int)] w fun e w' => ∃ r', e = .returned (.pointer (some ⟨r'.b, 0, none⟩)) ∧ RootAt w' w.heap.size G r' ∧ r'.ss = r.ss ∧ r'.ks = r.ks ∧ Below w.heap.size w w' := by
  obtain ⟨i0, hi, hz0, hz1, hz2⟩ := info_parts Yba.info57
  obtain ⟨i1, hj, hy0, hy1, hy2⟩ := info_parts Yba.info45
  obtain ⟨c0, c1, c2, _, _, hlt⟩ := heap_node h.node
  obtain ⟨g, c, hv, hgl, _⟩ := h.row.cell h0
  obtain ⟨gu, cu, hu, hgu, _⟩ := h.kids.cell (by simpa using hk0)
  have HNEWS : Hid (∀ j u, (itemCells r.ss)[j]? = some u → w.cell? ((⟨g, 0, none⟩ : Addr).add j) = some u) := World.ownsRow.cells h.row (g := g) (by rw [hv]; rfl)
  have HNEWK : Hid (∀ j u, ((r.ks.map Nd.b).map ptrV)[j]? = some u → w.cell? ((⟨gu, 0, none⟩ : Addr).add j) = some u) := World.ownsRow.cells h.kids (g := gu) (by rw [hu]; rfl)
  obtain ⟨N, hN⟩ : ∃ N, r.ss.length = N := ⟨_, rfl⟩
  obtain ⟨M, hM⟩ : ∃ M, r.ks.length = M := ⟨_, rfl⟩
  rw [hN] at hv h0 hs
  rw [List.length_map, hM] at hu
  rw [hM] at hk0 hks
  rw [hv] at c0
  rw [hu] at c1
  have hge : ¬ ((G0 : Int) = (G : Int)) := by omega
  have HN : Hid (r.ss.length = N) := hN
  have HM : Hid (r.ks.length = M) := hM
  have HH : Hid (RootAt w B G0 r) := h
  have HG : Hid (G0 < G) := hG
  have hsb : IntKind.i64.wrap ((N : Int) + 1) = (N : Int) + 1 := by rw [IntKind.wrap_i64]; omega
  have hsm : IntKind.i64.wrap ((M : Int) + 1) = (M : Int) + 1 := by rw [IntKind.wrap_i64]; omega
  obtain ⟨Z, HZ, hmk⟩ := make_items N (by omega)
  obtain ⟨Z', HZ', hmk'⟩ := make_kids M (by omega)
  have kq : ∀ w : World, (binOp .neq 53 (.slice (some ⟨gu, 0, none⟩) M cu) (.slice none 0 0)).run Yba.prog w = .ok (.bool true) w := fun w => by kernel_rfl
  clear h hN hM hv hu hG
  go_enter Yba.func12, Yba.ntmps12
  go_wp2_with fail
  go_region_held3 (fun w' => w'.cell? ⟨r.b, 0, none⟩ = some (.slice (some ⟨g, 0, none⟩) N c)) (first | go_keep | exact (hgrow.cell_far ⟨r.b, 0, none⟩ (by simp; omega) (by simp [Value.ownBlock]; omega)).trans ((cell_past _ _ _ _ hlt).trans c0)) ((refine step_append_lies _ (by rfl) (.tmp 19) (.tmp 23) 49 (by rfl) 0 57 i0 (.agg #[.string ⟨#[]⟩, .int .i64 0]) 2 24 Yba.underlying49 hi hz0 hz1 hz2 rfl (by decide) (.slice (some ⟨w.heap.size, 0, none⟩) 0 (N + 1)) 0 [] (by rfl) ?_ ⟨g, 0, none⟩ N c (itemCells r.ss) (by rfl) ?_ ?_ (itemCells_one _) h0 ?_ ?_ (Nat.zero_le _) _ rfl ?_; (exact World.ownsRow_made w Z (N + 1) (Nat.zero_le _) (by unfold maxLen; omega) HZ); (rw [itemCells_length, HN.out]); (intro j u hu; have := HNEWS.out j u hu; rw [Addr.add_lit] at this ⊢; exact (cell_past _ _ _ _ hgl).trans this); (unfold maxLen; omega); omega; intro g2 cap w2 hown hgrow hat hlt2))
  have d1 := (hgrow.cell_far ⟨r.b, 1, none⟩ (by simp; omega) (by simp [Value.ownBlock]; omega)).trans ((cell_past _ _ _ _ hlt).trans c1)
  have hs2 : w.heap.size ≤ w2.heap.size := Nat.le_trans (by simp) hgrow.size
  have HB2 : Hid (Below w.heap.size w w2) := ((Below.refl w.heap.size w).alloc (Nat.le_refl _) (.cells Z 57)).drew.grown hgrow (by simp) (fun k hk => by cases hk; exact Nat.le_refl _)
  have HO : Hid (Items w2 (.slice (some ⟨g2, 0, none⟩) N cap) r.ss) := by
    show w2.ownsRow 0 57 2 _ r.ss.length _
    rw [HN.out]
    simpa using hown
  have HG2 : Hid (w.heap.size ≤ g2) := by
    rcases hat with h | h
    · cases h; exact Nat.le_refl _
    · rw [h]; show w.heap.size ≤ _; simp
  have hbl : r.b < w2.heap.size := by omega
  clear hown hgrow hat c0
  go_upto_region 5 with fail
  obtain ⟨W3, hW3⟩ : ∃ W3, W3 = w2.alloc (.cells #[.slice (some ⟨g2, 0, none⟩) N cap, .slice none 0 0, .int .u64 (G : Int)] 55) := ⟨_, rfl⟩
  have HN3 : Hid (W3.heap[w2.heap.size]? = some (nodeObj (.slice (some ⟨g2, 0, none⟩) N cap) (.slice none 0 0) G)) := by rw [hW3]; exact heap_alloc_new w2 _
  have HB3 : Hid (Below w.heap.size w W3) := by rw [hW3]; exact HB2.out.alloc hs2 _
  have HO3 : Hid (Items W3 (.slice (some ⟨g2, 0, none⟩) N cap) r.ss) := by rw [hW3]; exact HO.out.alloc _
  have hsz3 : W3.heap.size = w2.heap.size + 1 := by rw [hW3]; simp
  rw [← hW3]
  obtain ⟨C, hC⟩ : ∃ C, C = w2.heap.size := ⟨_, rfl⟩
  rw [← hC] at HN3 hsz3 hs2 hbl ⊢
  clear hW3 HO HB2 d1
  have hCC : C < W3.heap.size := by omega
  have hwC : w.heap.size ≤ C := by omega
  have d1 := (HB3.out.cell (p := ⟨r.b, 1, none⟩) hlt).trans c1
  have hrb3 : r.b < W3.heap.size := by omega
  have hgu3 : gu < W3.heap.size := by omega
  have nCr : C ≠ r.b := by omega
  have HNK3 : Hid (∀ j u, ((r.ks.map Nd.b).map ptrV)[j]? = some u → W3.cell? ((⟨gu, 0, none⟩ : Addr).add j) = some u) := by
    intro j u hu
    have h1 := HNEWK.out j u hu
    rw [Addr.add_lit] at h1 ⊢
    exact (HB3.out.cell (p := ⟨gu, 0 + j, none⟩) hgu).trans h1
  obtain ⟨e0, e1, _, _, ef1, _⟩ := heap_node HN3.out
  clear hC hsz3 c1 c2 HNEWK HNEWS
  have z1 := (cell_past W3 (.cells Z' 45) r.b 1 hrb3).trans d1
  go_region_held3 (fun w' => w'.cell? ⟨r.b, 1, none⟩ = some (.slice (some ⟨gu, 0, none⟩) M cu)) (first | exact d1 | exact z1 | exact y1 | exact x1) ((refine step_append_lies _ (by rfl) (.tmp 40) (.tmp 44) 53 (by rfl) 0 45 i1 (.pointer none) 1 8 Yba.underlying53 hj hy0 hy1 hy2 rfl (by decide) (.slice (some ⟨W3.heap.size, 0, none⟩) 0 (M + 1)) 0 [] (by rfl) ?_ ⟨gu, 0, none⟩ M cu ((r.ks.map Nd.b).map ptrV) (by rfl) ?_ ?_ (ptrs_one _) hk0 ?_ ?_ (Nat.zero_le _) _ rfl ?_; (exact World.ownsRow_made W3 Z' (M + 1) (Nat.zero_le _) (by unfold maxLen; omega) HZ'); (rw [List.length_map, List.length_map, HM.out, Nat.mul_one]); (intro j u hu; have := HNK3.out j u hu; rw [Addr.add_lit] at this ⊢; exact (cell_past _ _ _ _ hgu3).trans this); (unfold maxLen; omega); omega; intro g4 cap4 w4 hown4 hgrow4 hat4 hlt4; have y1 := (hgrow4.cell_far ⟨r.b, 1, none⟩ (by simp; omega) (by simp [Value.ownBlock]; omega)).trans z1; have t0 := (hgrow4.cell_far ⟨C, 1, none⟩ (by simp; omega) (by simp [Value.ownBlock]; omega)).trans ((cell_past W3 (.cells Z' 45) C 1 hCC).trans e1); have t1 := (hgrow4.frozen_far ⟨C, 1, none⟩ (by simp; omega) (by simp [Value.ownBlock]; omega)).trans ((((Below.refl W3.heap.size W3).alloc (Nat.le_refl _) (.cells Z' 45)).frozen (p := ⟨C, 1, none⟩) hCC).trans ef1); have x1 := (cell_set_other w4 ⟨C, 1, none⟩ (.slice (some ⟨g4, 0, none⟩) M cap4) r.b 1 (.inl nCr)).trans y1; have x2 : (w4.setCell ⟨C, 1, none⟩ (.slice (some ⟨g4, 0, none⟩) (0 + M) cap4)).cell? ⟨r.b, 1, none⟩ = some (.slice (some ⟨gu, 0, none⟩) M cu) := (cell_set_other w4 ⟨C, 1, none⟩ (.slice (some ⟨g4, 0, none⟩) (0 + M) cap4) r.b 1 (.inl nCr)).trans y1))
  have HB4 : Hid (Below W3.heap.size W3 w4) := ((Below.refl W3.heap.size W3).alloc (Nat.le_refl _) (.cells Z' 45)).drew.grown hgrow4 (by simp) (fun k hk => by cases hk; exact Nat.le_refl _)
  have HK4 : Hid (Kids w4 (.slice (some ⟨g4, 0, none⟩) M cap4) (r.ks.map Nd.b)) := by
    show w4.ownsRow 0 45 1 _ (r.ks.map Nd.b).length _
    rw [List.length_map, HM.out]
    simpa using hown4
  have HG4 : Hid (W3.heap.size ≤ g4) := by
    rcases hat4 with h | h
    · cases h; exact Nat.le_refl _
    · rw [h]; show W3.heap.size ≤ _; simp
  have HFIN : Hid (RootAt (w4.setCell ⟨C, 1, none⟩ (.slice (some ⟨g4, 0, none⟩) M cap4)) w.heap.size G ⟨C, .slice (some ⟨g2, 0, none⟩) N cap, .slice (some ⟨g4, 0, none⟩) M cap4, r.ss, r.ks⟩ ∧ Below w.heap.size w (w4.setCell ⟨C, 1, none⟩ (.slice (some ⟨g4, 0, none⟩) M cap4))) := by
    have hn4 : w4.heap[C]? = some (nodeObj (.slice (some ⟨g2, 0, none⟩) N cap) (.slice none 0 0) G) := (HB4.out.block C hCC).trans HN3.out
    have hc := Chg.set (w := w4) ⟨C, 1, none⟩ (.slice (some ⟨g4, 0, none⟩) M cap4)
    have hI4 : Items w4 (.slice (some ⟨g2, 0, none⟩) N cap) r.ss := own_kept HO3.out (Chg.of_below HB4.out) (fun _ _ h => h)
    have hbw : Below w.heap.size w w4 := HB3.out.trans (HB4.out.mono HB3.out.size)
    have hbf : Below w.heap.size w (w4.setCell ⟨C, 1, none⟩ (.slice (some ⟨g4, 0, none⟩) M cap4)) := hbw.trans (hc.below (fun j hj => by have h1 : j = C := hj; omega) hbw.size)
    refine ⟨root_copy HH.out HG.out hbf (set_node1 hn4) hwC (own_kept hI4 hc (fun g hg e => own_ne hI4 hn4 (by decide) (by rw [hg]; exact congrArg some e))) (own_kept HK4.out hc (fun g hg e => own_ne HK4.out hn4 (by decide) (by rw [hg]; exact congrArg some e))) ?_ (by simp [Value.ownBlock]) ?_, hbf⟩
    · intro g' hg'
      cases hg'
      exact HG2.out
    · intro g' hg'
      cases hg'
      have h1 := HG4.out
      have h2 := HB3.out.size
      show w.heap.size ≤ g4
      omega
  clear hown4 hgrow4 hat4 y1 t0 t1 x1 x2
  go_wp2
  go_ret
  exact ⟨_, rfl, HFIN.out.1, rfl, rfl, HFIN.out.2⟩

theorem Yba.appnil49 (a : Addr) (ao : Option Addr) (c : Nat) (ty : TypeId) (w : World) : (Builtin.append_ #[49, 49] ty #[.slice (some a) 0 1, .slice ao 0 c]).run Yba.prog w = .ok (.slice (some a) 0 1) w := by
  cases ao <;> kernel_rfl

theorem step_append_nil49 {ops : Array Oper} {o : Oper} {a : Act} {w : World} {K : Act → World → Prop} {Q : Exit → Act → World → Prop} {E : Prop} (hgd : o.guard = none) (s x : Operand) (ad : Addr) (ao : Option Addr) (c : Nat)
    (ho : o.op = .call { callee := .builtin .append, args := #[s, x], argTypes := #[49, 49] }) (hs : a.eval s = .slice (some ad) 0 1) (hx : a.eval x = .slice ao 0 c) (h : K (a.put o.dst (.slice (some ad) 0 1)) w) :
    if Region.wanted o (yielded ops a.tmps) = true then Oper.wp Yba.prog o a w K Q else E := by
  have hw : Region.wanted o (yielded ops a.tmps) = true := by simp [Region.wanted, hgd]
  rw [if_pos hw]
  unfold Oper.wp
  simp [execOp, ho, resolve, invoke, builtin, hs, hx, Yba.appnil49, Result.andThen]
  exact h

set_option maxHeartbeats 1000000 in
theorem own_empty (b G0 G : Nat) (ao : Option Addr) (c : Nat) (w : World) (hn : w.heap[b]? = some (nodeObj (.slice ao 0 c) (.slice none 0 0) G0)) (hg : G0 ≠ G) :
    Calls Yba.prog 12 #[.pointer (some ⟨b, 0, none⟩), .int .u64 (G : Int)] w fun e w' => ∃ l', e = .returned (.pointer (some ⟨l'.b, 0, none⟩)) ∧ LeafAt w' l' ∧ l'.xs = [] ∧ l'.gen = G ∧ l'.high w.heap.size ∧ Below w.heap.size w w' := by
  obtain ⟨c0, c1, c2, _, _, hlt⟩ := heap_node hn
  have hge : ¬ ((G0 : Int) = (G : Int)) := by omega
  obtain ⟨Z, HZ, hmk⟩ := make_items 0 (by decide)
  have hmk0 : ∀ w : World, (Instr.makeSlice 49 (.int .i64 0) (.int .i64 1)).run Yba.prog w = .ok (.slice (some ⟨w.heap.size, 0, none⟩) 0 1) (w.alloc (.cells Z 57)) := fun w => hmk w
  have k1 := Yba.nilne53
  have hw1 : IntKind.i64.wrap 1 = 1 := by decide
  have z0 := (cell_past w (.cells Z 57) b 0 hlt).trans c0
  have z1 := (cell_past w (.cells Z 57) b 1 hlt).trans c1
  clear hmk hn
  go_enter Yba.func12, Yba.ntmps12
  go_wp2_with fail
  go_region_held3 (fun w' => w'.cell? ⟨b, 0, none⟩ = some (.slice ao 0 c)) (first | go_keep | exact c0 | exact z0) ((refine step_append_nil49 (by rfl) (.tmp 19) (.tmp 23) ⟨w.heap.size, 0, none⟩ ao c (by rfl) (by rfl) (by rfl) ?_))
  have HO : Hid (Items (w.alloc (.cells Z 57)) (.slice (some ⟨w.heap.size, 0, none⟩) 0 1) []) := World.ownsRow_made w Z 1 (Nat.zero_le _) (by decide) HZ
  have HB : Hid (Below w.heap.size w (w.alloc (.cells Z 57))) := (Below.refl _ _).alloc (Nat.le_refl _) _
  have hsz : (w.alloc (.cells Z 57)).heap.size = w.heap.size + 1 := by simp
  go_wp2
  go_ret
  have hnew := heap_alloc_new (w.alloc (.cells Z 57)) (.cells #[.slice (some ⟨w.heap.size, 0, none⟩) 0 1, .slice none 0 0, .int .u64 (G : Int)] 55)
  rw [hsz] at hnew
  refine ⟨⟨w.heap.size + 1, .slice (some ⟨w.heap.size, 0, none⟩) 0 1, [], G⟩, rfl, ⟨hnew, HO.out.alloc _⟩, rfl, rfl, ⟨Nat.le_succ _, fun g' hg' => ?_⟩, (HB.out.alloc (by rw [hsz]; exact Nat.le_succ _) _).drew⟩
  cases hg'
  exact Nat.le_refl _
end Go.Proofs.Ybulkira
