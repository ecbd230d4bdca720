import Derived.Test.YbulkiraRPut
import Derived.Deep.DeepCutAuto
import Derived.Deep.CutBlock
namespace Go.Proofs.Ybulkira
open Go.RowKit
set_option linter.unusedVariables false
attribute [local go_sem ↓] Go.wp_at_zero Go.wp_at_succ

theorem itemCells_drop : ∀ (xs : List Nat) (n : Nat), itemCells (xs.drop n) = (itemCells xs).drop (n * 2)
  | xs, 0 => by simp
  | [], n + 1 => by simp [itemCells]
  | x :: xs, n + 1 => by
    rw [List.drop_succ_cons, itemCells_drop xs n, itemCells_cons, show (n + 1) * 2 = n * 2 + 1 + 1 by omega]
    rfl

theorem itemCells_take (xs : List Nat) (n : Nat) (h : n ≤ xs.length) : itemCells (xs.take n) = (itemCells xs).take (n * 2) := by
  have h1 := itemCells_append (xs.take n) (xs.drop n)
  rw [List.take_append_drop] at h1
  have h2 := itemCells_length (xs.take n)
  rw [List.length_take, Nat.min_eq_left h] at h2
  rw [h1, ← h2, List.take_left]

theorem grown_of_below {a b : World} (h : Below a.heap.size a b) (row : Option Nat) : a.grownBy b row := ⟨h.os, h.tape, h.output, h.size, fun k hk _ => h.block k hk⟩

theorem take_set_succ {α : Type} (L : List α) (i : Nat) (a : α) (h : i < L.length) : (L.set i a).take (i + 1) = L.take i ++ [a] := by
  rw [List.take_add_one, List.getElem?_set_self h, take_set_far _ _ _ _ (Nat.le_refl _)]
  rfl

/-- clear of a stretch of items -/
theorem clear_items (w : World) (g o n c ty : Nat) (cur : List Value) (hn : 0 < n) (hg : w.heap[g]? = some (.cells cur.toArray 57 (0, 0))) (hfit : o + n * 2 ≤ cur.length) :
    ∃ Z : List Value, Z.length = n * 2 ∧ ∀ ty, (Builtin.clear_ #[49] ty #[.slice (some ⟨g, o, none⟩) n c]).run Yba.prog w = .ok (.tuple #[]) (w.setRow g (splice cur o Z).toArray) := by
  obtain ⟨i0, hi, hz0, hz1, hz2⟩ := info_parts Yba.info57
  have hl : (Builtin.zeroCells (Value.agg #[.string ⟨#[]⟩, .int .i64 0]).cells n).toList.length = n * 2 := by
    rw [Array.length_toList, size_zeroCells]; rfl
  refine ⟨(Builtin.zeroCells (Value.agg #[.string ⟨#[]⟩, .int .i64 0]).cells n).toList, hl, fun ty => ?_⟩
  have h1 : ∀ v ∈ (Builtin.zeroCells (Value.agg #[.string ⟨#[]⟩, .int .i64 0]).cells n).toList, v.oneCell' = true := by
    intro v hv
    simp only [Builtin.zeroCells, Array.toList_map, List.mem_map] at hv
    obtain ⟨j, _, rfl⟩ := hv
    have hs : (Value.agg #[.string ⟨#[]⟩, .int .i64 0]).cells = #[.string ⟨#[]⟩, .int .i64 0] := rfl
    rw [hs]
    have h2 : j % 2 = 0 ∨ j % 2 = 1 := by omega
    show (#[Value.string ⟨#[]⟩, .int .i64 0][j % 2]!).oneCell' = true
    rcases h2 with h | h <;> rw [h] <;> rfl
  have hst := run_storeCells_at Yba.prog g o 57 _ 0 cur.toArray w hg (by rw [hl]; simpa using hfit) h1
  obtain ⟨m, rfl⟩ : ∃ m, n = m + 1 := ⟨n - 1, by omega⟩
  simp only [Builtin.clear_]
  simp [run_underlying Yba.underlying49, zeroValue, typeInfo, hi, hz0, hst, splice]

/-- the root's children are laid anew -/
theorem RootAt.turnKids2 {w w' : World} {B G : Nat} {r : Rt} (h : RootAt w B G r) {u' : Value} {ks' : List Nd}
    (hc : Chg (fun k => k = r.b ∨ r.u.ownBlock = some k) w w') (hn : w'.heap[r.b]? = some (nodeObj r.v u' G)) (hK : Kids w' u' (ks'.map Nd.b))
    (hl : u'.ownBlock = r.u.ownBlock ∨ ∃ g, u'.ownBlock = some g ∧ w.heap.size ≤ g)
    (hks : ∀ l ∈ ks', l ∈ r.ks ∨ (LeafAt w' l ∧ 0 < l.xs.length ∧ l.b ≠ r.b ∧ r.v.ownBlock ≠ l.v.ownBlock ∧ l.high B)) (nb' : (ks'.map Nd.b).Nodup) (nv' : (ks'.map (·.v.ownBlock)).Nodup) (hgn : ∀ l ∈ ks', l.gen ≤ G) :
    RootAt w' B G { r with u := u', ks := ks' } ∧ Below B w w' := by
  have hleaf : ∀ l ∈ r.ks, LeafAt w' l := by
    intro l hl
    refine (h.leaf l hl).kept hc (fun hs => ?_) (fun g hg hs => ?_)
    · rcases hs with e | e
      · exact h.root_ne hl e.symm
      · exact own_ne h.kids (h.leaf l hl).node (by decide) e
    · rcases hs with e | e
      · exact own_ne (h.leaf l hl).row h.node (by decide) (by rw [hg, e])
      · exact kids_ne_items h.kids (h.leaf l hl).row e hg
  refine ⟨⟨hn, own_kept h.row hc (fun g hg hs => ?_), hK, ?_, ?_, ?_, nv', ?_, Nat.le_trans h.base hc.size, h.hb, h.hv, ?_, ?_, hgn⟩, hc.below (fun j hj => hj.elim (fun e => e ▸ h.hb) (fun e => h.hu j e)) h.base⟩
  · rcases hs with e | e
    · exact own_ne h.row h.node (by decide) (by rw [hg, e])
    · exact kids_ne_items h.kids h.row e hg
  · intro l hl
    rcases hks l hl with hm | hm
    · exact hleaf l hm
    · exact hm.1
  · intro l hl
    rcases hks l hl with hm | hm
    · exact h.full l hm
    · exact hm.2.1
  · refine List.nodup_cons.2 ⟨fun hm => ?_, nb'⟩
    obtain ⟨l, hl, e⟩ := List.mem_map.1 hm
    rcases hks l hl with hm | hm
    · exact h.root_ne hm e.symm
    · exact hm.2.2.1 e
  · intro l hl
    rcases hks l hl with hm | hm
    · exact h.nr l hm
    · exact hm.2.2.2.1
  · intro g hg
    rcases hl with e | ⟨g', e, hge⟩
    · exact h.hu g (e.symm.trans hg)
    · have : some g' = some g := e.symm.trans hg
      cases this
      exact Nat.le_trans h.base hge
  · intro l hl hgen
    rcases hks l hl with hm | hm
    · exact h.hk l hm hgen
    · exact hm.2.2.2.2

/-- a leaf is set among the others -/
theorem RootAt.addKid {w w2 : World} {B G : Nat} {r : Rt} (h : RootAt w B G r) {K1 K2 : List Nd} {l2 : Nd} {u' : Value} (hks : r.ks = K1 ++ K2) (hL : LeafAt w l2) (h0 : 0 < l2.xs.length)
    (hb : ∀ m ∈ r.ks, m.b ≠ l2.b) (hbr : l2.b ≠ r.b) (hvv : ∀ m ∈ r.ks, m.v.ownBlock ≠ l2.v.ownBlock) (hrv : r.v.ownBlock ≠ l2.v.ownBlock) (hh : l2.high B)
    (hK : Kids w2 u' ((K1 ++ l2 :: K2).map Nd.b)) (hr : NewRow w w2 r.u u') (hgn : l2.gen ≤ G) :
    RootAt (w2.setCell ⟨r.b, 1, none⟩ u') B G { r with u := u', ks := K1 ++ l2 :: K2 } ∧ Below B w (w2.setCell ⟨r.b, 1, none⟩ u') := by
  have hne := own_ne h.kids h.node (by decide)
  have hn2 : w2.heap[r.b]? = some (nodeObj r.v r.u G) := (hr.chg.block r.b h.lt (fun e => hne e)).trans h.node
  have hc := Chg.set (w := w2) ⟨r.b, 1, none⟩ u'
  have hch : Chg (fun k => k = r.b ∨ r.u.ownBlock = some k) w (w2.setCell ⟨r.b, 1, none⟩ u') := (hr.chg.mono (fun j hj => Or.inr hj)).trans hc (fun j hj => .inl (.inl hj))
  refine h.turnKids2 hch (set_node1 hn2) (own_kept hK hc (fun g hg e => ?_)) hr.lies ?_ ?_ ?_ ?_
  · exact own_ne hK hn2 (by decide) (by rw [hg]; exact congrArg some e)
  · intro l hl
    rw [List.mem_append, List.mem_cons] at hl
    rcases hl with hl | rfl | hl
    · exact .inl (by rw [hks]; exact List.mem_append_left _ hl)
    · refine .inr ⟨hL.kept hch (fun hs => ?_) (fun g hg hs => ?_), h0, hbr, hrv, hh⟩
      · rcases hs with e | e
        · exact hbr e
        · exact own_ne h.kids hL.node (by decide) e
      · rcases hs with e | e
        · exact own_ne hL.row h.node (by decide) (by rw [hg, e])
        · exact kids_ne_items h.kids hL.row e hg
    · exact .inl (by rw [hks]; exact List.mem_append_right _ hl)
  · have hp : ((K1 ++ l2 :: K2).map Nd.b).Perm (l2.b :: (K1 ++ K2).map Nd.b) := (List.perm_middle (l₁ := K1) (l₂ := K2) (a := l2)).map Nd.b
    rw [hp.nodup_iff, List.nodup_cons, ← hks]
    refine ⟨fun hm => ?_, (List.nodup_cons.1 h.nb).2⟩
    obtain ⟨m, hm, e⟩ := List.mem_map.1 hm
    exact hb m hm e
  · have hp : ((K1 ++ l2 :: K2).map (·.v.ownBlock)).Perm (l2.v.ownBlock :: (K1 ++ K2).map (·.v.ownBlock)) := (List.perm_middle (l₁ := K1) (l₂ := K2) (a := l2)).map (·.v.ownBlock)
    rw [hp.nodup_iff, List.nodup_cons, ← hks]
    refine ⟨fun hm => ?_, h.nv⟩
    obtain ⟨m, hm, e⟩ := List.mem_map.1 hm
    exact hvv m hm e
  · intro l hl
    rw [List.mem_append, List.mem_cons] at hl
    rcases hl with hl | rfl | hl
    · exact h.gens l (by rw [hks]; exact List.mem_append_left _ hl)
    · exact hgn
    · exact h.gens l (by rw [hks]; exact List.mem_append_right _ hl)

theorem foot_addKid {w w7 w9 : World} {r r8 : Rt} {u' : Value} {ks' : List Nd} {l2 : Nd} (h : Foot w w7 r r8) (hr : NewRow w7 w9 r8.u u') (hl2 : ∀ k, l2.own k → w.heap.size ≤ k) (hk : ∀ l ∈ ks', l ∈ r8.ks ∨ l = l2) :
    Foot w (w9.setCell ⟨r8.b, 1, none⟩ u') r { r8 with u := u', ks := ks' } := by
  have hc : Chg r8.own w7 (w9.setCell ⟨r8.b, 1, none⟩ u') := (hr.chg.mono (fun j hj => .inr (.inr (.inl hj)))).trans (Chg.set ⟨r8.b, 1, none⟩ u') (fun j hj => .inl (.inl hj))
  refine ⟨h.chg.trans hc (fun j hj => h.own j hj), fun k hk' => ?_⟩
  rcases hk' with h1 | h1 | h1 | ⟨l, hl', h1⟩
  · exact h.own k (.inl h1)
  · exact h.own k (.inr (.inl h1))
  · rcases hr.lies with e | ⟨g, e, hge⟩
    · exact h.own k (.inr (.inr (.inl (e.symm.trans h1))))
    · have h2 := e.symm.trans h1
      cases h2
      exact .inr (Nat.le_trans h.chg.size hge)
  · rcases hk l hl' with hm | rfl
    · exact h.own k (.inr (.inr (.inr ⟨l, hm, h1⟩)))
    · exact .inr (hl2 k h1)

set_option maxHeartbeats 2000000 in
theorem split_any (w : World) (B G : Nat) (r : Rt) (i : Nat) (l : Nd) (x : Nat) (h : RootAt w B G r) (hi : r.ks[i]? = some l) (hm : r.ks.length < 900) (hs : r.ss.length < 900) (his : i ≤ r.ss.length) (hx : l.xs.length = 63) (hx31 : l.xs[31]? = some x) :
    Calls Yba.prog 23 #[.pointer (some ⟨r.b, 0, none⟩), .int .i64 (i : Int), .int .u64 (G : Int)] w fun e w' => (∃ v, e = .returned v) ∧ Below B w w' ∧ ∃ r', Foot w w' r r' ∧ RootAt w' B G r' ∧ r'.b = r.b ∧ r'.ss = r.ss.take i ++ x :: r.ss.drop i ∧ r'.ks.map Nd.xs = (r.ks.take i).map Nd.xs ++ l.xs.take 31 :: l.xs.drop 32 :: (r.ks.drop (i + 1)).map Nd.xs := by
  obtain ⟨i0, hi0, hz0, hz1, hz2⟩ := info_parts Yba.info57
  have HH : Hid (RootAt w B G r) := h
  have HI : Hid (r.ks[i]? = some l) := hi
  have HX : Hid (l.xs.length = 63) := hx
  have HX31 : Hid (l.xs[31]? = some x) := hx31
  clear h hi hx hx31
  have k1 := Yba.nilne53
  go_enter Yba.func23, Yba.ntmps23
  go_wp2_with fail
  refine (child_any w B G r i l HH.out HI.out (by omega) (by have := HX.out; omega)).mono ?_
  rintro e w1 ⟨l', rfl, hxs, hgen, hR1, hB1, hF1⟩
  have HF1 : Hid (Foot w w1 r { r with ks := r.ks.set i l' }) := hF1
  have HR1 : Hid (RootAt w1 B G { r with ks := r.ks.set i l' }) := hR1
  have HB1 : Hid (Below B w w1) := hB1
  have HGEN : Hid (l'.gen = G) := hgen
  have HXS : Hid (l'.xs = l.xs) := hxs
  have hil : i < r.ks.length := (List.getElem?_eq_some_iff.1 HI.out).1
  have HI1 : Hid ((r.ks.set i l')[i]? = some l') := List.getElem?_set_self hil
  have HL1 : Hid (LeafAt w1 l') := hR1.leaf l' (List.mem_of_getElem? HI1.out)
  have hx63 : l'.xs.length = 63 := by rw [hxs]; exact HX.out
  obtain ⟨g, c, hv, hg, hcell⟩ := HL1.out.row.cell (by omega)
  rw [hx63] at hv
  obtain ⟨c0, c1, _, f0, _, hlt⟩ := heap_node HL1.out.node
  rw [hv] at c0
  have cx := hcell 31 x (by rw [hxs]; exact HX31.out)
  have cx0 : w1.cell? ⟨g, 62, none⟩ = some (.string (keyB x)) := cx.1
  have cx1 : w1.cell? ⟨g, 63, none⟩ = some (.int .i64 (x : Int)) := cx.2
  have HV : Hid (l'.v = .slice (some ⟨g, 0, none⟩) 63 c) := hv
  have HROW : Hid (w1.ownsRow 0 57 2 (.slice (some ⟨g, 0, none⟩) 63 c) 63 (itemCells l'.xs)) := by
    have := HL1.out.row
    unfold Items at this
    rw [hv, hx63] at this
    exact this
  have HX63 : Hid (l'.xs.length = 63) := hx63
  obtain ⟨rest, hgr, hc1, hc2, _, hc3⟩ := own_open HROW.out
  have HGR : Hid (w1.heap[g]? = some (.cells (itemCells l'.xs ++ rest).toArray 57 (0, 0))) := hgr
  have HC3 : Hid ((itemCells l'.xs ++ rest).length = c * 2) := hc3
  have hc1' : (63 : Int) ≤ c := by omega
  have hc32 : ¬ c = 32 := by omega
  have hc31 : ¬ c = 31 := by omega
  have hc0 : ¬ c = 0 := by omega
  have HN32 : Hid ((itemCells (l'.xs.drop 32)).length = 31 * 2) := by show _ = _; rw [itemCells_length, List.length_drop, HX63.out]
  clear hxs hgen hR1 hB1 hF1 hcell hv hx63 cx hgr hc3
  go_upto_region 4 with (at_builtin; refine wpList_append_lies _ rfl _ _ 49 rfl 0 57 i0 (.agg #[.string ⟨#[]⟩, .int .i64 0]) 2 24 Yba.underlying49 hi0 hz0 hz1 hz2 rfl (by decide) (.slice none 0 0) 0 [] rfl (World.ownsRow_nil _ _ _ _) ⟨g, 64, none⟩ 31 (c - 32) (itemCells (l'.xs.drop 32)) rfl HN32.out ?_ (itemCells_one _) (by decide) (by decide) (by decide) (Nat.zero_le _) _ rfl ?_)
  · intro j u hu
    rw [Addr.add_lit, cell_past _ _ _ _ hg, cell_of_row _ g _ _ 57 (0, 0) HGR.out]
    have hjl := (List.getElem?_eq_some_iff.1 hu).1
    rw [itemCells_drop, List.getElem?_drop] at hu
    rw [List.getElem?_toArray, List.getElem?_append_left (by have := itemCells_length l'.xs; rw [HX63.out] at this; have := HN32.out; omega)]
    exact hu
  intro g2 cap2 w2 hown2 hgrow2 hat2 hlt2
  have hs2 : w1.heap.size + 1 ≤ w2.heap.size := Nat.le_trans (by simp) hgrow2.size
  have HB2 : Hid (Below w1.heap.size w1 w2) := ((Below.refl w1.heap.size w1).alloc (Nat.le_refl _) _).grown hgrow2 (by simp) (fun k hk => by cases hk)
  have HO2 : Hid (Items w2 (.slice (some ⟨g2, 0, none⟩) 31 cap2) (l'.xs.drop 32)) := by
    show w2.ownsRow 0 57 2 _ (l'.xs.drop 32).length _
    rw [List.length_drop, HX63.out]
    exact hown2
  have HG2 : Hid (g2 = w1.heap.size + 1) := by
    rcases hat2 with h | h
    · cases h
    · exact h
  have m0 : w2.cell? ⟨w1.heap.size, 0, none⟩ = some (.string (keyB x)) := (hgrow2.cell_far ⟨w1.heap.size, 0, none⟩ (by simp) (by simp [Value.ownBlock])).trans (by rw [cell_new]; rfl)
  have m1 : w2.cell? ⟨w1.heap.size, 1, none⟩ = some (.int .i64 (x : Int)) := (hgrow2.cell_far ⟨w1.heap.size, 1, none⟩ (by simp) (by simp [Value.ownBlock])).trans (by rw [cell_new]; rfl)
  clear hown2 hgrow2 hat2
  go_upto_region 4 with fail
  obtain ⟨W3, hW3⟩ : ∃ W3, W3 = w2.alloc (.cells #[.slice (some ⟨g2, 0, none⟩) 31 cap2, .slice none 0 0, .int .u64 (G : Int)] 55) := ⟨_, rfl⟩
  rw [← hW3]
  have HL2 : Hid (LeafAt W3 ⟨w2.heap.size, .slice (some ⟨g2, 0, none⟩) 31 cap2, l'.xs.drop 32, G⟩) := by rw [hW3]; exact ⟨heap_alloc_new w2 _, HO2.out.alloc _⟩
  have HB3 : Hid (Below w1.heap.size w1 W3) := by rw [hW3]; exact HB2.out.alloc (by omega) _
  have m2 : W3.cell? ⟨w1.heap.size, 0, none⟩ = some (.string (keyB x)) := by rw [hW3, cell_past _ _ _ _ (by omega)]; exact m0
  have m3 : W3.cell? ⟨w1.heap.size, 1, none⟩ = some (.int .i64 (x : Int)) := by rw [hW3, cell_past _ _ _ _ (by omega)]; exact m1
  have hs3 : w2.heap.size < W3.heap.size := by rw [hW3]; simp
  obtain ⟨D2, hD2⟩ : ∃ D2, D2 = w2.heap.size := ⟨_, rfl⟩
  rw [← hD2] at HL2 hs3 hs2 ⊢
  have d0 := (HB3.out.cell (p := ⟨l'.b, 0, none⟩) hlt).trans c0
  have d1 := (HB3.out.cell (p := ⟨l'.b, 1, none⟩) hlt).trans c1
  have e0 := (HB3.out.frozen (p := ⟨l'.b, 0, none⟩) hlt).trans f0
  have HGR3 : Hid (W3.heap[g]? = some (.cells (itemCells l'.xs ++ rest).toArray 57 (0, 0))) := (HB3.out.block g hg).trans HGR.out
  clear hW3 hD2 m0 m1 c0 c1 f0 HB2 HO2 hlt2 cx0 cx1
  obtain ⟨Z, HZ, hcl⟩ := clear_items W3 g 62 32 (c - 31) 0 (itemCells l'.xs ++ rest) (by decide) HGR3.out (by rw [HC3.out]; omega)
  obtain ⟨W4, hW4⟩ : ∃ W4, W4 = W3.setRow g (splice (itemCells l'.xs ++ rest) 62 Z).toArray := ⟨_, rfl⟩
  rw [← hW4] at hcl
  have HGR4 : Hid (W4.heap[g]? = some (.cells (splice (itemCells l'.xs ++ rest) 62 Z).toArray 57 (0, 0))) := by rw [hW4]; exact setRow_heap W3 g _ _ 57 _ HGR3.out
  have HC4 : Hid (W3.grownBy W4 (some g)) := by rw [hW4]; exact grown_setRow W3 g _
  have hgl : g ≠ l'.b := fun e => own_ne HROW.out HL1.out.node (by decide) (by rw [← e]; rfl)
  have hlt3 : l'.b < W3.heap.size := Nat.lt_of_lt_of_le hlt HB3.out.size
  have q0 := (HC4.out.cell_far ⟨l'.b, 0, none⟩ hlt3 (by simp; omega)).trans d0
  have q1 := (HC4.out.cell_far ⟨l'.b, 1, none⟩ hlt3 (by simp; omega)).trans d1
  have q2 := (HC4.out.frozen_far ⟨l'.b, 0, none⟩ hlt3 (by simp; omega)).trans e0
  have HZ' : Hid (Z.length = 32 * 2) := HZ
  clear hW4 HZ
  go_upto_region 10 with fail
  have HI4 : Hid (Items W4 (.slice (some ⟨g, 0, none⟩) 31 c) (l'.xs.take 31)) := by
    show W4.ownsRow 0 57 2 _ (l'.xs.take 31).length _
    have hl := itemCells_length l'.xs
    rw [HX63.out] at hl
    have hc3 := HC3.out
    have hz := HZ'.out
    rw [List.length_take, HX63.out, itemCells_take _ _ (by rw [HX63.out]; decide)]
    have e : splice (itemCells l'.xs ++ rest) 62 Z = (itemCells l'.xs).take (31 * 2) ++ (Z ++ (itemCells l'.xs ++ rest).drop (62 + Z.length)) := by
      rw [splice, List.take_append_of_le_length (by omega)]
    have hg4 := HGR4.out
    rw [e] at hg4
    refine own_shut hg4 (by omega) hc2 (by rw [List.length_take]; omega) ?_
    have h5 := length_splice (itemCells l'.xs ++ rest) 62 Z (by omega)
    rw [e] at h5
    omega
  have HU5 : Hid (LeafUpd w1 (W4.setCell ⟨l'.b, 0, none⟩ (.slice (some ⟨g, 0, none⟩) 31 c)) l' { l' with v := .slice (some ⟨g, 0, none⟩) 31 c, xs := l'.xs.take 31 }) := by
    refine leaf_items HL1.out HI4.out ⟨?_, .inl (by rw [HV.out]; rfl)⟩
    rw [HV.out]
    exact grown_trans (grown_of_below HB3.out _) HC4.out
  have HR5 : Hid (RootAt (W4.setCell ⟨l'.b, 0, none⟩ (.slice (some ⟨g, 0, none⟩) 31 c)) B G { r with ks := (r.ks.set i l').set i { l' with v := .slice (some ⟨g, 0, none⟩) 31 c, xs := l'.xs.take 31 } } ∧ Below B w1 (W4.setCell ⟨l'.b, 0, none⟩ (.slice (some ⟨g, 0, none⟩) 31 c))) :=
    HR1.out.setKid HI1.out HU5.out HGEN.out (by show 0 < (l'.xs.take 31).length; rw [List.length_take, HX63.out]; decide)
  have hC35 : Chg (fun k => k = g ∨ k = l'.b) W3 (W4.setCell ⟨l'.b, 0, none⟩ (.slice (some ⟨g, 0, none⟩) 31 c)) :=
    ((Chg.of_grown HC4.out).mono (fun j hj => .inl (by cases hj; rfl))).trans (Chg.set ⟨l'.b, 0, none⟩ _) (fun j hj => .inl (.inr hj))
  have HL5 : Hid (LeafAt (W4.setCell ⟨l'.b, 0, none⟩ (.slice (some ⟨g, 0, none⟩) 31 c)) ⟨D2, .slice (some ⟨g2, 0, none⟩) 31 cap2, l'.xs.drop 32, G⟩) := by
    refine HL2.out.kept hC35 (fun hs => ?_) (fun g' hg' hs => ?_)
    · have : D2 = g ∨ D2 = l'.b := hs
      omega
    · cases hg'
      have h1 := HG2.out
      have : g2 = g ∨ g2 = l'.b := hs
      omega
  have n0 : (W4.setCell ⟨l'.b, 0, none⟩ (.slice (some ⟨g, 0, none⟩) 31 c)).cell? ⟨w1.heap.size, 0, none⟩ = some (.string (keyB x)) := (World.cell?_of_block (a := ⟨w1.heap.size, 0, none⟩) (hC35.block w1.heap.size (by omega) (fun hs => by rcases hs with h | h <;> omega))).trans m2
  have n1 : (W4.setCell ⟨l'.b, 0, none⟩ (.slice (some ⟨g, 0, none⟩) 31 c)).cell? ⟨w1.heap.size, 1, none⟩ = some (.int .i64 (x : Int)) := (World.cell?_of_block (a := ⟨w1.heap.size, 1, none⟩) (hC35.block w1.heap.size (by omega) (fun hs => by rcases hs with h | h <;> omega))).trans m3
  have hs5 : W3.heap.size ≤ (W4.setCell ⟨l'.b, 0, none⟩ (.slice (some ⟨g, 0, none⟩) 31 c)).heap.size := hC35.size
  obtain ⟨D1, hD1⟩ : ∃ D1, D1 = w1.heap.size := ⟨_, rfl⟩
  have HBW : Hid (Below B w (W4.setCell ⟨l'.b, 0, none⟩ (.slice (some ⟨g, 0, none⟩) 31 c))) := HB1.out.trans HR5.out.2
  have HR6 : Hid (RootAt (W4.setCell ⟨l'.b, 0, none⟩ (.slice (some ⟨g, 0, none⟩) 31 c)) B G { r with ks := r.ks.set i { l' with v := .slice (some ⟨g, 0, none⟩) 31 c, xs := l'.xs.take 31 } }) := by
    have := HR5.out.1
    rwa [List.set_set] at this
  have HKB : Hid (∀ m ∈ r.ks.set i { l' with v := .slice (some ⟨g, 0, none⟩) 31 c, xs := l'.xs.take 31 }, m.b < D1 ∧ ∀ gg, m.v.ownBlock = some gg → gg < D1) := by
    intro m hm
    obtain ⟨j, hj⟩ := List.getElem?_of_mem hm
    by_cases hji : j = i
    · subst hji
      rw [List.getElem?_set_self hil] at hj
      cases hj
      refine ⟨by show l'.b < D1; omega, fun gg hgg => ?_⟩
      cases hgg
      show g < D1
      omega
    · rw [List.getElem?_set_ne (by omega)] at hj
      have hm1 : m ∈ r.ks.set i l' := List.mem_of_getElem? (i := j) (by rw [List.getElem?_set_ne (by omega)]; exact hj)
      have hLm := HR1.out.leaf m hm1
      exact ⟨by have := hLm.lt; omega, fun gg hgg => by have := own_lt hLm.row hgg; omega⟩
  have hrbD : r.b < D1 := by have := HR1.out.lt; rw [hD1]; exact this
  have HRV : Hid (∀ gg, r.v.ownBlock = some gg → gg < D1) := fun gg hgg => by have := own_lt HR1.out.row hgg; omega
  have HF6 : Hid (Foot w (W4.setCell ⟨l'.b, 0, none⟩ (.slice (some ⟨g, 0, none⟩) 31 c)) r { r with ks := r.ks.set i { l' with v := .slice (some ⟨g, 0, none⟩) 31 c, xs := l'.xs.take 31 } }) := by
    have := HF1.out.trans (foot_setKid (r := { r with ks := r.ks.set i l' }) HI1.out HU5.out)
    simp only [List.set_set] at this
    exact this
  have hwD : w.heap.size ≤ D1 := by have := HB1.out.size; rw [hD1]; exact this
  have HBD : Hid (B ≤ D1) := by have := HR1.out.base; rw [hD1]; exact this
  have hg2D : D1 < g2 := by have := HG2.out; omega
  have hD12 : D1 < D2 := by omega
  rw [← hD1] at n0 n1 ⊢
  have hgD : g < D1 := by omega
  clear HR5 HU5 HI4 hC35 q0 q1 q2 HC4 HGR4 hcl HZ' HGR3 d0 d1 e0 m2 m3 HB3 HL2 hlt3 HG2 HGR HROW hD1
  generalize W4.setCell ⟨l'.b, 0, none⟩ (.slice (some ⟨g, 0, none⟩) 31 c) = W5 at *
  obtain ⟨l3, hl3⟩ : ∃ l3 : Nd, l3 = { l' with v := .slice (some ⟨g, 0, none⟩) 31 c, xs := l'.xs.take 31 } := ⟨_, rfl⟩
  have HX3 : Hid (l3.xs = l.xs.take 31) := by rw [hl3, ← HXS.out]; exact rfl
  rw [← hl3] at HR6 HKB HF6
  clear hl3 HX63 HN32 HL1 HC3 HV HGEN HI1
  obtain ⟨r0, r1, _, t0, t1, hltr⟩ := heap_node HR6.out.node
  obtain ⟨av, nv, cv, hv⟩ := own_form' HR6.out.row
  have HRV5 : Hid (r.v = .slice av nv cv) := hv
  have HTK : Hid ((r.ss.take i).length = i) := by show _ = _; rw [List.length_take]; omega
  have HTL : Hid ((r.ss.take i ++ r.ss.drop i).length < 1000) := by show _ < _; rw [List.take_append_drop]; omega
  have HIT : Hid (Items W5 (.slice av nv cv) (r.ss.take i ++ r.ss.drop i)) := by
    rw [List.take_append_drop, ← hv]
    exact HR6.out.row
  have hne' : Hid (∀ j, ¬ some (Addr.block ⟨r.b, j, none⟩) = (Value.slice av nv cv).ownBlock) := fun j e => own_ne HR6.out.row HR6.out.node (by decide) (by rw [HRV5.out]; exact e.symm)
  simp only at r0 r1 hltr hv t0 t1
  rw [hv] at r0
  clear hv
  go_region_with (go_at_call 26; go_loud (refine (insertI _ (r.ss.take i) (r.ss.drop i) i x _ HTK.out (by exact HIT.out) HTL.out).mono ?_; rintro e w6 ⟨v', rfl, hI6, hR6⟩; obtain ⟨a', n', c', rfl⟩ := own_form' hI6; have g0 := (hR6.grown.cell_far ⟨r.b, 0, none⟩ hltr (hne'.out 0)).trans r0; have g1 := (hR6.grown.frozen_far ⟨r.b, 0, none⟩ hltr (hne'.out 0)).trans t0; have HI7 : Hid (Items w6 (.slice a' n' c') (r.ss.take i ++ x :: r.ss.drop i)) := hI6; have HR7 : Hid (NewRow W5 w6 (.slice av nv cv) (.slice a' n' c')) := ⟨⟨hR6.grown.os, hR6.grown.tape, hR6.grown.output, hR6.grown.size, hR6.grown.block⟩, hR6.lies⟩; clear hI6 hR6))
  all_goals
    have h8 := root_items HR6.out HI7.out (by show NewRow W5 w6 r.v _; rw [HRV5.out]; exact HR7.out)
    simp only at h8
    have HR8 : Hid (RootAt (w6.setCell ⟨r.b, 0, none⟩ (.slice a' n' c')) B G { r with v := .slice a' n' c', ss := r.ss.take i ++ x :: r.ss.drop i, ks := r.ks.set i l3 }) := h8.1
    have HB8 : Hid (Below B w (w6.setCell ⟨r.b, 0, none⟩ (.slice a' n' c'))) := HBW.out.trans h8.2
    have HF8 : Hid (Foot w (w6.setCell ⟨r.b, 0, none⟩ (.slice a' n' c')) r { r with v := .slice a' n' c', ss := r.ss.take i ++ x :: r.ss.drop i, ks := r.ks.set i l3 }) :=
      HF6.out.trans (foot_setItems (r := { r with ks := r.ks.set i l3 }) (by show NewRow W5 w6 r.v _; rw [HRV5.out]; exact HR7.out))
    have hC57 : Chg (fun k => k < D1) W5 (w6.setCell ⟨r.b, 0, none⟩ (.slice a' n' c')) :=
      (HR7.out.chg.mono (fun j hj => HRV.out j (by rw [HRV5.out]; exact hj))).trans (Chg.set ⟨r.b, 0, none⟩ _) (fun j hj => .inl (by have hj' : j = r.b := hj; show j < D1; omega))
    have HL8 : Hid (LeafAt (w6.setCell ⟨r.b, 0, none⟩ (.slice a' n' c')) ⟨D2, .slice (some ⟨g2, 0, none⟩) 31 cap2, l'.xs.drop 32, G⟩) := by
      refine HL5.out.kept hC57 (fun hs => ?_) (fun g' hg' hs => ?_)
      · have : D2 < D1 := hs
        omega
      · cases hg'
        have : g2 < D1 := hs
        omega
    have HVN : Hid ((Value.slice a' n' c').ownBlock ≠ some g2) := by
      intro e
      rcases HR7.out.lies with h | ⟨g', h, hge⟩
      · have := HRV.out g2 (by rw [HRV5.out]; exact h.symm.trans e)
        omega
      · have h2 := h.symm.trans e
        cases h2
        obtain ⟨gg, hgg, hlg⟩ := HL5.out.some (by show 0 < (l'.xs.drop 32).length; rw [HXS.out, List.length_drop, HX.out]; decide)
        cases hgg
        have h3 : g2 < W5.heap.size := hlg
        omega
    clear h8 hC57 HF6 HR7 HI7 HIT g0 g1 n0 n1 r0 r1 t0 t1 HL5 HR6 HBW
    generalize w6.setCell ⟨r.b, 0, none⟩ (.slice a' n' c') = W7 at *
    obtain ⟨s0, s1, _, t0, t1, hltr⟩ := heap_node HR8.out.node
    simp only at s0 s1 t0 t1 hltr
    obtain ⟨au, nu, cu, hu⟩ := own_form' HR8.out.kids
    have HUU : Hid (r.u = .slice au nu cu) := hu
    simp only at hu
    rw [hu] at s1
    have hbl : ((r.ks.set i l3).map Nd.b).length = r.ks.length := by simp
    have hP := insertP (.slice au nu cu) (((r.ks.set i l3).map Nd.b).take (i + 1)) (((r.ks.set i l3).map Nd.b).drop (i + 1)) (i + 1) D2 W7 (by rw [List.length_take, hbl]; omega)
      (by rw [List.take_append_drop]; have := HR8.out.kids; simp only at this; rw [hu] at this; exact this) (by rw [List.take_append_drop, hbl]; omega)
    rw [show ((i + 1 : Nat) : Int) = (i : Int) + 1 by omega] at hP
    have HP : Hid (Calls Yba.prog 27 #[.slice au nu cu, .int .i64 ((i : Int) + 1), .pointer (some ⟨D2, 0, none⟩)] W7 fun e w' => ∃ v', e = .returned v' ∧ Kids w' v' (((r.ks.set i l3).map Nd.b).take (i + 1) ++ D2 :: ((r.ks.set i l3).map Nd.b).drop (i + 1)) ∧ NewRow W7 w' (.slice au nu cu) v') := hP
    have hneu : Hid (∀ j, ¬ some (Addr.block ⟨r.b, j, none⟩) = (Value.slice au nu cu).ownBlock) := fun j e => own_ne HR8.out.kids HR8.out.node (by decide) (by show r.u.ownBlock = some r.b; rw [HUU.out]; exact e.symm)
    clear hP hu hbl
    go_wp2_with fail
    refine HP.out.mono ?_
    rintro e w9 ⟨v9, rfl, hI9, hR9⟩
    obtain ⟨a9, n9, c9, rfl⟩ := own_form' hI9
    have g0 := (hR9.grown.cell_far ⟨r.b, 1, none⟩ hltr (hneu.out 1)).trans s1
    have g1 := (hR9.grown.frozen_far ⟨r.b, 1, none⟩ hltr (hneu.out 1)).trans t1
    have HI9 : Hid (Kids w9 (.slice a9 n9 c9) (((r.ks.set i l3).map Nd.b).take (i + 1) ++ D2 :: ((r.ks.set i l3).map Nd.b).drop (i + 1))) := hI9
    have HR9 : Hid (NewRow W7 w9 (.slice au nu cu) (.slice a9 n9 c9)) := hR9
    clear hI9 hR9 s0 s1 t0 t1 HP
    go_wp2
    refine bodyPost_end (v := .tuple #[]) (by simp [results, Yba.results23, go_sem]) rfl ⟨⟨_, rfl⟩, ?_⟩
    have hf := HR8.out.addKid (K1 := (r.ks.set i l3).take (i + 1)) (K2 := (r.ks.set i l3).drop (i + 1)) (l2 := ⟨D2, .slice (some ⟨g2, 0, none⟩) 31 cap2, l'.xs.drop 32, G⟩) (u' := .slice a9 n9 c9) (w2 := w9)
      (by show r.ks.set i l3 = _; rw [List.take_append_drop]) HL8.out (by show 0 < (l'.xs.drop 32).length; rw [HXS.out, List.length_drop, HX.out]; decide)
      (fun m hm => by have := (HKB.out m hm).1; show m.b ≠ D2; omega) (by show D2 ≠ r.b; omega)
      (fun m hm e => by have := (HKB.out m hm).2 g2 e; omega) HVN.out ⟨by have := HBD.out; show B ≤ D2; omega, fun g' hg' => by cases hg'; have := HBD.out; show B ≤ g2; omega⟩
      (by rw [List.map_append, List.map_cons, List.map_take, List.map_drop]; exact HI9.out) (by show NewRow W7 w9 r.u _; rw [HUU.out]; exact HR9.out) (Nat.le_refl _)
    have hF := foot_addKid (l2 := ⟨D2, .slice (some ⟨g2, 0, none⟩) 31 cap2, l'.xs.drop 32, G⟩) (u' := .slice a9 n9 c9) (w9 := w9) (ks' := (r.ks.set i l3).take (i + 1) ++ (⟨D2, .slice (some ⟨g2, 0, none⟩) 31 cap2, l'.xs.drop 32, G⟩ : Nd) :: (r.ks.set i l3).drop (i + 1)) HF8.out (by show NewRow W7 w9 r.u _; rw [HUU.out]; exact HR9.out)
      (fun k hk => by
        rcases hk with e | e
        · have e' : k = D2 := e
          omega
        · cases e
          show w.heap.size ≤ g2
          omega)
      (fun m hm => by
        rw [List.mem_append, List.mem_cons] at hm
        rcases hm with h | h | h
        · exact .inl (List.mem_of_mem_take h)
        · exact .inr h
        · exact .inl (List.mem_of_mem_drop h))
    refine ⟨HB8.out.trans hf.2, _, hF, hf.1, rfl, rfl, ?_⟩
    show ((r.ks.set i l3).take (i + 1) ++ (⟨D2, .slice (some ⟨g2, 0, none⟩) 31 cap2, l'.xs.drop 32, G⟩ : Nd) :: (r.ks.set i l3).drop (i + 1)).map Nd.xs = _
    rw [take_set_succ _ _ _ hil, List.drop_set_of_lt (by omega), List.map_append, List.map_append, List.map_cons, HXS.out, List.append_assoc]
    show _ ++ ([l3.xs] ++ _) = _
    rw [HX3.out]
    rfl
end Go.Proofs.Ybulkira
