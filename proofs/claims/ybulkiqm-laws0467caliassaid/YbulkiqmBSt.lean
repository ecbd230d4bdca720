import Derived.Test.YbulkiqmBHolder
import Derived.Deep.DeepCutAuto
import Derived.Deep.CutBlock
namespace Go.Proofs.Ybulkiqm
open Go.RowKit

theorem Yba.info54 : (Yba.prog.info? 54).map (fun i => (i.zero, i.size, i.bytes)) = some (some (.agg #[.pointer none, .pointer none]), 2, 16) := by kernel_rfl

theorem made_nil (n j : Nat) (h : j < n * 2) : (madeCells #[Value.pointer none, Value.pointer none] (n * 2)).toList[j]? = some (.pointer none) := by
  have e : (madeCells #[Value.pointer none, Value.pointer none] (n * 2))[j]? = some (.pointer none) := by
    unfold madeCells
    rw [Array.getElem?_map, Array.getElem?_range, if_pos h]
    have : j % 2 = 0 ∨ j % 2 = 1 := by omega
    rcases this with h2 | h2 <;> simp [h2]
  simpa using e

/-- a fully made access: its cells, none frozen -/
theorem made_access {w0 : World} {base g n : Nat} (h : w0.ownsRow base 54 2 (.slice (some ⟨g, 0, none⟩) n n) n (madeCells #[Value.pointer none, Value.pointer none] (n * 2)).toList) :
    (∀ j, j < n * 2 → w0.cell? ⟨g, j, none⟩ = some (.pointer none)) ∧ (∀ j, w0.frozen? ⟨g, j, none⟩ = false) ∧ g < w0.heap.size ∧ PlainAt w0 g := by
  refine ⟨fun j hj => (h.cellAt j hj).trans (made_nil n j hj), ?_⟩
  rcases h.2 with ⟨h', _⟩ | ⟨g', cap', cur, h', _, hg, _, _, hs, _⟩
  · simp at h'
  · simp only [Value.slice.injEq, Option.some.injEq, Addr.mk.injEq, and_true, true_and] at h'
    obtain ⟨rfl, rfl⟩ := h'
    exact ⟨fun j => by simp [World.frozen?, hg], (Array.getElem?_eq_some_iff.1 hg).1, cur, 54, hg⟩

/-- the memory that the law has made: the access A, the subscriber U, the calls C and V -/
structure Base (w wx : World) (A U C V n q : Nat) : Prop where
  below : Below w.heap.size w wx
  hA : w.heap.size ≤ A
  hAU : A < U
  hUC : U < C
  hCV : C < V
  hV : V < wx.heap.size
  c19 : wx.cell? ⟨C, 19, none⟩ = some (.pointer (some ⟨U, 0, none⟩))
  c20 : wx.cell? ⟨C, 20, none⟩ = some (.int .i64 (1 + q))
  u1 : wx.cell? ⟨U, 1, none⟩ = some (.slice (some ⟨A, 0, none⟩) n n)
  a0 : wx.cell? ⟨A, q * 2, none⟩ = some (.pointer none)
  a1 : wx.cell? ⟨A, q * 2 + 1, none⟩ = some (.pointer none)
  pA : PlainAt wx A
  pC : PlainAt wx C
  pV : PlainAt wx V

structure St (w wx : World) (A U C V n q : Nat) : Prop where
  base : Base w wx A U C V n q
  v11 : wx.cell? ⟨V, 11, none⟩ = some (.pointer none)
  v12 : wx.cell? ⟨V, 12, none⟩ = some (.int .i64 0)
  v19 : wx.cell? ⟨V, 19, none⟩ = some (.pointer none)
  v20 : wx.cell? ⟨V, 20, none⟩ = some (.int .i64 0)
  v27 : wx.cell? ⟨V, 27, none⟩ = some (.pointer none)
  v28 : wx.cell? ⟨V, 28, none⟩ = some (.int .i64 0)

theorem plain_new (w : World) (c : Array Value) (t : TypeId) : PlainAt (w.alloc (.cells c t)) w.heap.size := ⟨c, t, heap_alloc_new w _⟩

theorem frozen_of_plain {w : World} {b : Nat} (h : PlainAt w b) (o : Nat) : w.frozen? ⟨b, o, none⟩ = false := by
  obtain ⟨c, t, h⟩ := h
  simp [World.frozen?, h]

theorem cell_new (w : World) (c : Array Value) (t : TypeId) (o : Nat) : (w.alloc (.cells c t)).cell? ⟨w.heap.size, o, none⟩ = c[o]? := by
  rw [cell_of_row _ w.heap.size o c t (0, 0) (heap_alloc_new w _)]

theorem cell_past (w : World) (o : Obj) (b j : Nat) (h : b < w.heap.size) : (w.alloc o).cell? ⟨b, j, none⟩ = w.cell? ⟨b, j, none⟩ :=
  World.cell?_of_block (Below.heap_alloc w o b h)

theorem st_start {w w0 : World} {n q : Nat} (cu cc cv : Array Value) (tu tc tv : TypeId) (hb : Below w.heap.size w w0) (hlt : w.heap.size < w0.heap.size)
    (h1 : w0.cell? ⟨w.heap.size, q * 2, none⟩ = some (.pointer none)) (h2 : w0.cell? ⟨w.heap.size, q * 2 + 1, none⟩ = some (.pointer none)) (hp : PlainAt w0 w.heap.size)
    (hu : cu[1]? = some (.slice (some ⟨w.heap.size, 0, none⟩) n n)) (hc1 : cc[19]? = some (.pointer (some ⟨w0.heap.size, 0, none⟩))) (hc2 : cc[20]? = some (.int .i64 (1 + q)))
    (v1 : cv[11]? = some (.pointer none)) (v2 : cv[12]? = some (.int .i64 0)) (v3 : cv[19]? = some (.pointer none)) (v4 : cv[20]? = some (.int .i64 0)) (v5 : cv[27]? = some (.pointer none)) (v6 : cv[28]? = some (.int .i64 0)) :
    St w (((w0.alloc (.cells cu tu)).alloc (.cells cc tc)).alloc (.cells cv tv)) w.heap.size w0.heap.size (w0.heap.size + 1) (w0.heap.size + 1 + 1) n q := by
  have s1 : (w0.alloc (.cells cu tu)).heap.size = w0.heap.size + 1 := by simp
  have s2 : ((w0.alloc (.cells cu tu)).alloc (.cells cc tc)).heap.size = w0.heap.size + 1 + 1 := by simp
  have vc : ∀ o, (((w0.alloc (.cells cu tu)).alloc (.cells cc tc)).alloc (.cells cv tv)).cell? ⟨w0.heap.size + 1 + 1, o, none⟩ = cv[o]? := by
    intro o; have := cell_new ((w0.alloc (.cells cu tu)).alloc (.cells cc tc)) cv tv o; rwa [s2] at this
  have ccx : ∀ o, (((w0.alloc (.cells cu tu)).alloc (.cells cc tc)).alloc (.cells cv tv)).cell? ⟨w0.heap.size + 1, o, none⟩ = cc[o]? := by
    intro o; rw [cell_past _ _ _ _ (by rw [s2]; omega)]; have := cell_new (w0.alloc (.cells cu tu)) cc tc o; rwa [s1] at this
  have ux : ∀ o, (((w0.alloc (.cells cu tu)).alloc (.cells cc tc)).alloc (.cells cv tv)).cell? ⟨w0.heap.size, o, none⟩ = cu[o]? := by
    intro o; rw [cell_past _ _ _ _ (by rw [s2]; omega), cell_past _ _ _ _ (by rw [s1]; omega)]; exact cell_new w0 cu tu o
  have ax : ∀ o, (((w0.alloc (.cells cu tu)).alloc (.cells cc tc)).alloc (.cells cv tv)).cell? ⟨w.heap.size, o, none⟩ = w0.cell? ⟨w.heap.size, o, none⟩ := by
    intro o; rw [cell_past _ _ _ _ (by rw [s2]; omega), cell_past _ _ _ _ (by rw [s1]; omega), cell_past _ _ _ _ hlt]
  refine ⟨⟨?_, Nat.le_refl _, hlt, by omega, by omega, by simp, (ccx _).trans hc1, (ccx _).trans hc2, (ux _).trans hu, (ax _).trans h1, (ax _).trans h2, ((hp.alloc _).alloc _).alloc _, ?_, ?_⟩,
    (vc _).trans v1, (vc _).trans v2, (vc _).trans v3, (vc _).trans v4, (vc _).trans v5, (vc _).trans v6⟩
  · exact ((hb.alloc hb.size _).alloc (by rw [s1]; have := hb.size; omega) _).alloc (by rw [s2]; have := hb.size; omega) _
  · have := (plain_new (w0.alloc (.cells cu tu)) cc tc).alloc (.cells cv tv); rwa [s1] at this
  · have := plain_new ((w0.alloc (.cells cu tu)).alloc (.cells cc tc)) cv tv; rwa [s2] at this

/-- what legAt will answer in every later world that differs in the access alone -/
def LegOut (wx : World) (A V n q : Nat) (L : Option Addr) : Prop :=
  ∀ W, wx.heap.size ≤ W.heap.size → (∀ b, b < wx.heap.size → b ≠ A → W.heap[b]? = wx.heap[b]?) → PlainAt W A →
    Calls Yba.prog 11 #[.pointer (some ⟨V, 0, none⟩), .slice (some ⟨A, 0, none⟩) n n, .int .i64 (1 + q)] W fun e w' => e = .returned (.pointer L) ∧ Below W.heap.size W w'

theorem later {wx W : World} {A b o : Nat} {v : Value} (h : ∀ b, b < wx.heap.size → b ≠ A → W.heap[b]? = wx.heap[b]?) (hb : b < wx.heap.size) (hne : b ≠ A) (hc : wx.cell? ⟨b, o, none⟩ = some v) : W.cell? ⟨b, o, none⟩ = some v :=
  (World.cell?_of_block (w := wx) (a := ⟨b, o, none⟩) (h b hb hne)).trans hc

theorem legout_hit {w wx : World} {A U C V n q o : Nat} (hB : Base w wx A U C V n q) (hn : 0 < n) (ho : o = 11 ∨ o = 19 ∨ o = 27)
    (hother : ∀ o', (o' = 11 ∨ o' = 19 ∨ o' = 27) → o' ≠ o → wx.cell? ⟨V, o', none⟩ = some (.pointer none))
    (h1 : wx.cell? ⟨V, o, none⟩ = some (.pointer (some ⟨U, 0, none⟩))) (h2 : wx.cell? ⟨V, o + 1, none⟩ = some (.int .i64 (1 + q))) : LegOut wx A V n q (some ⟨V, o, none⟩) := by
  intro W hs hk hp
  have e1 := hB.hAU; have e2 := hB.hUC; have e3 := hB.hCV; have e4 := hB.hV
  exact legAt_hit V A n U o (1 + q) W hn ho (by omega) (by omega) (fun o' h' hne => later hk e4 (by omega) (hother o' h' hne)) (later hk e4 (by omega) h1) (later hk e4 (by omega) h2) (later hk (by omega) (by omega) hB.u1)

theorem legout_channel {w wx : World} {A U C V n q o : Nat} (hB : Base w wx A U C V n q) (hn : 0 < n) (ho : o = 11 ∨ o = 19 ∨ o = 27)
    (hother : ∀ o', (o' = 11 ∨ o' = 19 ∨ o' = 27) → o' ≠ o → wx.cell? ⟨V, o', none⟩ = some (.pointer none))
    (h1 : wx.cell? ⟨V, o, none⟩ = some (.pointer (some ⟨U, 0, none⟩))) (h2 : wx.cell? ⟨V, o + 1, none⟩ = some (.int .i64 (1 + q + 1))) : LegOut wx A V n q none := by
  intro W hs hk hp
  have e1 := hB.hAU; have e2 := hB.hUC; have e3 := hB.hCV; have e4 := hB.hV
  exact legAt_channel V A n U o (1 + q) (1 + q + 1) (by simp; omega) W hn ho (by omega) (by omega) (fun o' h' hne => later hk e4 (by omega) (hother o' h' hne)) (later hk e4 (by omega) h1) (later hk e4 (by omega) h2) (later hk (by omega) (by omega) hB.u1)

theorem legout_access {w wx : World} {A U C V n q o : Nat} (U' A' : Nat) (hB : Base w wx A U C V n q) (hn : 0 < n) (ho : o = 11 ∨ o = 19 ∨ o = 27)
    (hother : ∀ o', (o' = 11 ∨ o' = 19 ∨ o' = 27) → o' ≠ o → wx.cell? ⟨V, o', none⟩ = some (.pointer none))
    (h1 : wx.cell? ⟨V, o, none⟩ = some (.pointer (some ⟨U', 0, none⟩))) (h2 : wx.cell? ⟨V, o + 1, none⟩ = some (.int .i64 (1 + q))) (h3 : wx.cell? ⟨U', 1, none⟩ = some (.slice (some ⟨A', 0, none⟩) n n))
    (hU : U' < wx.heap.size) (hU' : U' ≠ A) (hA : A' < wx.heap.size) (hA' : A' ≠ A) (hp : PlainAt wx A') : LegOut wx A V n q none := by
  intro W hs hk hpA
  have e1 := hB.hAU; have e2 := hB.hUC; have e3 := hB.hCV; have e4 := hB.hV
  refine legAt_access V A n U' o A' (1 + q) (1 + q) W hn ho (by omega) (by omega) (fun o' h' hne => later hk e4 (by omega) (hother o' h' hne)) (later hk e4 (by omega) h1) (later hk e4 (by omega) h2) (later hk hU hU' h3) hpA ?_ (by omega) (by omega) hA'
  obtain ⟨c, t, h⟩ := hp
  exact ⟨c, t, (hk A' hA hA').trans h⟩

theorem PlainAt.setCell {w : World} {b : Nat} (h : PlainAt w b) (a : Addr) (v : Value) : PlainAt (w.setCell a v) b := by
  obtain ⟨c, t, h⟩ := h
  unfold PlainAt
  simp only [World.setCell, Array.getElem?_modify, h]
  by_cases e : a.block = b
  · exact ⟨if a.spot.isSome then c else c.setIfInBounds a.off v, t, by simp [e]⟩
  · exact ⟨c, t, by simp [e]⟩

theorem plain_later {w w' : World} {b : Nat} (hb : Below w.heap.size w w') (h : PlainAt w b) : PlainAt w' b := by
  obtain ⟨c, t, h⟩ := h
  exact ⟨c, t, (hb.block b (Array.getElem?_eq_some_iff.1 h).1).trans h⟩

theorem cell_set_other (w : World) (a : Addr) (v : Value) (b o : Nat) (h : a.block ≠ b ∨ a.off ≠ o) : (w.setCell a v).cell? ⟨b, o, none⟩ = w.cell? ⟨b, o, none⟩ :=
  World.cell?_setCell_other _ _ _ _ (by intro e; subst e; simp at h)

/-- both stores into a leg of V -/
theorem Base.leg {w wx : World} {A U C V n q o : Nat} (hB : Base w wx A U C V n q) (x y : Value) : Base w ((wx.setCell ⟨V, o, none⟩ x).setCell ⟨V, o + 1, none⟩ y) A U C V n q := by
  have e1 := hB.hAU; have e2 := hB.hUC; have e3 := hB.hCV; have e4 := hB.hV; have e5 := hB.hA
  have k : ∀ b o', b ≠ V → ((wx.setCell ⟨V, o, none⟩ x).setCell ⟨V, o + 1, none⟩ y).cell? ⟨b, o', none⟩ = wx.cell? ⟨b, o', none⟩ := by
    intro b o' hb
    rw [cell_set_other _ _ _ _ _ (.inl (Ne.symm hb)), cell_set_other _ _ _ _ _ (.inl (Ne.symm hb))]
  exact ⟨(hB.below.setCell (by show w.heap.size ≤ V; omega) _).setCell (by show w.heap.size ≤ V; omega) _, hB.hA, e1, e2, e3, by simpa using e4, (k _ _ (by omega)).trans hB.c19, (k _ _ (by omega)).trans hB.c20, (k _ _ (by omega)).trans hB.u1,
    (k _ _ (by omega)).trans hB.a0, (k _ _ (by omega)).trans hB.a1, (hB.pA.setCell _ _).setCell _ _, (hB.pC.setCell _ _).setCell _ _, (hB.pV.setCell _ _).setCell _ _⟩

theorem St.at {w wx : World} {A U C V n q o : Nat} (h : St w wx A U C V n q) (ho : o = 11 ∨ o = 19 ∨ o = 27) : wx.cell? ⟨V, o, none⟩ = some (.pointer none) ∧ wx.cell? ⟨V, o + 1, none⟩ = some (.int .i64 0) := by
  rcases ho with rfl | rfl | rfl
  · exact ⟨h.v11, h.v12⟩
  · exact ⟨h.v19, h.v20⟩
  · exact ⟨h.v27, h.v28⟩

theorem leg_cells {wx : World} {V o : Nat} {x y a b : Value} (h1 : wx.cell? ⟨V, o, none⟩ = some a) (h2 : wx.cell? ⟨V, o + 1, none⟩ = some b) :
    ((wx.setCell ⟨V, o, none⟩ x).setCell ⟨V, o + 1, none⟩ y).cell? ⟨V, o, none⟩ = some x ∧ ((wx.setCell ⟨V, o, none⟩ x).setCell ⟨V, o + 1, none⟩ y).cell? ⟨V, o + 1, none⟩ = some y := by
  constructor
  · rw [cell_set_other _ _ _ _ _ (.inr (by simp))]
    exact World.cell?_setCell_same _ _ _ h1
  · exact World.cell?_setCell_same _ _ _ ((cell_set_other _ _ _ _ _ (.inr (by simp))).trans h2)

theorem leg_others {w wx : World} {A U C V n q o : Nat} {x y : Value} (h : St w wx A U C V n q) (ho : o = 11 ∨ o = 19 ∨ o = 27) :
    ∀ o', (o' = 11 ∨ o' = 19 ∨ o' = 27) → o' ≠ o → ((wx.setCell ⟨V, o, none⟩ x).setCell ⟨V, o + 1, none⟩ y).cell? ⟨V, o', none⟩ = some (.pointer none) := by
  intro o' ho' hne
  rw [cell_set_other _ _ _ _ _ (.inr (by show o + 1 ≠ o'; omega)), cell_set_other _ _ _ _ _ (.inr (by show o ≠ o'; omega))]
  exact (h.at ho').1

/-- more memory -/
theorem Base.more {w wx w1 : World} {A U C V n q : Nat} (hB : Base w wx A U C V n q) (hb : Below wx.heap.size wx w1) : Base w w1 A U C V n q := by
  have e1 := hB.hAU; have e2 := hB.hUC; have e3 := hB.hCV; have e4 := hB.hV; have e5 := hB.hA
  have k : ∀ b o', b < wx.heap.size → w1.cell? ⟨b, o', none⟩ = wx.cell? ⟨b, o', none⟩ := fun b o' h => hb.cell (p := ⟨b, o', none⟩) h
  exact ⟨hB.below.trans (hb.mono hB.below.size), hB.hA, e1, e2, e3, by have := hb.size; omega, (k _ _ (by omega)).trans hB.c19, (k _ _ (by omega)).trans hB.c20, (k _ _ (by omega)).trans hB.u1,
    (k _ _ (by omega)).trans hB.a0, (k _ _ (by omega)).trans hB.a1, plain_later hb hB.pA, plain_later hb hB.pC, plain_later hb hB.pV⟩

theorem St.more {w wx w1 : World} {A U C V n q : Nat} (h : St w wx A U C V n q) (hb : Below wx.heap.size wx w1) : St w w1 A U C V n q := by
  have k : ∀ o', w1.cell? ⟨V, o', none⟩ = wx.cell? ⟨V, o', none⟩ := fun o' => hb.cell (p := ⟨V, o', none⟩) h.base.hV
  exact ⟨h.base.more hb, (k _).trans h.v11, (k _).trans h.v12, (k _).trans h.v19, (k _).trans h.v20, (k _).trans h.v27, (k _).trans h.v28⟩

/-- the third mode: the leg's user is another subscriber with an access of its own -/
theorem leg_other_access {w w2 : World} {A U C V n q o : Nat} (A' : Nat) (cu : Array Value) (t : TypeId) (h : St w w2 A U C V n q) (hn : 0 < n) (ho : o = 11 ∨ o = 19 ∨ o = 27) (hA' : A' < w2.heap.size) (hne : A' ≠ A) (hp : PlainAt w2 A')
    (hcu : cu[1]? = some (.slice (some ⟨A', 0, none⟩) n n)) :
    Base w (((w2.setCell ⟨V, o, none⟩ (.pointer (some ⟨w2.heap.size, 0, none⟩))).setCell ⟨V, o + 1, none⟩ (.int .i64 (1 + q))).alloc (.cells cu t)) A U C V n q ∧
    LegOut (((w2.setCell ⟨V, o, none⟩ (.pointer (some ⟨w2.heap.size, 0, none⟩))).setCell ⟨V, o + 1, none⟩ (.int .i64 (1 + q))).alloc (.cells cu t)) A V n q none := by
  have hB3 := h.base.leg (o := o) (.pointer (some ⟨w2.heap.size, 0, none⟩)) (.int .i64 (1 + q))
  have hoth := leg_others (x := .pointer (some ⟨w2.heap.size, 0, none⟩)) (y := .int .i64 (1 + q)) h ho
  obtain ⟨hc1, hc2⟩ := leg_cells (x := .pointer (some ⟨w2.heap.size, 0, none⟩)) (y := .int .i64 (1 + q)) (h.at ho).1 (h.at ho).2
  have hp3 : PlainAt ((w2.setCell ⟨V, o, none⟩ (.pointer (some ⟨w2.heap.size, 0, none⟩))).setCell ⟨V, o + 1, none⟩ (.int .i64 (1 + q))) A' := (hp.setCell _ _).setCell _ _
  have hsz : ((w2.setCell ⟨V, o, none⟩ (.pointer (some ⟨w2.heap.size, 0, none⟩))).setCell ⟨V, o + 1, none⟩ (.int .i64 (1 + q))).heap.size = w2.heap.size := by simp
  generalize ((w2.setCell ⟨V, o, none⟩ (.pointer (some ⟨w2.heap.size, 0, none⟩))).setCell ⟨V, o + 1, none⟩ (.int .i64 (1 + q))) = w3 at *
  have hB4 := hB3.more ((Below.refl w3.heap.size w3).alloc (Nat.le_refl _) (.cells cu t))
  refine ⟨hB4, ?_⟩
  have e4 := hB3.hV
  have e1 := hB3.hAU; have e2 := hB3.hUC; have e3 := hB3.hCV
  refine legout_access w2.heap.size A' hB4 hn ho (fun o' h' hne' => (cell_past _ _ _ _ e4).trans (hoth o' h' hne')) ((cell_past _ _ _ _ e4).trans hc1) ((cell_past _ _ _ _ e4).trans hc2) ?_ (by simp; omega) (by omega) (by simp; omega) hne (hp3.alloc _)
  have := cell_new w3 cu t 1
  rw [hsz] at this
  exact this.trans hcu

theorem set2_other {w : World} {A o1 o2 b : Nat} {x y : Value} (h : b ≠ A) : ((w.setCell ⟨A, o1, none⟩ x).setCell ⟨A, o2, none⟩ y).heap[b]? = w.heap[b]? := by
  rw [Below.heap_setCell _ _ _ _ h, Below.heap_setCell _ _ _ _ h]

theorem cell2_other {w : World} {A o1 o2 b o : Nat} {x y : Value} (h : b ≠ A) : ((w.setCell ⟨A, o1, none⟩ x).setCell ⟨A, o2, none⟩ y).cell? ⟨b, o, none⟩ = w.cell? ⟨b, o, none⟩ :=
  World.cell?_of_block (w := w) (a := ⟨b, o, none⟩) (set2_other h)

theorem kOff (q : Nat) : (1 + (q : Int)).toNat - 1 = q := by omega

/-- reserved for c: the holder is found -/
theorem holder0 {w wx : World} {A U C V n q : Nat} {L : Option Addr} (hB : Base w wx A U C V n q) (hq : q < n) (hn : n ≤ 8) (HL : LegOut wx A V n q L) :
    Calls Yba.prog 6 #[.pointer (some ⟨C, 0, none⟩)] ((wx.setCell ⟨A, q * 2, none⟩ (.pointer (some ⟨V, 0, none⟩))).setCell ⟨A, q * 2 + 1, none⟩ (.pointer (some ⟨C, 0, none⟩))) fun e w' =>
      e = .returned (.tuple #[.pointer (some ⟨V, 0, none⟩), .pointer L]) ∧ Below wx.heap.size ((wx.setCell ⟨A, q * 2, none⟩ (.pointer (some ⟨V, 0, none⟩))).setCell ⟨A, q * 2 + 1, none⟩ (.pointer (some ⟨C, 0, none⟩))) w' := by
  have e1 := hB.hAU; have e2 := hB.hUC; have e3 := hB.hCV; have e4 := hB.hV
  obtain ⟨x1, x2⟩ := leg_cells (x := .pointer (some ⟨V, 0, none⟩)) (y := .pointer (some ⟨C, 0, none⟩)) hB.a0 hB.a1
  have hsz : ((wx.setCell ⟨A, q * 2, none⟩ (.pointer (some ⟨V, 0, none⟩))).setCell ⟨A, q * 2 + 1, none⟩ (.pointer (some ⟨C, 0, none⟩))).heap.size = wx.heap.size := by simp
  have hpl : PlainAt ((wx.setCell ⟨A, q * 2, none⟩ (.pointer (some ⟨V, 0, none⟩))).setCell ⟨A, q * 2 + 1, none⟩ (.pointer (some ⟨C, 0, none⟩))) A := (hB.pA.setCell _ _).setCell _ _
  have y1 := (cell2_other (o1 := q * 2) (o2 := q * 2 + 1) (x := .pointer (some ⟨V, 0, none⟩)) (y := .pointer (some ⟨C, 0, none⟩)) (show C ≠ A by omega)).trans hB.c19
  have y2 := (cell2_other (o1 := q * 2) (o2 := q * 2 + 1) (x := .pointer (some ⟨V, 0, none⟩)) (y := .pointer (some ⟨C, 0, none⟩)) (show C ≠ A by omega)).trans hB.c20
  have y3 := (cell2_other (o1 := q * 2) (o2 := q * 2 + 1) (x := .pointer (some ⟨V, 0, none⟩)) (y := .pointer (some ⟨C, 0, none⟩)) (show U ≠ A by omega)).trans hB.u1
  have hbl : ∀ b, b ≠ A → ((wx.setCell ⟨A, q * 2, none⟩ (.pointer (some ⟨V, 0, none⟩))).setCell ⟨A, q * 2 + 1, none⟩ (.pointer (some ⟨C, 0, none⟩))).heap[b]? = wx.heap[b]? := fun b hb => set2_other hb
  generalize ((wx.setCell ⟨A, q * 2, none⟩ (.pointer (some ⟨V, 0, none⟩))).setCell ⟨A, q * 2 + 1, none⟩ (.pointer (some ⟨C, 0, none⟩))) = W at *
  rw [← hsz]
  refine holder_yes C U A n V (1 + q) L W (by omega) (by omega) hn (by omega) (by omega) (by omega) y1 y2 y3 (by rw [kOff]; exact x1) (by rw [kOff]; exact x2) ?_
  intro W' hb'
  refine HL W' (by have := hb'.size; omega) (fun b hb hne => (hb'.block b (by omega)).trans (hbl b hne)) (plain_later hb' hpl)

/-- reserved for another call -/
theorem holder1 {w wx : World} {A U C V n q : Nat} (cd : Array Value) (t : TypeId) (hB : Base w wx A U C V n q) (hq : q < n) (hn : n ≤ 8) :
    Calls Yba.prog 6 #[.pointer (some ⟨C, 0, none⟩)] (((wx.setCell ⟨A, q * 2, none⟩ (.pointer (some ⟨V, 0, none⟩))).setCell ⟨A, q * 2 + 1, none⟩ (.pointer (some ⟨wx.heap.size, 0, none⟩))).alloc (.cells cd t)) fun e w' =>
      e = .returned (.tuple #[.pointer none, .pointer none]) ∧ Below (wx.heap.size + 1) (((wx.setCell ⟨A, q * 2, none⟩ (.pointer (some ⟨V, 0, none⟩))).setCell ⟨A, q * 2 + 1, none⟩ (.pointer (some ⟨wx.heap.size, 0, none⟩))).alloc (.cells cd t)) w' := by
  have e1 := hB.hAU; have e2 := hB.hUC; have e3 := hB.hCV; have e4 := hB.hV
  obtain ⟨x1, x2⟩ := leg_cells (x := .pointer (some ⟨V, 0, none⟩)) (y := .pointer (some ⟨wx.heap.size, 0, none⟩)) hB.a0 hB.a1
  have hsz : ((wx.setCell ⟨A, q * 2, none⟩ (.pointer (some ⟨V, 0, none⟩))).setCell ⟨A, q * 2 + 1, none⟩ (.pointer (some ⟨wx.heap.size, 0, none⟩))).heap.size = wx.heap.size := by simp
  have hpC : PlainAt ((wx.setCell ⟨A, q * 2, none⟩ (.pointer (some ⟨V, 0, none⟩))).setCell ⟨A, q * 2 + 1, none⟩ (.pointer (some ⟨wx.heap.size, 0, none⟩))) C := (hB.pC.setCell _ _).setCell _ _
  have y1 := (cell2_other (o1 := q * 2) (o2 := q * 2 + 1) (x := .pointer (some ⟨V, 0, none⟩)) (y := .pointer (some ⟨wx.heap.size, 0, none⟩)) (show C ≠ A by omega)).trans hB.c19
  have y2 := (cell2_other (o1 := q * 2) (o2 := q * 2 + 1) (x := .pointer (some ⟨V, 0, none⟩)) (y := .pointer (some ⟨wx.heap.size, 0, none⟩)) (show C ≠ A by omega)).trans hB.c20
  have y3 := (cell2_other (o1 := q * 2) (o2 := q * 2 + 1) (x := .pointer (some ⟨V, 0, none⟩)) (y := .pointer (some ⟨wx.heap.size, 0, none⟩)) (show U ≠ A by omega)).trans hB.u1
  generalize ((wx.setCell ⟨A, q * 2, none⟩ (.pointer (some ⟨V, 0, none⟩))).setCell ⟨A, q * 2 + 1, none⟩ (.pointer (some ⟨wx.heap.size, 0, none⟩))) = W at *
  have hs4 : (W.alloc (.cells cd t)).heap.size = wx.heap.size + 1 := by simp [hsz]
  rw [← hs4]
  have pd := plain_new W cd t
  rw [hsz] at pd
  refine holder_other C U A n V (1 + q) wx.heap.size (W.alloc (.cells cd t)) (by omega) (by omega) hn (by omega) (by omega) (by omega) ((cell_past _ _ _ _ (by omega)).trans y1) ((cell_past _ _ _ _ (by omega)).trans y2) ((cell_past _ _ _ _ (by omega)).trans y3)
    (by rw [kOff]; exact (cell_past _ _ _ _ (by omega)).trans x1) (by rw [kOff]; exact (cell_past _ _ _ _ (by omega)).trans x2) pd (hpC.alloc _) (by omega)

/-- reserved for none -/
theorem holder2 {w wx : World} {A U C V n q : Nat} (hB : Base w wx A U C V n q) (hq : q < n) (hn : n ≤ 8) :
    Calls Yba.prog 6 #[.pointer (some ⟨C, 0, none⟩)] (wx.setCell ⟨A, q * 2, none⟩ (.pointer (some ⟨V, 0, none⟩))) fun e w' =>
      e = .returned (.tuple #[.pointer none, .pointer none]) ∧ Below wx.heap.size (wx.setCell ⟨A, q * 2, none⟩ (.pointer (some ⟨V, 0, none⟩))) w' := by
  have e1 := hB.hAU; have e2 := hB.hUC; have e3 := hB.hCV; have e4 := hB.hV
  have hsz : (wx.setCell ⟨A, q * 2, none⟩ (.pointer (some ⟨V, 0, none⟩))).heap.size = wx.heap.size := by simp
  have x1 := World.cell?_setCell_same wx ⟨A, q * 2, none⟩ (.pointer (some ⟨V, 0, none⟩)) hB.a0
  have x2 := (cell_set_other wx ⟨A, q * 2, none⟩ (.pointer (some ⟨V, 0, none⟩)) A (q * 2 + 1) (.inr (by simp))).trans hB.a1
  have y1 := (cell_set_other wx ⟨A, q * 2, none⟩ (.pointer (some ⟨V, 0, none⟩)) C 19 (.inl (by show A ≠ C; omega))).trans hB.c19
  have y2 := (cell_set_other wx ⟨A, q * 2, none⟩ (.pointer (some ⟨V, 0, none⟩)) C 20 (.inl (by show A ≠ C; omega))).trans hB.c20
  have y3 := (cell_set_other wx ⟨A, q * 2, none⟩ (.pointer (some ⟨V, 0, none⟩)) U 1 (.inl (by show A ≠ U; omega))).trans hB.u1
  generalize (wx.setCell ⟨A, q * 2, none⟩ (.pointer (some ⟨V, 0, none⟩))) = W at *
  rw [← hsz]
  exact holder_nil C U A n V (1 + q) W (by omega) (by omega) hn (by omega) (by omega) (by omega) y1 y2 y3 (by rw [kOff]; exact x1) (by rw [kOff]; exact x2)

end Go.Proofs.Ybulkiqm
