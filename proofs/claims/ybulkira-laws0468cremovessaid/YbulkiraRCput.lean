import Derived.Test.YbulkiraRPlain
namespace Go.Proofs.Ybulkira
open Go.RowKit
set_option linter.unusedVariables false
attribute [local go_sem ↓] Go.wp_at_zero Go.wp_at_succ

/-- a tree of one leaf -/
structure Leaf1 (w : World) (B G b : Nat) (xs : List Nat) (l : Nd) : Prop where
  hb : l.b = b
  hx : l.xs = xs
  gen : l.gen = G
  leaf : LeafAt w l
  high : l.high B
  base : B ≤ w.heap.size
  len : xs.length ≤ 63

/-- a tree of two levels -/
structure Tree2 (w : World) (B G b : Nat) (xs : List Nat) (r : Rt) : Prop where
  hb : r.b = b
  root : RootAt w B G r
  good : Good r.ss (r.ks.map Nd.xs)
  hx : flat r.ss (r.ks.map Nd.xs) = xs
  pos : 0 < r.ss.length

def Tree (w : World) (B G b : Nat) (xs : List Nat) : Prop := (∃ l, Leaf1 w B G b xs l) ∨ ∃ r, Tree2 w B G b xs r

theorem LeafUpd.below {w w' : World} {l l' : Nd} {B : Nat} (hu : LeafUpd w w' l l') (hh : l.high B) (hB : B ≤ w.heap.size) : Below B w w' ∧ l'.high B :=
  ⟨hu.chg.below (fun j hj => hj.elim (fun e => e ▸ hh.1) (fun e => hh.2 j e)) hB, by rw [hu.b]; exact hh.1, fun g hg => by
    rcases hu.lies with e | ⟨g', e, hge⟩
    · exact hh.2 g (e.symm.trans hg)
    · have h2 := e.symm.trans hg
      cases h2
      exact Nat.le_trans hB hge⟩

set_option maxHeartbeats 1000000 in
theorem cput_a (w : World) (B G : Nat) (l : Nd) (x : Nat) (h : LeafAt w l) (hx1 : x < 1000) (hr : Rising l.xs) (hnot : x ∉ l.xs) (hn : l.xs.length < 63) :
    Calls Yba.prog 15 #[.pointer (some ⟨l.b, 0, none⟩), .agg #[.string (keyB x), .int .i64 (x : Int)], .int .u64 (G : Int)] w fun e w' => e = .returned (.pointer (some ⟨l.b, 0, none⟩)) ∧ ∃ l', l'.xs = ins x l.xs ∧ LeafUpd w w' l l' := by
  have HH : Hid (LeafAt w l) := h
  have HR : Hid (Rising l.xs ∧ x ∉ l.xs) := ⟨hr, hnot⟩
  obtain ⟨c0, _, _, _, _, hlt⟩ := heap_node h.node
  obtain ⟨aa, cc, hv⟩ := own_form h.row
  rw [hv] at c0
  obtain ⟨N, hN⟩ : ∃ N, l.xs.length = N := ⟨_, rfl⟩
  rw [hN] at c0 hn
  have HN : Hid (l.xs.length = N) := hN
  have hn63 : ¬ ((N : Int) = 63) := by omega
  clear h hr hnot hv hN
  go_enter Yba.func15, Yba.ntmps15
  go_wp2_with fail
  have HB0 : Hid (Below w.heap.size w (w.alloc (.cells #[.string (keyB x), .int .i64 (x : Int)] 57))) := (Below.refl _ _).alloc (Nat.le_refl _) _
  refine (put_leaf l x G _ (leaf_below HH.out HB0.out) hx1 HR.out.2 HR.out.1.small HR.out.1.less (by have := HN.out; omega)).mono ?_
  rintro e w1 ⟨⟨v, rfl⟩, l', hx', hu⟩
  have HU : Hid (l'.xs = ins x l.xs ∧ LeafUpd w w1 l l') := ⟨hx', LeafUpd.after HH.out HB0.out hu⟩
  clear hx' hu
  go_wp2
  go_ret
  exact ⟨rfl, l', HU.out.1, HU.out.2⟩

set_option maxHeartbeats 1000000 in
theorem cput_c (w : World) (B G : Nat) (r : Rt) (x : Nat) (h : RootAt w B G r) (hn : r.ss.length < 63) (R : World → Prop)
    (hput : ∀ W, RootAt W B G r → Calls Yba.prog 24 #[.pointer (some ⟨r.b, 0, none⟩), .agg #[.string (keyB x), .int .i64 (x : Int)], .int .u64 (G : Int)] W fun e w' => (∃ v, e = .returned v) ∧ Below B W w' ∧ R w') :
    Calls Yba.prog 15 #[.pointer (some ⟨r.b, 0, none⟩), .agg #[.string (keyB x), .int .i64 (x : Int)], .int .u64 (G : Int)] w fun e w' => e = .returned (.pointer (some ⟨r.b, 0, none⟩)) ∧ Below B w w' ∧ R w' := by
  have HH : Hid (RootAt w B G r) := h
  have HPUT : Hid (∀ W, RootAt W B G r → Calls Yba.prog 24 #[.pointer (some ⟨r.b, 0, none⟩), .agg #[.string (keyB x), .int .i64 (x : Int)], .int .u64 (G : Int)] W fun e w' => (∃ v, e = .returned v) ∧ Below B W w' ∧ R w') := hput
  obtain ⟨c0, _, _, _, _, hlt⟩ := heap_node h.node
  obtain ⟨aa, cc, hv⟩ := own_form h.row
  rw [hv] at c0
  obtain ⟨N, hN⟩ : ∃ N, r.ss.length = N := ⟨_, rfl⟩
  rw [hN] at c0 hn
  have hn63 : ¬ ((N : Int) = 63) := by omega
  clear h hput hv hN
  go_enter Yba.func15, Yba.ntmps15
  go_wp2_with fail
  have HB0 : Hid (Below w.heap.size w (w.alloc (.cells #[.string (keyB x), .int .i64 (x : Int)] 57))) := (Below.refl _ _).alloc (Nat.le_refl _) _
  refine (HPUT.out _ (root_below HH.out HB0.out)).mono ?_
  rintro e w1 ⟨⟨v, rfl⟩, hb, hr⟩
  have HB1 : Hid (Below B w w1) := (HB0.out.mono HH.out.base).trans hb
  have HR1 : Hid (R w1) := hr
  clear hb hr
  go_wp2
  go_ret
  exact ⟨rfl, HB1.out, HR1.out⟩

/-- the root that is laid over a full leaf -/
theorem root_over {w : World} {B G x : Nat} {l : Nd} (h : LeafAt w l) (hh : l.high B) (hB : B ≤ w.heap.size) (hn : l.xs.length = 63) (hg : l.gen = G) :
    RootAt (((w.alloc (.cells #[.string (keyB x), .int .i64 (x : Int)] 57)).alloc (.cells #[.pointer (some ⟨l.b, 0, none⟩)] 45)).alloc (.cells #[.slice none 0 0, .slice (some ⟨w.heap.size + 1, 0, none⟩) 1 1, .int .u64 (G : Int)] 55)) B G ⟨w.heap.size + 1 + 1, .slice none 0 0, .slice (some ⟨w.heap.size + 1, 0, none⟩) 1 1, [], [l]⟩ := by
  have hb1 : Below w.heap.size w (((w.alloc (.cells #[.string (keyB x), .int .i64 (x : Int)] 57)).alloc (.cells #[.pointer (some ⟨l.b, 0, none⟩)] 45)).alloc (.cells #[.slice none 0 0, .slice (some ⟨w.heap.size + 1, 0, none⟩) 1 1, .int .u64 (G : Int)] 55)) :=
    (((Below.refl _ _).alloc (Nat.le_refl _) _).alloc (by simp) _).alloc (by simp; omega) _
  have hlt := h.lt
  have hk : (((w.alloc (.cells #[.string (keyB x), .int .i64 (x : Int)] 57)).alloc (.cells #[.pointer (some ⟨l.b, 0, none⟩)] 45)).alloc (.cells #[.slice none 0 0, .slice (some ⟨w.heap.size + 1, 0, none⟩) 1 1, .int .u64 (G : Int)] 55)).heap[w.heap.size + 1]? = some (.cells ([ptrV l.b] ++ []).toArray 45 (0, 0)) := by
    rw [Below.heap_alloc _ _ _ (by simp)]
    have := heap_alloc_new (w.alloc (.cells #[.string (keyB x), .int .i64 (x : Int)] 57)) (.cells #[.pointer (some ⟨l.b, 0, none⟩)] 45)
    simpa [ptrV] using this
  refine ⟨?_, World.ownsRow_nil _ _ _ _, own_shut (n := 1) (z := 1) (xs := [ptrV l.b]) hk (Nat.le_refl _) (by decide) rfl rfl, ?_, ?_, ?_, ?_, ?_, ?_, ?_, ?_, ?_, ?_, fun m hm => by rw [List.mem_singleton] at hm; subst hm; exact Nat.le_of_eq hg⟩
  · have := heap_alloc_new ((w.alloc (.cells #[.string (keyB x), .int .i64 (x : Int)] 57)).alloc (.cells #[.pointer (some ⟨l.b, 0, none⟩)] 45)) (.cells #[.slice none 0 0, .slice (some ⟨w.heap.size + 1, 0, none⟩) 1 1, .int .u64 (G : Int)] 55)
    simpa [nodeObj] using this
  · intro m hm
    rw [List.mem_singleton] at hm
    subst hm
    exact leaf_below h hb1
  · intro m hm
    rw [List.mem_singleton] at hm
    subst hm
    omega
  · show [w.heap.size + 1 + 1, l.b].Nodup
    simp
    omega
  · simp
  · intro m hm
    rw [List.mem_singleton] at hm
    subst hm
    obtain ⟨g, hg, _⟩ := h.some (by omega)
    rw [hg]
    simp [Value.ownBlock]
  · simp; omega
  · show B ≤ w.heap.size + 1 + 1
    omega
  · intro g hg
    cases hg
  · intro g hg
    cases hg
    show B ≤ w.heap.size + 1
    omega
  · intro m hm _
    rw [List.mem_singleton] at hm
    subst hm
    exact hh

set_option maxHeartbeats 1000000 in
theorem cput_b (w : World) (B G : Nat) (l : Nd) (x mm : Nat) (h : LeafAt w l) (hg : l.gen = G) (hh : l.high B) (hB : B ≤ w.heap.size) (hn : l.xs.length = 63) (hm : l.xs[31]? = some mm) (R : Nat → World → Prop)
    (hput : ∀ W r1, RootAt W B G r1 → r1.ss = [mm] → r1.ks.map Nd.xs = [l.xs.take 31, l.xs.drop 32] → Calls Yba.prog 24 #[.pointer (some ⟨r1.b, 0, none⟩), .agg #[.string (keyB x), .int .i64 (x : Int)], .int .u64 (G : Int)] W fun e w' => (∃ v, e = .returned v) ∧ Below B W w' ∧ R r1.b w') :
    Calls Yba.prog 15 #[.pointer (some ⟨l.b, 0, none⟩), .agg #[.string (keyB x), .int .i64 (x : Int)], .int .u64 (G : Int)] w fun e w' => ∃ b, e = .returned (.pointer (some ⟨b, 0, none⟩)) ∧ Below B w w' ∧ R b w' := by
  have HH : Hid (LeafAt w l ∧ l.gen = G ∧ l.high B) := ⟨h, hg, hh⟩
  have HN : Hid (l.xs.length = 63) := hn
  obtain ⟨c0, _, _, _, _, hlt⟩ := heap_node h.node
  obtain ⟨aa, cc, hv⟩ := own_form h.row
  rw [hv, hn] at c0
  have HPUT : Hid (∀ W r1, RootAt W B G r1 → r1.ss = [mm] → r1.ks.map Nd.xs = [l.xs.take 31, l.xs.drop 32] → Calls Yba.prog 24 #[.pointer (some ⟨r1.b, 0, none⟩), .agg #[.string (keyB x), .int .i64 (x : Int)], .int .u64 (G : Int)] W fun e w' => (∃ v, e = .returned v) ∧ Below B W w' ∧ R r1.b w') := hput
  have HRO : Hid (RootAt (((w.alloc (.cells #[.string (keyB x), .int .i64 (x : Int)] 57)).alloc (.cells #[.pointer (some ⟨l.b, 0, none⟩)] 45)).alloc (.cells #[.slice none 0 0, .slice (some ⟨w.heap.size + 1, 0, none⟩) 1 1, .int .u64 (G : Int)] 55)) B G ⟨w.heap.size + 1 + 1, .slice none 0 0, .slice (some ⟨w.heap.size + 1, 0, none⟩) 1 1, [], [l]⟩) := root_over h hh hB hn hg
  have HMM : Hid (l.xs[31]? = some mm) := hm
  clear h hg hh hv hn hput hm
  go_enter Yba.func15, Yba.ntmps15
  go_wp2_with fail
  obtain ⟨W3, hW3⟩ : ∃ W3, W3 = ((w.alloc (.cells #[.string (keyB x), .int .i64 (x : Int)] 57)).alloc (.cells #[.pointer (some ⟨l.b, 0, none⟩)] 45)).alloc (.cells #[.slice none 0 0, .slice (some ⟨w.heap.size + 1, 0, none⟩) 1 1, .int .u64 (G : Int)] 55) := ⟨_, rfl⟩
  rw [← hW3] at HRO ⊢
  have HB3 : Hid (Below w.heap.size w W3) := by rw [hW3]; exact (((Below.refl _ _).alloc (Nat.le_refl _) _).alloc (by simp) _).alloc (by simp; omega) _
  have b0 : W3.cell? ⟨w.heap.size, 0, none⟩ = some (.string (keyB x)) := by rw [hW3, cell_past _ _ _ _ (by simp; omega), cell_past _ _ _ _ (by simp), cell_new]; rfl
  have b1 : W3.cell? ⟨w.heap.size, 1, none⟩ = some (.int .i64 (x : Int)) := by rw [hW3, cell_past _ _ _ _ (by simp; omega), cell_past _ _ _ _ (by simp), cell_new]; rfl
  have hs3 : w.heap.size < W3.heap.size := by rw [hW3]; simp; omega
  clear hW3
  have HNO : Hid (¬ Rt.own ⟨w.heap.size + 1 + 1, .slice none 0 0, .slice (some ⟨w.heap.size + 1, 0, none⟩) 1 1, [], [l]⟩ w.heap.size) := by
    intro hk
    rcases hk with h | h | h | ⟨m, hm, h⟩
    · have h' : w.heap.size = w.heap.size + 1 + 1 := h
      omega
    · cases h
    · have h' : some (w.heap.size + 1) = some w.heap.size := h
      have h2 := Option.some.inj h'
      omega
    · rw [List.mem_singleton] at hm
      subst hm
      rcases h with h | h
      · omega
      · have := own_lt HH.out.1.row h
        omega
  refine (split_any W3 B G ⟨w.heap.size + 1 + 1, .slice none 0 0, .slice (some ⟨w.heap.size + 1, 0, none⟩) 1 1, [], [l]⟩ 0 l mm HRO.out rfl (by show 1 < 900; decide) (by show 0 < 900; decide) (Nat.le_refl _) HN.out HMM.out).mono ?_
  rintro e w4 ⟨⟨v4, rfl⟩, hB4, r1, hF4, hR4, hb4, hss4, hks4⟩
  have d0 := (World.cell?_of_block (a := ⟨w.heap.size, 0, none⟩) (hF4.chg.block w.heap.size hs3 HNO.out)).trans b0
  have d1 := (World.cell?_of_block (a := ⟨w.heap.size, 1, none⟩) (hF4.chg.block w.heap.size hs3 HNO.out)).trans b1
  have HP : Hid (Calls Yba.prog 24 #[.pointer (some ⟨w.heap.size + 1 + 1, 0, none⟩), .agg #[.string (keyB x), .int .i64 (x : Int)], .int .u64 (G : Int)] w4 fun e w' => (∃ v, e = .returned v) ∧ Below B w4 w' ∧ R (w.heap.size + 1 + 1) w') := by
    have := HPUT.out w4 r1 hR4 hss4 hks4
    have e1 : r1.b = w.heap.size + 1 + 1 := hb4
    rw [e1] at this
    exact this
  have HB4 : Hid (Below B w w4) := (HB3.out.mono hB).trans hB4
  clear hB4 hF4 hR4 hb4 hss4 hks4 b0 b1 HPUT HRO HNO
  go_wp2_with fail
  refine HP.out.mono ?_
  rintro e w5 ⟨⟨v5, rfl⟩, hb5, hr5⟩
  have HB5 : Hid (Below B w w5) := HB4.out.trans hb5
  have HR5 : Hid (R (w.heap.size + 1 + 1) w5) := hr5
  clear hb5 hr5 HP
  go_wp2
  go_ret
  exact ⟨_, rfl, HB5.out, HR5.out⟩
end Go.Proofs.Ybulkira
