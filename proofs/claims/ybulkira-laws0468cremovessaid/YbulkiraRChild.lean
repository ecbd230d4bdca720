import Derived.Test.YbulkiraRFoot
import Derived.Deep.RegionWith
namespace Go.Proofs.Ybulkira
open Go.RowKit
set_option linter.unusedVariables false
attribute [local go_sem ↓] Go.wp_at_zero Go.wp_at_succ

/-- the cells of a row of pointers -/
theorem Kids.cell {w : World} {u : Value} {bs : List Nat} (h : Kids w u bs) (h0 : 0 < bs.length) : ∃ g c, u = .slice (some ⟨g, 0, none⟩) bs.length c ∧ g < w.heap.size ∧ (∀ i b, bs[i]? = some b → w.cell? ⟨g, i, none⟩ = some (.pointer (some ⟨b, 0, none⟩))) ∧ (∀ i, w.frozen? ⟨g, i, none⟩ = false) := by
  rcases h.2 with ⟨_, hz⟩ | ⟨g, cap, cur, hv, hb, hg, h1, h2, h3, h4⟩
  · omega
  · refine ⟨g, cap, hv, (Array.getElem?_eq_some_iff.1 hg).1, fun t x ht => ?_, fun i => by simp [World.frozen?, hg]⟩
    have c := World.ownsRow.cells h (g := g) (by rw [hv]; rfl)
    have c1 := c t (ptrV x) (by rw [List.getElem?_map, ht]; rfl)
    rw [Addr.add_lit, Nat.zero_add] at c1
    exact c1

/-- one of the pointers is written -/
theorem Kids.set {w : World} {g c : Nat} {bs : List Nat} (h : Kids w (.slice (some ⟨g, 0, none⟩) bs.length c) bs) (i b : Nat) (hi : i < bs.length) :
    Kids (w.setCell ⟨g, i, none⟩ (.pointer (some ⟨b, 0, none⟩))) (.slice (some ⟨g, 0, none⟩) bs.length c) (bs.set i b) := by
  obtain ⟨rest, hg, h1, h2, h3, h4⟩ := own_open h
  have := heap_set1 (k := i) (.pointer (some ⟨b, 0, none⟩)) hg
  rw [List.set_append_left _ _ (by simpa using hi)] at this
  show World.ownsRow _ 0 45 1 _ (bs.set i b).length _
  rw [List.length_set, List.map_set]
  exact own_shut this h1 h2 (by simp) (by simpa using h4)

theorem RootAt.drew' {w : World} {B G : Nat} {r : Rt} (h : RootAt w B G r) : RootAt w.drew B G r :=
  ⟨h.node, h.row, h.kids, fun l hl => ⟨(h.leaf l hl).node, (h.leaf l hl).row⟩, h.full, h.nb, h.nv, h.nr, h.base, h.hb, h.hv, h.hu, h.hk, h.gens⟩

set_option maxHeartbeats 1000000 in
theorem child_same (w : World) (B G : Nat) (r : Rt) (i : Nat) (l : Nd) (h : RootAt w B G r) (hi : r.ks[i]? = some l) (hm : r.ks.length < 1000) (hg : l.gen = G) :
    Calls Yba.prog 19 #[.pointer (some ⟨r.b, 0, none⟩), .int .i64 (i : Int), .int .u64 (G : Int)] w fun e w' => e = .returned (.pointer (some ⟨l.b, 0, none⟩)) ∧ RootAt w' B G r ∧ Below B w w' ∧ Foot w w' r r := by
  have hil : i < r.ks.length := (List.getElem?_eq_some_iff.1 hi).1
  obtain ⟨c0, c1, c2, f0, f1, hlt⟩ := heap_node h.node
  obtain ⟨gu, cu, hu, hgu, hcell, hfr⟩ := h.kids.cell (by simp; omega)
  have e1 := hcell i l.b (by simp [hi])
  have e2 := hfr i
  have HL := (h.leaf l (h.mem_of hi)).node
  rw [hg] at HL
  rw [hu] at c1
  simp only [List.length_map] at c1
  have HH : Hid (RootAt w B G r) := h
  have HI : Hid (r.ks[i]? = some l) := hi
  have hu' : r.u = .slice (some ⟨gu, 0, none⟩) r.ks.length cu := by simpa using hu
  have HU : Hid (r.u = .slice (some ⟨gu, 0, none⟩) r.ks.length cu) := hu'
  have HLN : Hid (w.heap[l.b]? = some (nodeObj l.v (.slice none 0 0) G)) := HL
  obtain ⟨M, hM⟩ : ∃ M, r.ks.length = M := ⟨_, rfl⟩
  rw [hM] at c1 hil hm
  have HM : Hid (r.ks.length = M) := hM
  have hil' : (i : Int) < (M : Int) := by omega
  have hne : gu ≠ r.b := fun e => own_ne h.kids h.node (by decide) (by rw [hu, e]; rfl)
  clear h hcell hfr hu hu' HL hi hM
  have k1 : (w.setCell ⟨gu, i, none⟩ (.pointer (some ⟨l.b, 0, none⟩))).cell? ⟨r.b, 1, none⟩ = some (.slice (some ⟨gu, 0, none⟩) M cu) := (cell_set_other w _ _ _ _ (.inl hne)).trans c1
  have k2 : (w.setCell ⟨gu, i, none⟩ (.pointer (some ⟨l.b, 0, none⟩))).cell? ⟨gu, i, none⟩ = some (.pointer (some ⟨l.b, 0, none⟩)) := World.cell?_setCell_same w _ _ e1
  go_enter Yba.func19, Yba.ntmps19
  go_wp2_with fail
  go_region_held3 (fun w' => w'.cell? ⟨r.b, 1, none⟩ = some (.slice (some ⟨gu, 0, none⟩) M cu) ∧ w'.cell? ⟨gu, i, none⟩ = some (.pointer (some ⟨l.b, 0, none⟩))) (first | go_keep | exact ⟨k1, k2⟩) ((go_at_call 12; refine (own_same l.b l.v (.slice none 0 0) G _ ?_).mono ?_; exact HLN.out; rintro e w' ⟨rfl, rfl⟩))
  go_wp2
  go_ret
  refine ⟨rfl, ?_⟩
  have hR := HH.out
  have hu := HU.out
  have hK : Kids (w.setCell ⟨gu, i, none⟩ (.pointer (some ⟨l.b, 0, none⟩))) r.u (r.ks.map Nd.b) := by
    have h1 : Kids w (.slice (some ⟨gu, 0, none⟩) (r.ks.map Nd.b).length cu) (r.ks.map Nd.b) := by
      have := hR.kids
      rw [hu] at this
      simpa using this
    have h2 := h1.set i l.b (by have := HM.out; simp; omega)
    have h3 : (r.ks.map Nd.b).set i l.b = r.ks.map Nd.b := by
      apply List.ext_getElem?
      intro j
      by_cases hj : j = i
      · subst hj
        rw [List.getElem?_set_self (by have := HM.out; simp; omega), List.getElem?_map, HI.out]; rfl
      · rw [List.getElem?_set_ne (by omega)]
    rw [h3] at h2
    rw [hu]
    simpa using h2
  have hc : Chg (fun k => r.u.ownBlock = some k) w (w.setCell ⟨gu, i, none⟩ (.pointer (some ⟨l.b, 0, none⟩))) := (Chg.set ⟨gu, i, none⟩ _).mono (fun j hj => by rw [hu, hj]; rfl)
  have hn : (w.setCell ⟨gu, i, none⟩ (.pointer (some ⟨l.b, 0, none⟩))).heap[r.b]? = some (nodeObj r.v r.u G) := (hc.block r.b hR.lt (fun e => own_ne hR.kids hR.node (by decide) e)).trans hR.node
  have hfin := hR.turnKids (u' := r.u) (ks' := r.ks) (hc.mono (fun j hj => Or.inr hj)) hn hK (.inl rfl) (fun l hl => .inl hl) (List.nodup_cons.1 hR.nb).2 hR.nv hR.gens
  have hft : Foot w (w.setCell ⟨gu, i, none⟩ (.pointer (some ⟨l.b, 0, none⟩))) r r := foot_kids (u' := r.u) (ks' := r.ks) (hc.mono (fun j hj => Or.inr hj)) (.inl rfl) (fun l hl => .inl hl)
  exact ⟨hfin.1.drew', hfin.2.drew, hft.trans (Foot.of_below r ⟨rfl, rfl, rfl, Nat.le_refl _, fun _ _ => rfl⟩)⟩

set_option maxHeartbeats 1000000 in
theorem child_new (w : World) (B G : Nat) (r : Rt) (i : Nat) (l : Nd) (h : RootAt w B G r) (hi : r.ks[i]? = some l) (hm : r.ks.length < 1000) (hx : l.xs.length < 1000) (hg : l.gen ≠ G) :
    Calls Yba.prog 19 #[.pointer (some ⟨r.b, 0, none⟩), .int .i64 (i : Int), .int .u64 (G : Int)] w fun e w' => ∃ l', e = .returned (.pointer (some ⟨l'.b, 0, none⟩)) ∧ l'.xs = l.xs ∧ l'.gen = G ∧ RootAt w' B G { r with ks := r.ks.set i l' } ∧ Below B w w' ∧ Foot w w' r { r with ks := r.ks.set i l' } := by
  have hil : i < r.ks.length := (List.getElem?_eq_some_iff.1 hi).1
  obtain ⟨c0, c1, c2, f0, f1, hlt⟩ := heap_node h.node
  obtain ⟨gu, cu, hu, hgu, hcell, hfr⟩ := h.kids.cell (by simp; omega)
  have e1 := hcell i l.b (by simp [hi])
  have e2 := hfr i
  have HL : Hid (LeafAt w l) := h.leaf l (h.mem_of hi)
  have h0 := h.full l (h.mem_of hi)
  rw [hu] at c1
  simp only [List.length_map] at c1
  have HH : Hid (RootAt w B G r) := h
  have HI : Hid (r.ks[i]? = some l) := hi
  have hu' : r.u = .slice (some ⟨gu, 0, none⟩) r.ks.length cu := by simpa using hu
  have HU : Hid (r.u = .slice (some ⟨gu, 0, none⟩) r.ks.length cu) := hu'
  obtain ⟨M, hM⟩ : ∃ M, r.ks.length = M := ⟨_, rfl⟩
  rw [hM] at c1 hil hm
  have HM : Hid (r.ks.length = M) := hM
  have hil' : (i : Int) < (M : Int) := by omega
  have hne : gu ≠ r.b := fun e => own_ne h.kids h.node (by decide) (by rw [hu, e]; rfl)
  clear h hcell hfr hu hu' hi hM
  go_enter Yba.func19, Yba.ntmps19
  go_wp2_with fail
  go_region_with (go_at_call 12; go_loud (refine (own_new l G _ ?_ h0 hx hg).mono ?_; exact ⟨HL.out.node, HL.out.row⟩; rintro e w1 ⟨l', rfl, hL', hxs, hgen, hhi, hbel⟩; have q1 := (hbel.cell (p := ⟨r.b, 1, none⟩) hlt).trans c1; have q2 := (hbel.cell (p := ⟨gu, i, none⟩) hgu).trans e1; have q3 := (hbel.frozen (p := ⟨gu, i, none⟩) hgu).trans e2; have HX : Hid (LeafAt w1 l' ∧ l'.xs = l.xs ∧ l'.gen = G ∧ l'.high w.heap.size ∧ Below w.heap.size w w1) := ⟨hL', hxs, hgen, hhi, ⟨hbel.os, hbel.tape, hbel.output, hbel.size, hbel.block⟩⟩; clear hL' hxs hgen hhi hbel))
  all_goals
    have k1 : (w1.setCell ⟨gu, i, none⟩ (.pointer (some ⟨l'.b, 0, none⟩))).cell? ⟨r.b, 1, none⟩ = some (.slice (some ⟨gu, 0, none⟩) M cu) := (cell_set_other w1 _ _ _ _ (.inl hne)).trans q1
    have k2 : (w1.setCell ⟨gu, i, none⟩ (.pointer (some ⟨l'.b, 0, none⟩))).cell? ⟨gu, i, none⟩ = some (.pointer (some ⟨l'.b, 0, none⟩)) := World.cell?_setCell_same w1 _ _ q2
    go_wp2
    go_ret
    obtain ⟨hL', hxs, hgen, hhi, hbel⟩ := HX.out
    refine ⟨l', rfl, hxs, hgen, ?_⟩
    have hR := HH.out
    have hu := HU.out
    have hc : Chg (fun k => r.u.ownBlock = some k) w (w1.setCell ⟨gu, i, none⟩ (.pointer (some ⟨l'.b, 0, none⟩))) :=
      ((Chg.of_below hbel).mono (fun j hj => hj.elim)).trans (Chg.set ⟨gu, i, none⟩ _) (fun j hj => .inl (by rw [hu, hj]; rfl))
    have hK : Kids (w1.setCell ⟨gu, i, none⟩ (.pointer (some ⟨l'.b, 0, none⟩))) r.u ((r.ks.set i l').map Nd.b) := by
      have h1 : Kids w1 (.slice (some ⟨gu, 0, none⟩) (r.ks.map Nd.b).length cu) (r.ks.map Nd.b) := by
        have := own_kept hR.kids (Chg.of_below hbel) (fun _ _ h => h)
        rw [hu] at this
        show World.ownsRow _ 0 45 1 _ _ _
        simpa using this
      have h2 := h1.set i l'.b (by have := HM.out; simp; omega)
      rw [List.map_set, hu]
      simpa using h2
    have hL2 : LeafAt (w1.setCell ⟨gu, i, none⟩ (.pointer (some ⟨l'.b, 0, none⟩))) l' := by
      refine hL'.kept (Chg.set ⟨gu, i, none⟩ _) (fun e => ?_) (fun g hg e => ?_)
      · have h1 := hhi.1
        have e' : l'.b = gu := e
        omega
      · have h1 := hhi.2 g hg
        have e' : g = gu := e
        omega
    have hfin := hR.newKid (i := i) (l' := l') (by have := HM.out; omega) hc hK hL2 (by rw [hxs]; exact h0) hhi (by rw [hgen]; exact Nat.le_refl _)
    have hft := foot_newKid (r := r) (i := i) (l' := l') hc hhi
    first | exact ⟨hfin.1.drew', hfin.2.drew, hft.trans (Foot.of_below _ ⟨rfl, rfl, rfl, Nat.le_refl _, fun _ _ => rfl⟩)⟩ | exact ⟨hfin.1, hfin.2, hft⟩

theorem set_self {α : Type} {L : List α} {i : Nat} {a : α} (h : L[i]? = some a) : L.set i a = L := by
  have hi := (List.getElem?_eq_some_iff.1 h).1
  apply List.ext_getElem?
  intro j
  by_cases hj : j = i
  · subst hj; rw [List.getElem?_set_self hi, h]
  · rw [List.getElem?_set_ne (by omega)]

theorem child_any (w : World) (B G : Nat) (r : Rt) (i : Nat) (l : Nd) (h : RootAt w B G r) (hi : r.ks[i]? = some l) (hm : r.ks.length < 1000) (hx : l.xs.length < 1000) :
    Calls Yba.prog 19 #[.pointer (some ⟨r.b, 0, none⟩), .int .i64 (i : Int), .int .u64 (G : Int)] w fun e w' => ∃ l', e = .returned (.pointer (some ⟨l'.b, 0, none⟩)) ∧ l'.xs = l.xs ∧ l'.gen = G ∧ RootAt w' B G { r with ks := r.ks.set i l' } ∧ Below B w w' ∧ Foot w w' r { r with ks := r.ks.set i l' } := by
  by_cases hg : l.gen = G
  · refine (child_same w B G r i l h hi hm hg).mono ?_
    rintro e w' ⟨he, h1, h2, h3⟩
    refine ⟨l, he, rfl, hg, ?_, h2, ?_⟩
    · rw [set_self hi]
      exact h1
    · rw [set_self hi]
      exact h3
  · exact child_new w B G r i l h hi hm hx hg
end Go.Proofs.Ybulkira
