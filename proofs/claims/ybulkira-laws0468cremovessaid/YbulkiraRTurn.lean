import Derived.Test.YbulkiraRRoot
namespace Go.Proofs.Ybulkira
open Go.RowKit
set_option linter.unusedVariables false

/-- a row of pointers is no row of items -/
theorem kids_ne_items {w : World} {u v : Value} {bs xs : List Nat} (hu : Kids w u bs) (hv : Items w v xs) {g : Nat} (h1 : u.ownBlock = some g) : v.ownBlock ≠ some g := by
  intro h2
  rcases hu.2 with ⟨rfl, _⟩ | ⟨g', cap, cur, rfl, _, hg, _⟩
  · cases h1
  · cases h1
    exact own_ne hv hg (by decide) h2

theorem RootAt.lt {w : World} {B G : Nat} {r : Rt} (h : RootAt w B G r) : r.b < w.heap.size := (heap_node h.node).2.2.2.2.2

/-- the root's items are laid anew -/
theorem RootAt.turnItems {w w' : World} {B G : Nat} {r : Rt} (h : RootAt w B G r) {v' : Value} {ss' : List Nat}
    (hc : Chg (fun k => k = r.b ∨ r.v.ownBlock = some k) w w') (hn : w'.heap[r.b]? = some (nodeObj v' r.u G)) (hi : Items w' v' ss')
    (hl : v'.ownBlock = r.v.ownBlock ∨ ∃ g, v'.ownBlock = some g ∧ w.heap.size ≤ g) :
    RootAt w' B G { r with v := v', ss := ss' } ∧ Below B w w' := by
  have hleaf : ∀ l ∈ r.ks, LeafAt w' l := by
    intro l hl
    refine (h.leaf l hl).kept hc (fun hs => ?_) (fun g hg hs => ?_)
    · rcases hs with e | e
      · exact h.root_ne hl e.symm
      · exact own_ne h.row (h.leaf l hl).node (by decide) e
    · rcases hs with e | e
      · exact own_ne (h.leaf l hl).row h.node (by decide) (by rw [hg, e])
      · exact h.nr l hl (e.trans hg.symm)
  refine ⟨⟨hn, hi, own_kept h.kids hc (fun g hg hs => ?_), hleaf, h.full, h.nb, h.nv, ?_, Nat.le_trans h.base hc.size, h.hb, ?_, h.hu, h.hk, h.gens⟩, hc.below (fun j hj => hj.elim (fun e => e ▸ h.hb) (fun e => h.hv j e)) h.base⟩
  · rcases hs with e | e
    · exact own_ne h.kids h.node (by decide) (by rw [hg, e])
    · exact kids_ne_items h.kids h.row hg e
  · intro l hlm
    rcases hl with e | ⟨g, e, hge⟩
    · show v'.ownBlock ≠ _
      rw [e]; exact h.nr l hlm
    · intro e2
      have := own_lt (h.leaf l hlm).row (e2.symm.trans e)
      omega
  · intro g hg
    rcases hl with e | ⟨g', e, hge⟩
    · exact h.hv g (e.symm.trans hg)
    · have : some g' = some g := e.symm.trans hg
      cases this
      exact Nat.le_trans h.base hge

theorem root_items {w w2 : World} {B G : Nat} {r : Rt} {v' : Value} {ss' : List Nat} (h : RootAt w B G r) (hi : Items w2 v' ss') (hr : NewRow w w2 r.v v') :
    RootAt (w2.setCell ⟨r.b, 0, none⟩ v') B G { r with v := v', ss := ss' } ∧ Below B w (w2.setCell ⟨r.b, 0, none⟩ v') := by
  have hne := own_ne h.row h.node (by decide)
  have hn2 : w2.heap[r.b]? = some (nodeObj r.v r.u G) := (hr.chg.block r.b h.lt (fun e => hne e)).trans h.node
  have hc := Chg.set (w := w2) ⟨r.b, 0, none⟩ v'
  refine h.turnItems ((hr.chg.mono (fun j hj => Or.inr hj)).trans hc (fun j hj => .inl (.inl hj))) (set_node0 hn2) (own_kept hi hc (fun g hg e => ?_)) hr.lies
  exact own_ne hi hn2 (by decide) (by rw [hg]; exact congrArg some e)

theorem root_items0 {w w2 : World} {B G : Nat} {r : Rt} {ss' : List Nat} (h : RootAt w B G r) (hi : Items w2 r.v ss') (hr : w.grownBy w2 r.v.ownBlock) :
    RootAt w2 B G { r with ss := ss' } ∧ Below B w w2 := by
  have hne := own_ne h.row h.node (by decide)
  have hc := Chg.of_grown hr
  have hn2 : w2.heap[r.b]? = some (nodeObj r.v r.u G) := (hc.block r.b h.lt (fun e => hne e)).trans h.node
  exact h.turnItems (v' := r.v) (hc.mono (fun j hj => Or.inr hj)) hn2 hi (.inl rfl)

/-- the root's children are laid anew -/
theorem RootAt.turnKids {w w' : World} {B G : Nat} {r : Rt} (h : RootAt w B G r) {u' : Value} {ks' : List Nd}
    (hc : Chg (fun k => k = r.b ∨ r.u.ownBlock = some k) w w') (hn : w'.heap[r.b]? = some (nodeObj r.v u' G)) (hK : Kids w' u' (ks'.map Nd.b))
    (hl : u'.ownBlock = r.u.ownBlock ∨ ∃ g, u'.ownBlock = some g ∧ w.heap.size ≤ g)
    (hks : ∀ l ∈ ks', l ∈ r.ks ∨ (LeafAt w' l ∧ 0 < l.xs.length ∧ l.high w.heap.size)) (nb' : (ks'.map Nd.b).Nodup) (nv' : (ks'.map (·.v.ownBlock)).Nodup) (hgn : ∀ l ∈ ks', l.gen ≤ G) :
    RootAt w' B G { r with u := u', ks := ks' } ∧ Below B w w' := by
  have hleaf : ∀ l ∈ r.ks, LeafAt w' l := by
    intro l hl
    refine (h.leaf l hl).kept hc (fun hs => ?_) (fun g hg hs => ?_)
    · rcases hs with e | e
      · exact h.root_ne hl e.symm
      · exact own_ne h.kids (h.leaf l hl).node (by decide) e
    · rcases hs with e | e
      · exact own_ne (h.leaf l hl).row h.node (by decide) (by rw [hg, e])
      · exact kids_ne_items h.kids (h.leaf l hl).row e hg
  refine ⟨⟨hn, own_kept h.row hc (fun g hg hs => ?_), hK, ?_, ?_, ?_, nv', ?_, Nat.le_trans h.base hc.size, h.hb, h.hv, ?_, ?_, hgn⟩, hc.below (fun j hj => hj.elim (fun e => e ▸ h.hb) (fun e => h.hu j e)) h.base⟩
  · rcases hs with e | e
    · exact own_ne h.row h.node (by decide) (by rw [hg, e])
    · exact kids_ne_items h.kids h.row e hg
  · intro l hl
    rcases hks l hl with hm | hm
    · exact hleaf l hm
    · exact hm.1
  · intro l hl
    rcases hks l hl with hm | hm
    · exact h.full l hm
    · exact hm.2.1
  · refine List.nodup_cons.2 ⟨fun hm => ?_, nb'⟩
    obtain ⟨l, hl, e⟩ := List.mem_map.1 hm
    rcases hks l hl with hm | hm
    · exact h.root_ne hm e.symm
    · have := hm.2.2.1
      have := h.lt
      have e' : l.b = r.b := e
      omega
  · intro l hl
    rcases hks l hl with hm | hm
    · exact h.nr l hm
    · intro e
      obtain ⟨g, hg, _⟩ := hm.1.some hm.2.1
      have h1 := hm.2.2.2 g hg
      have h2 := own_lt h.row (e.trans hg)
      omega
  · intro g hg
    rcases hl with e | ⟨g', e, hge⟩
    · exact h.hu g (e.symm.trans hg)
    · have : some g' = some g := e.symm.trans hg
      cases this
      exact Nat.le_trans h.base hge
  · intro l hl hgen
    rcases hks l hl with hm | hm
    · exact h.hk l hm hgen
    · exact ⟨Nat.le_trans h.base hm.2.2.1, fun g hg => Nat.le_trans h.base (hm.2.2.2 g hg)⟩

/-- one of the leaves gives way to a new one -/
theorem RootAt.newKid {w w' : World} {B G : Nat} {r : Rt} (h : RootAt w B G r) {i : Nat} {l' : Nd} (hi : i < r.ks.length) (hc : Chg (fun k => r.u.ownBlock = some k) w w')
    (hK : Kids w' r.u ((r.ks.set i l').map Nd.b)) (hL : LeafAt w' l') (h0 : 0 < l'.xs.length) (hh : l'.high w.heap.size) (hgn : l'.gen ≤ G) :
    RootAt w' B G { r with ks := r.ks.set i l' } ∧ Below B w w' := by
  have hn : w'.heap[r.b]? = some (nodeObj r.v r.u G) := (hc.block r.b h.lt (fun e => own_ne h.kids h.node (by decide) e)).trans h.node
  refine h.turnKids (u' := r.u) (hc.mono (fun j hj => Or.inr hj)) hn hK (.inl rfl) ?_ ?_ ?_ (fun m hm => (List.mem_or_eq_of_mem_set hm).elim (h.gens m) (fun e => e ▸ hgn))
  · intro m hm
    obtain ⟨j, hj⟩ := List.getElem?_of_mem hm
    by_cases hji : j = i
    · subst hji
      rw [List.getElem?_set_self hi] at hj
      cases hj
      exact .inr ⟨hL, h0, hh⟩
    · rw [List.getElem?_set_ne (by omega)] at hj
      exact .inl (List.mem_of_getElem? hj)
  · rw [List.map_set]
    refine nodup_set (List.nodup_cons.1 h.nb).2 i _ (fun j hj e => ?_)
    rw [List.getElem?_map] at e
    obtain ⟨m, hm, e⟩ := Option.map_eq_some_iff.1 e
    have h1 := (h.leaf m (List.mem_of_getElem? hm)).lt
    have h2 := hh.1
    omega
  · rw [List.map_set]
    refine nodup_set h.nv i _ (fun j hj e => ?_)
    rw [List.getElem?_map] at e
    obtain ⟨m, hm, e⟩ := Option.map_eq_some_iff.1 e
    obtain ⟨g, hg, _⟩ := hL.some h0
    have h1 := own_lt (h.leaf m (List.mem_of_getElem? hm)).row (e.trans hg)
    have h2 := hh.2 g hg
    omega
end Go.Proofs.Ybulkira
