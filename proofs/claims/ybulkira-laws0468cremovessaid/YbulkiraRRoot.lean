import Derived.Test.YbulkiraRNode
namespace Go.Proofs.Ybulkira
open Go.RowKit
set_option linter.unusedVariables false

/-- a root over leaves -/
structure Rt where
  b : Nat
  v : Value
  u : Value
  ss : List Nat
  ks : List Nd

/-- a leaf that may be written lies at B or above -/
def Nd.high (l : Nd) (B : Nat) : Prop := B ≤ l.b ∧ ∀ g, l.v.ownBlock = some g → B ≤ g

structure RootAt (w : World) (B G : Nat) (r : Rt) : Prop where
  node : w.heap[r.b]? = some (nodeObj r.v r.u G)
  row : Items w r.v r.ss
  kids : Kids w r.u (r.ks.map Nd.b)
  leaf : ∀ l ∈ r.ks, LeafAt w l
  full : ∀ l ∈ r.ks, 0 < l.xs.length
  nb : (r.b :: r.ks.map Nd.b).Nodup
  nv : (r.ks.map (·.v.ownBlock)).Nodup
  nr : ∀ l ∈ r.ks, r.v.ownBlock ≠ l.v.ownBlock
  base : B ≤ w.heap.size
  hb : B ≤ r.b
  hv : ∀ g, r.v.ownBlock = some g → B ≤ g
  hu : ∀ g, r.u.ownBlock = some g → B ≤ g
  hk : ∀ l ∈ r.ks, l.gen = G → l.high B
  gens : ∀ l ∈ r.ks, l.gen ≤ G

theorem LeafAt.some {w : World} {l : Nd} (h : LeafAt w l) (h0 : 0 < l.xs.length) : ∃ g, l.v.ownBlock = some g ∧ g < w.heap.size := by
  obtain ⟨g, c, hv, hg, _⟩ := h.row.cell h0
  exact ⟨g, by rw [hv]; rfl, hg⟩

theorem LeafAt.lt {w : World} {l : Nd} (h : LeafAt w l) : l.b < w.heap.size := (heap_node h.node).2.2.2.2.2

/-- two leaves of a root have nothing in common -/
theorem RootAt.apart {w : World} {B G : Nat} {r : Rt} (h : RootAt w B G r) {i j : Nat} {l m : Nd} (hi : r.ks[i]? = some l) (hj : r.ks[j]? = some m) (hne : i ≠ j) : l.b ≠ m.b ∧ l.v.ownBlock ≠ m.v.ownBlock := by
  have h1 := List.nodup_cons.1 h.nb
  constructor
  · intro e
    have hi' : (r.ks.map Nd.b)[i]? = some l.b := by simp [hi]
    have hj' : (r.ks.map Nd.b)[j]? = some l.b := by simp [hj, e]
    exact hne ((List.getElem?_inj (List.getElem?_eq_some_iff.1 hi').1 h1.2).1 (hi'.trans hj'.symm))
  · intro e
    have hi' : (r.ks.map (·.v.ownBlock))[i]? = some l.v.ownBlock := by simp [hi]
    have hj' : (r.ks.map (·.v.ownBlock))[j]? = some l.v.ownBlock := by simp [hj, e]
    exact hne ((List.getElem?_inj (List.getElem?_eq_some_iff.1 hi').1 h.nv).1 (hi'.trans hj'.symm))

theorem RootAt.root_ne {w : World} {B G : Nat} {r : Rt} (h : RootAt w B G r) {l : Nd} (hl : l ∈ r.ks) : r.b ≠ l.b := by
  intro e
  exact (List.nodup_cons.1 h.nb).1 (by rw [e]; exact List.mem_map_of_mem hl)

theorem RootAt.mem_of {w : World} {B G : Nat} {r : Rt} (h : RootAt w B G r) {i : Nat} {l : Nd} (hi : r.ks[i]? = some l) : l ∈ r.ks := List.mem_of_getElem? hi

theorem nodup_set {α : Type} {L : List α} (h : L.Nodup) (i : Nat) (a : α) (ha : ∀ j, j ≠ i → L[j]? ≠ some a) : (L.set i a).Nodup := by
  unfold List.Nodup at h ⊢
  rw [List.pairwise_iff_getElem] at h ⊢
  intro p q hp hq hpq
  have hp' : p < L.length := by simpa using hp
  have hq' : q < L.length := by simpa using hq
  rw [List.getElem_set, List.getElem_set]
  by_cases hpi : i = p
  · have hqi : ¬ i = q := by omega
    rw [if_pos hpi, if_neg hqi]
    intro e
    exact ha q (by omega) (by rw [List.getElem?_eq_getElem hq', e])
  · rw [if_neg hpi]
    by_cases hqi : i = q
    · rw [if_pos hqi]
      intro e
      exact ha p (by omega) (by rw [List.getElem?_eq_getElem hp', e])
    · rw [if_neg hqi]
      exact h p q hp' hq' hpq

/-- one of the leaves is turned in place -/
theorem RootAt.setKid {w w' : World} {B G : Nat} {r : Rt} (h : RootAt w B G r) {i : Nat} {l l' : Nd} (hi : r.ks[i]? = some l) (hu : LeafUpd w w' l l') (hg : l.gen = G) (h0 : 0 < l'.xs.length) :
    RootAt w' B G { r with ks := r.ks.set i l' } ∧ Below B w w' := by
  have hl := h.mem_of hi
  have hil : i < r.ks.length := (List.getElem?_eq_some_iff.1 hi).1
  have hhi := h.hk l hl hg
  obtain ⟨g, hgv, hgl⟩ := (h.leaf l hl).some (h.full l hl)
  have hbel : Below B w w' := hu.chg.below (fun j hj => hj.elim (fun e => e ▸ hhi.1) (fun e => hhi.2 j e)) h.base
  have hLl := h.leaf l hl
  have hset : ∀ m ∈ r.ks.set i l', m = l' ∨ ∃ j, j ≠ i ∧ r.ks[j]? = some m := by
    intro m hm
    obtain ⟨j, hj⟩ := List.getElem?_of_mem hm
    by_cases hji : j = i
    · subst hji
      rw [List.getElem?_set_self hil] at hj
      exact .inl (Option.some.inj hj).symm
    · rw [List.getElem?_set_ne (by omega)] at hj
      exact .inr ⟨j, hji, hj⟩
  have hbs : (r.ks.set i l').map Nd.b = r.ks.map Nd.b := by
    apply List.ext_getElem?
    intro j
    rw [List.getElem?_map, List.getElem?_map]
    by_cases hji : j = i
    · subst hji; rw [List.getElem?_set_self hil, hi]; simp [hu.b]
    · rw [List.getElem?_set_ne (by omega)]
  have hvne : l'.v.ownBlock = l.v.ownBlock ∨ ∃ g, l'.v.ownBlock = some g ∧ w.heap.size ≤ g := hu.lies
  have hrv : r.v.ownBlock ≠ l.v.ownBlock := h.nr l hl
  have ne_of : ∀ (v : Value), v.ownBlock ≠ l.v.ownBlock → (∀ g, v.ownBlock = some g → g < w.heap.size) → v.ownBlock ≠ l'.v.ownBlock := by
    intro v h1 h2 e
    rcases hvne with e' | ⟨g', e', hge⟩
    · exact h1 (e.trans e')
    · have := h2 g' (e.trans e'); omega
  refine ⟨⟨?_, ?_, ?_, ?_, ?_, ?_, ?_, ?_, ?_, h.hb, h.hv, h.hu, ?_, ?_⟩, hbel⟩
  · refine (hu.chg.block r.b (heap_node h.node).2.2.2.2.2 (fun hs => ?_)).trans h.node
    rcases hs with e | e
    · exact h.root_ne hl e
    · exact own_ne hLl.row h.node (by decide) e
  · refine own_kept h.row hu.chg (fun g hg hs => ?_)
    rcases hs with e | e
    · exact own_ne h.row hLl.node (by decide) (by rw [hg, e])
    · exact hrv (hg.trans e.symm)
  · show Kids w' r.u ((r.ks.set i l').map Nd.b)
    rw [hbs]
    refine own_kept h.kids hu.chg (fun g hg hs => ?_)
    rcases hs with e | e
    · exact own_ne h.kids hLl.node (by decide) (by rw [hg, e])
    · obtain ⟨_, c, hv', _, _⟩ := hLl.row.cell (h.full l hl)
      rcases hLl.row.2 with ⟨h0', _⟩ | ⟨g', cap, cur, hv'', _, hg', _⟩
      · rw [h0'] at e; cases e
      · rw [hv''] at e; cases e
        exact own_ne h.kids hg' (by decide) hg
  · intro m hm
    rcases hset m hm with rfl | ⟨j, hj, hm'⟩
    · exact hu.leaf
    · have hap := h.apart hm' hi hj
      refine (h.leaf m (List.mem_of_getElem? hm')).kept hu.chg (fun hs => ?_) (fun g hg hs => ?_)
      · rcases hs with e | e
        · exact hap.1 e
        · exact own_ne hLl.row (h.leaf m (List.mem_of_getElem? hm')).node (by decide) e
      · rcases hs with e | e
        · exact own_ne (h.leaf m (List.mem_of_getElem? hm')).row hLl.node (by decide) (by rw [hg, e])
        · exact hap.2 (hg.trans e.symm)
  · intro m hm
    rcases hset m hm with rfl | ⟨j, _, hm'⟩
    · exact h0
    · exact h.full m (List.mem_of_getElem? hm')
  · show (r.b :: (r.ks.set i l').map Nd.b).Nodup
    rw [hbs]; exact h.nb
  · show ((r.ks.set i l').map (·.v.ownBlock)).Nodup
    rw [List.map_set]
    refine nodup_set h.nv i _ (fun j hj e => ?_)
    rw [List.getElem?_map] at e
    obtain ⟨m, hm, e⟩ := Option.map_eq_some_iff.1 e
    exact ne_of m.v (h.apart hm hi hj).2 (fun g hg => own_lt (h.leaf m (List.mem_of_getElem? hm)).row hg) e
  · intro m hm
    rcases hset m hm with rfl | ⟨j, _, hm'⟩
    · exact ne_of r.v hrv (fun g hg => own_lt h.row hg)
    · exact h.nr m (List.mem_of_getElem? hm')
  · exact Nat.le_trans h.base hu.chg.size
  · intro m hm hmg
    rcases hset m hm with rfl | ⟨j, _, hm'⟩
    · refine ⟨by rw [hu.b]; exact hhi.1, fun g hg => ?_⟩
      rcases hvne with e | ⟨g', e, hge⟩
      · exact hhi.2 g (by rw [← e]; exact hg)
      · rw [e] at hg; cases hg
        exact Nat.le_trans h.base hge
    · exact h.hk m (List.mem_of_getElem? hm') hmg
  · intro m hm
    rcases hset m hm with rfl | ⟨j, _, hm'⟩
    · rw [hu.gen, hg]
      exact Nat.le_refl _
    · exact h.gens m (List.mem_of_getElem? hm')
end Go.Proofs.Ybulkira
