import Derived.Test.YbulkiraROwn
namespace Go.Proofs.Ybulkira
open Go.RowKit
set_option linter.unusedVariables false

/-- all the blocks of a root and its leaves -/
def Rt.own (r : Rt) (k : Nat) : Prop := k = r.b ∨ r.v.ownBlock = some k ∨ r.u.ownBlock = some k ∨ ∃ l ∈ r.ks, l.own k

/-- what a change of a root touches: its own blocks alone; what it has then is its own, or new -/
structure Foot (w w' : World) (r r' : Rt) : Prop where
  chg : Chg r.own w w'
  own : ∀ k, r'.own k → r.own k ∨ w.heap.size ≤ k

theorem Foot.refl (w : World) (r : Rt) : Foot w w r r := ⟨Chg.refl _ _, fun k h => .inl h⟩

theorem Foot.trans {w w1 w2 : World} {r r1 r2 : Rt} (h : Foot w w1 r r1) (k : Foot w1 w2 r1 r2) : Foot w w2 r r2 :=
  ⟨h.chg.trans k.chg (fun j hj => h.own j hj), fun j hj => (k.own j hj).elim (fun h1 => h.own j h1) (fun h1 => .inr (Nat.le_trans h.chg.size h1))⟩

theorem Foot.of_below {w w' : World} (r : Rt) (hb : Below w.heap.size w w') : Foot w w' r r := ⟨(Chg.of_below hb).mono (fun _ h => h.elim), fun _ h => .inl h⟩

theorem foot_items {w w' : World} {r : Rt} {v' : Value} {ss' : List Nat} (hc : Chg (fun k => k = r.b ∨ r.v.ownBlock = some k) w w') (hl : v'.ownBlock = r.v.ownBlock ∨ ∃ g, v'.ownBlock = some g ∧ w.heap.size ≤ g) :
    Foot w w' r { r with v := v', ss := ss' } := by
  refine ⟨hc.mono (fun j hj => hj.elim .inl (fun h => .inr (.inl h))), fun k hk => ?_⟩
  rcases hk with h | h | h | h
  · exact .inl (.inl h)
  · rcases hl with e | ⟨g, e, hge⟩
    · exact .inl (.inr (.inl (e.symm.trans h)))
    · have h2 := e.symm.trans h
      cases h2
      exact .inr hge
  · exact .inl (.inr (.inr (.inl h)))
  · exact .inl (.inr (.inr (.inr h)))

theorem foot_setItems {w w2 : World} {r : Rt} {v' : Value} {ss' : List Nat} (hr : NewRow w w2 r.v v') : Foot w (w2.setCell ⟨r.b, 0, none⟩ v') r { r with v := v', ss := ss' } :=
  foot_items ((hr.chg.mono (fun j hj => Or.inr hj)).trans (Chg.set ⟨r.b, 0, none⟩ v') (fun j hj => .inl (.inl hj))) hr.lies

theorem foot_setItems0 {w w2 : World} {r : Rt} {ss' : List Nat} (hr : w.grownBy w2 r.v.ownBlock) : Foot w w2 r { r with ss := ss' } :=
  foot_items (v' := r.v) ((Chg.of_grown hr).mono (fun j hj => Or.inr hj)) (.inl rfl)

theorem foot_kids {w w' : World} {r : Rt} {u' : Value} {ks' : List Nd} (hc : Chg (fun k => k = r.b ∨ r.u.ownBlock = some k) w w') (hl : u'.ownBlock = r.u.ownBlock ∨ ∃ g, u'.ownBlock = some g ∧ w.heap.size ≤ g)
    (hk : ∀ l ∈ ks', l ∈ r.ks ∨ ∀ k, l.own k → w.heap.size ≤ k) : Foot w w' r { r with u := u', ks := ks' } := by
  refine ⟨hc.mono (fun j hj => hj.elim .inl (fun h => .inr (.inr (.inl h)))), fun k hk' => ?_⟩
  rcases hk' with h | h | h | ⟨l, hl', h⟩
  · exact .inl (.inl h)
  · exact .inl (.inr (.inl h))
  · rcases hl with e | ⟨g, e, hge⟩
    · exact .inl (.inr (.inr (.inl (e.symm.trans h))))
    · have h2 := e.symm.trans h
      cases h2
      exact .inr hge
  · rcases hk l hl' with hm | hm
    · exact .inl (.inr (.inr (.inr ⟨l, hm, h⟩)))
    · exact .inr (hm k h)

theorem foot_setKids {w w2 : World} {r : Rt} {u' : Value} {ks' : List Nd} (hr : NewRow w w2 r.u u') (hk : ∀ l ∈ ks', l ∈ r.ks ∨ ∀ k, l.own k → w.heap.size ≤ k) : Foot w (w2.setCell ⟨r.b, 1, none⟩ u') r { r with u := u', ks := ks' } :=
  foot_kids ((hr.chg.mono (fun j hj => Or.inr hj)).trans (Chg.set ⟨r.b, 1, none⟩ u') (fun j hj => .inl (.inl hj))) hr.lies hk

theorem foot_setKid {w w' : World} {r : Rt} {i : Nat} {l l' : Nd} (hi : r.ks[i]? = some l) (hu : LeafUpd w w' l l') : Foot w w' r { r with ks := r.ks.set i l' } := by
  have hl := List.mem_of_getElem? hi
  refine ⟨hu.chg.mono (fun j hj => .inr (.inr (.inr ⟨l, hl, hj⟩))), fun k hk' => ?_⟩
  rcases hk' with h | h | h | ⟨m, hm, h⟩
  · exact .inl (.inl h)
  · exact .inl (.inr (.inl h))
  · exact .inl (.inr (.inr (.inl h)))
  · rcases List.mem_or_eq_of_mem_set hm with h' | rfl
    · exact .inl (.inr (.inr (.inr ⟨m, h', h⟩)))
    · rcases h with h | h
      · exact .inl (.inr (.inr (.inr ⟨l, hl, .inl (h.trans hu.b)⟩)))
      · rcases hu.lies with e | ⟨g, e, hge⟩
        · exact .inl (.inr (.inr (.inr ⟨l, hl, .inr (e.symm.trans h)⟩)))
        · have h2 := e.symm.trans h
          cases h2
          exact .inr hge

theorem foot_newKid {w w' : World} {r : Rt} {i : Nat} {l' : Nd} (hc : Chg (fun k => r.u.ownBlock = some k) w w') (hh : l'.high w.heap.size) : Foot w w' r { r with ks := r.ks.set i l' } := by
  refine foot_kids (u' := r.u) (hc.mono (fun j hj => Or.inr hj)) (.inl rfl) (fun m hm => ?_)
  rcases List.mem_or_eq_of_mem_set hm with h' | rfl
  · exact .inl h'
  · exact .inr (fun k hk => hk.elim (fun e => e ▸ hh.1) (fun e => hh.2 k e))

/-- all the blocks of a root lie in its world -/
theorem RootAt.own_lt {w : World} {B G : Nat} {r : Rt} (h : RootAt w B G r) {k : Nat} (hk : r.own k) : k < w.heap.size := by
  rcases hk with rfl | hk | hk | ⟨l, hl, hk⟩
  · exact (heap_node h.node).2.2.2.2.2
  · exact Ybulkira.own_lt h.row hk
  · exact Ybulkira.own_lt h.kids hk
  · rcases hk with rfl | hk
    · exact (h.leaf l hl).lt
    · exact Ybulkira.own_lt (h.leaf l hl).row hk
end Go.Proofs.Ybulkira
