import Derived.Test.YbulkiraRDel
namespace Go.Proofs.Ybulkira
open Go.RowKit
set_option linter.unusedVariables false

/-! ### rows of items and of pointers -/
def ptrV (b : Nat) : Value := .pointer (some ⟨b, 0, none⟩)

def Kids (w : World) (u : Value) (bs : List Nat) : Prop := w.ownsRow 0 45 1 u bs.length (bs.map ptrV)

theorem ptrs_one (bs : List Nat) : ∀ v ∈ bs.map ptrV, v.oneCell' = true := by
  intro v hv
  obtain ⟨b, _, rfl⟩ := List.mem_map.1 hv
  rfl

theorem removeI (v : Value) (X1 X2 : List Nat) (i x : Nat) (w : World) (hi : X1.length = i) (hI : Items w v (X1 ++ x :: X2)) (hn : (X1 ++ x :: X2).length < 1000) :
    Calls Yba.prog 17 #[v, .int .i64 (i : Int)] w fun e w' => ∃ v', e = .returned v' ∧ Items w' v' (X1 ++ X2) ∧ NewRow w w' v v' := by
  subst hi
  have hlen : (X1 ++ x :: X2).length = X1.length + X2.length + 1 := by simp; omega
  have h : w.ownsRow 0 57 2 v (X1.length + X2.length + 1) (itemCells X1 ++ ([.string (keyB x), .int .i64 (x : Int)] ++ itemCells X2)) := by
    have := hI
    unfold Items at this
    rwa [hlen, itemCells_append, itemCells_cons] at this
  obtain ⟨g, cap, rfl, _, _⟩ := h.form (by omega)
  refine (removeI0 g cap (itemCells X1) [.string (keyB x), .int .i64 (x : Int)] (itemCells X2) X1.length X2.length w h (itemCells_length _) rfl (itemCells_length _) (by omega) (itemCells_one X2)).mono ?_
  rintro e w' ⟨v', he, ho, hr⟩
  refine ⟨v', he, ?_, hr⟩
  unfold Items
  rw [itemCells_append, List.length_append]
  exact ho

theorem insertP (u : Value) (X1 X2 : List Nat) (i b : Nat) (w : World) (hi : X1.length = i) (hI : Kids w u (X1 ++ X2)) (hn : (X1 ++ X2).length < 1000) :
    Calls Yba.prog 27 #[u, .int .i64 (i : Int), .pointer (some ⟨b, 0, none⟩)] w fun e w' => ∃ v', e = .returned v' ∧ Kids w' v' (X1 ++ b :: X2) ∧ NewRow w w' u v' := by
  subst hi
  have h : w.ownsRow 0 45 1 u (X1.length + X2.length) (X1.map ptrV ++ X2.map ptrV) := by
    have := hI
    unfold Kids at this
    rwa [List.length_append, List.map_append] at this
  refine (insertP0 u (X1.map ptrV) (X2.map ptrV) X1.length X2.length b w h (by simp) (by simp) (by simpa using hn) (ptrs_one X2)).mono ?_
  rintro e w' ⟨v', he, ho, hr⟩
  refine ⟨v', he, ?_, hr⟩
  unfold Kids
  have e1 : (X1 ++ b :: X2).length = X1.length + X2.length + 1 := by simp; omega
  rw [List.map_append, List.map_cons, e1]
  exact ho

theorem removeP (u : Value) (X1 X2 : List Nat) (i b : Nat) (w : World) (hi : X1.length = i) (hI : Kids w u (X1 ++ b :: X2)) (hn : (X1 ++ b :: X2).length < 1000) :
    Calls Yba.prog 28 #[u, .int .i64 (i : Int)] w fun e w' => ∃ v', e = .returned v' ∧ Kids w' v' (X1 ++ X2) ∧ NewRow w w' u v' := by
  subst hi
  have hlen : (X1 ++ b :: X2).length = X1.length + X2.length + 1 := by simp; omega
  have h : w.ownsRow 0 45 1 u (X1.length + X2.length + 1) (X1.map ptrV ++ ([ptrV b] ++ X2.map ptrV)) := by
    have := hI
    unfold Kids at this
    rwa [hlen, List.map_append, List.map_cons] at this
  obtain ⟨g, cap, rfl, _, _⟩ := h.form (by omega)
  refine (removeP0 g cap (X1.map ptrV) [ptrV b] (X2.map ptrV) X1.length X2.length w h (by simp) rfl (by simp) (by omega) (ptrs_one X2)).mono ?_
  rintro e w' ⟨v', he, ho, hr⟩
  refine ⟨v', he, ?_, hr⟩
  unfold Kids
  rw [List.map_append, List.length_append]
  exact ho

/-! ### what changes -/
structure Chg (S : Nat → Prop) (w w' : World) : Prop where
  os : w'.os = w.os
  tape : w'.tape = w.tape
  output : w'.output = w.output
  size : w.heap.size ≤ w'.heap.size
  block : ∀ k, k < w.heap.size → ¬ S k → w'.heap[k]? = w.heap[k]?

theorem Chg.refl (S : Nat → Prop) (w : World) : Chg S w w := ⟨rfl, rfl, rfl, Nat.le_refl _, fun _ _ _ => rfl⟩

theorem Chg.trans {S S' : Nat → Prop} {a b c : World} (h : Chg S a b) (k : Chg S' b c) (hs : ∀ j, S' j → S j ∨ a.heap.size ≤ j) : Chg S a c :=
  ⟨k.os.trans h.os, k.tape.trans h.tape, k.output.trans h.output, Nat.le_trans h.size k.size, fun j hj hn =>
    (k.block j (Nat.lt_of_lt_of_le hj h.size) (fun hs' => (hs j hs').elim hn (fun h' => by omega))).trans (h.block j hj hn)⟩

theorem Chg.mono {S S' : Nat → Prop} {a b : World} (h : Chg S a b) (hs : ∀ j, S j → S' j) : Chg S' a b :=
  ⟨h.os, h.tape, h.output, h.size, fun j hj hn => h.block j hj (fun k => hn (hs j k))⟩

theorem Chg.of_grown {a b : World} {row : Option Nat} (h : a.grownBy b row) : Chg (fun k => row = some k) a b :=
  ⟨h.os, h.tape, h.output, h.size, fun j hj hn => h.block j hj (fun e => hn e.symm)⟩

theorem Chg.of_below {a b : World} (h : Below a.heap.size a b) : Chg (fun _ => False) a b :=
  ⟨h.os, h.tape, h.output, h.size, fun j hj _ => h.block j hj⟩

theorem Chg.below {S : Nat → Prop} {a b : World} {B : Nat} (h : Chg S a b) (hs : ∀ j, S j → B ≤ j) (hB : B ≤ a.heap.size) : Below B a b :=
  ⟨h.os, h.tape, h.output, h.size, fun j hj => h.block j (Nat.lt_of_lt_of_le hj hB) (fun k => by have := hs j k; omega)⟩

theorem Chg.set {w : World} (a : Addr) (v : Value) : Chg (fun k => k = a.block) w (w.setCell a v) :=
  ⟨rfl, rfl, rfl, by simp, fun j _ hn => Below.heap_setCell _ _ _ _ hn⟩

theorem Chg.drewN (S : Nat → Prop) (w : World) (n : Nat) : Chg S w (w.drewN n) := ⟨rfl, rfl, rfl, Nat.le_refl _, fun _ _ _ => rfl⟩

theorem own_kept {S : Nat → Prop} {w w' : World} {b e z n : Nat} {v : Value} {xs : List Value} (h : w.ownsRow b e z v n xs) (hc : Chg S w w') (hn : ∀ g, v.ownBlock = some g → ¬ S g) : w'.ownsRow b e z v n xs := by
  refine ⟨h.1, ?_⟩
  rcases h.2 with h0 | ⟨g, cap, cur, rfl, hb, hg, rest⟩
  · exact .inl h0
  · refine .inr ⟨g, cap, cur, rfl, hb, ?_, rest⟩
    rw [hc.block g (Array.getElem?_eq_some_iff.1 hg).1 (hn g rfl)]
    exact hg

/-! ### a leaf -/
structure Nd where
  b : Nat
  v : Value
  xs : List Nat
  gen : Nat

def nodeObj (v u : Value) (G : Nat) : Obj := .cells #[v, u, .int .u64 (G : Int)] 55 (0, 0)

structure LeafAt (w : World) (l : Nd) : Prop where
  node : w.heap[l.b]? = some (nodeObj l.v (.slice none 0 0) l.gen)
  row : Items w l.v l.xs

/-- a row's block is no node's block -/
theorem own_ne {w : World} {e z n : Nat} {v : Value} {xs : List Value} {b : Nat} {c : Array Value} {t : TypeId} {fr : Nat × Nat} (h : w.ownsRow 0 e z v n xs) (hb : w.heap[b]? = some (.cells c t fr)) (hne : t ≠ e) : v.ownBlock ≠ some b := by
  intro hv
  rcases h.2 with ⟨rfl, _⟩ | ⟨g, cap, cur, rfl, _, hg, _⟩
  · cases hv
  · cases hv
    rw [hb] at hg
    cases hg
    exact hne rfl

theorem LeafAt.kept {S : Nat → Prop} {w w' : World} {l : Nd} (h : LeafAt w l) (hc : Chg S w w') (h1 : ¬ S l.b) (h2 : ∀ g, l.v.ownBlock = some g → ¬ S g) : LeafAt w' l :=
  ⟨(hc.block l.b (Array.getElem?_eq_some_iff.1 h.node).1 h1).trans h.node, own_kept h.row hc h2⟩

theorem heap_node {w : World} {b : Nat} {v u : Value} {G : Nat} (h : w.heap[b]? = some (nodeObj v u G)) :
    w.cell? ⟨b, 0, none⟩ = some v ∧ w.cell? ⟨b, 1, none⟩ = some u ∧ w.cell? ⟨b, 2, none⟩ = some (.int .u64 (G : Int)) ∧ w.frozen? ⟨b, 0, none⟩ = false ∧ w.frozen? ⟨b, 1, none⟩ = false ∧ b < w.heap.size := by
  unfold nodeObj at h
  refine ⟨?_, ?_, ?_, ?_, ?_, (Array.getElem?_eq_some_iff.1 h).1⟩
  · rw [cell_of_row _ b 0 _ _ _ h]; rfl
  · rw [cell_of_row _ b 1 _ _ _ h]; rfl
  · rw [cell_of_row _ b 2 _ _ _ h]; rfl
  · simp [World.frozen?, h]
  · simp [World.frozen?, h]

theorem set_node0 {w : World} {b : Nat} {v u v' : Value} {G : Nat} (h : w.heap[b]? = some (nodeObj v u G)) : (w.setCell ⟨b, 0, none⟩ v').heap[b]? = some (nodeObj v' u G) := by
  have := heap_setCell_same w b 0 _ 55 v' h
  rw [this]; rfl

theorem set_node1 {w : World} {b : Nat} {v u u' : Value} {G : Nat} (h : w.heap[b]? = some (nodeObj v u G)) : (w.setCell ⟨b, 1, none⟩ u').heap[b]? = some (nodeObj v u' G) := by
  have := heap_setCell_same w b 1 _ 55 u' h
  rw [this]; rfl

/-- what a leaf's own change may touch -/
def Nd.own (l : Nd) (k : Nat) : Prop := k = l.b ∨ l.v.ownBlock = some k

/-- a leaf turned in place -/
structure LeafUpd (w w' : World) (l l' : Nd) : Prop where
  leaf : LeafAt w' l'
  b : l'.b = l.b
  gen : l'.gen = l.gen
  lies : l'.v.ownBlock = l.v.ownBlock ∨ ∃ g, l'.v.ownBlock = some g ∧ w.heap.size ≤ g
  chg : Chg l.own w w'

theorem NewRow.chg {w w' : World} {v v' : Value} (h : NewRow w w' v v') : Chg (fun k => v.ownBlock = some k) w w' := Chg.of_grown h.grown

/-- the items of a node are laid anew -/
theorem leaf_items {w w2 : World} {l : Nd} {v' : Value} {xs' : List Nat} (h : LeafAt w l) (hi : Items w2 v' xs') (hr : NewRow w w2 l.v v') :
    LeafUpd w (w2.setCell ⟨l.b, 0, none⟩ v') l { l with v := v', xs := xs' } := by
  have hne := own_ne h.row h.node (by decide)
  have hlt := (heap_node h.node).2.2.2.2.2
  have hn2 : w2.heap[l.b]? = some (nodeObj l.v (.slice none 0 0) l.gen) := (hr.chg.block l.b hlt (fun e => hne e)).trans h.node
  have hc := Chg.set (w := w2) ⟨l.b, 0, none⟩ v'
  refine ⟨⟨set_node0 hn2, own_kept hi hc (fun g hg e => ?_)⟩, rfl, rfl, hr.lies, (hr.chg.mono (fun j hj => Or.inr hj)).trans hc (fun j hj => .inl (.inl hj))⟩
  exact own_ne hi hn2 (by decide) (by rw [hg]; exact congrArg some e)
end Go.Proofs.Ybulkira
