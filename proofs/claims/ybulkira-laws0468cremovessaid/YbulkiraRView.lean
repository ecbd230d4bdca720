import Derived.Test.YbulkiraRRem
import Derived.Test.YbulkiraROwnC
namespace Go.Proofs.Ybulkira
open Go.RowKit
set_option linter.unusedVariables false

/-- what a reader sees of a tree -/
def ViewT (w : World) (b : Nat) (xs : List Nat) : Prop :=
  (∃ l : Nd, l.b = b ∧ LeafAt w l ∧ l.xs = xs ∧ xs.length ≤ 63) ∨ ∃ (B G : Nat) (r : Rt), r.b = b ∧ RootAt w B G r ∧ Good r.ss (r.ks.map Nd.xs) ∧ flat r.ss (r.ks.map Nd.xs) = xs

theorem Tree.view {w : World} {B G b : Nat} {xs : List Nat} (h : Tree w B G b xs) : ViewT w b xs := by
  rcases h with ⟨l, hl⟩ | ⟨r, hr⟩
  · exact .inl ⟨l, hl.hb, hl.leaf, hl.hx, hl.len⟩
  · exact .inr ⟨B, G, r, hr.hb, hr.root, hr.good, hr.hx⟩

theorem view_below {w w' : World} {b : Nat} {xs : List Nat} (h : ViewT w b xs) (hb : Below w.heap.size w w') : ViewT w' b xs := by
  rcases h with ⟨l, h1, h2, h3, h4⟩ | ⟨B, G, r, h1, h2, h3, h4⟩
  · exact .inl ⟨l, h1, leaf_below h2 hb, h3, h4⟩
  · exact .inr ⟨B, G, r, h1, root_below h2 hb, h3, h4⟩

theorem items_below {w w' : World} {v : Value} {xs : List Nat} (h : Items w v xs) (hb : Below w.heap.size w w') : Items w' v xs := own_kept h (Chg.of_below hb) (fun _ _ h => h)

theorem view_check (w : World) (b : Nat) (xs : List Nat) (h : ViewT w b xs) (hn : xs.length < 400) :
    Calls Yba.prog 10 #[.pointer (some ⟨b, 0, none⟩), .bool true] w fun e w' => ∃ z : Nat, e = .returned (.int .i64 (z : Int)) ∧ ∃ m, w' = w.drewN m := by
  rcases h with ⟨l, rfl, h2, rfl, h4⟩ | ⟨B, G, r, rfl, h2, h3, rfl⟩
  · refine (check_leaf w l true h2 h4 (.inl rfl)).mono ?_
    rintro e w' ⟨rfl, rfl⟩
    exact ⟨0, rfl, 0, rfl⟩
  · have hlen := flat_length r.ss (r.ks.map Nd.xs) h3.len h3.low
    refine (check_root w B G r h2 h3 (by omega)).mono ?_
    rintro e w' ⟨rfl, m, rfl⟩
    exact ⟨1, rfl, m, rfl⟩

theorem view_walk (w : World) (b : Nat) (xs : List Nat) (h : ViewT w b xs) (hn : xs.length < 400) :
    Calls Yba.prog 11 #[.pointer (some ⟨b, 0, none⟩), .slice none 0 0] w fun e w' => ∃ v', e = .returned v' ∧ Items w' v' xs ∧ Below w.heap.size w w' := by
  rcases h with ⟨l, rfl, h2, rfl, h4⟩ | ⟨B, G, r, rfl, h2, h3, rfl⟩
  · refine (walk_leaf w w.heap.size l (.slice none 0 0) [] h2 (World.ownsRow_nil _ _ _ _) (Nat.le_refl _) h2.lt (fun g hg => own_lt h2.row hg) h4 (by decide)).mono ?_
    rintro e w' ⟨v', rfl, ho, hb⟩
    exact ⟨v', rfl, ho.items, hb⟩
  · refine (walk_root w B G w.heap.size r (.slice none 0 0) [] h2 h3 (World.ownsRow_nil _ _ _ _) (Nat.le_refl _) (fun k hk => h2.own_lt hk) hn (by decide)).mono ?_
    rintro e w' ⟨v', rfl, ho, hb⟩
    exact ⟨v', rfl, ho.items, hb⟩

theorem own_tree (w : World) (B b : Nat) (xs : List Nat) (h : Tree w B 1 b xs) (hn : xs.length < 400) :
    Calls Yba.prog 12 #[.pointer (some ⟨b, 0, none⟩), .int .u64 2] w fun e w' => ∃ b', e = .returned (.pointer (some ⟨b', 0, none⟩)) ∧ Tree w' w.heap.size 2 b' xs ∧ Below w.heap.size w w' := by
  rcases h with ⟨l, hl⟩ | ⟨r, hr⟩
  · obtain ⟨rfl, rfl, hg, hL, hh, hB, hlen⟩ := hl
    by_cases h0 : 0 < l.xs.length
    · refine (own_new l 2 w hL h0 (by omega) (by omega)).mono ?_
      rintro e w' ⟨l', rfl, hL', hx, hg', hh', hb⟩
      exact ⟨l'.b, rfl, .inl ⟨l', rfl, hx, hg', hL', hh', hb.size, hlen⟩, hb⟩
    · have hx0 : l.xs = [] := List.eq_nil_of_length_eq_zero (by omega)
      obtain ⟨ao, c, hv⟩ := own_form hL.row
      have hnode := hL.node
      rw [hv, hx0] at hnode
      refine (own_empty l.b l.gen 2 ao c w hnode (by omega)).mono ?_
      rintro e w' ⟨l', rfl, hL', hx, hg', hh', hb⟩
      exact ⟨l'.b, rfl, .inl ⟨l', rfl, by rw [hx, hx0], hg', hL', hh', hb.size, hlen⟩, hb⟩
  · obtain ⟨rfl, hR, hgood, rfl, hpos⟩ := hr
    have hlen := flat_length r.ss (r.ks.map Nd.xs) hgood.len hgood.low
    have hkl : r.ks.length = r.ss.length + 1 := by simpa using hgood.len
    refine (own_root w B 1 2 r hR (by decide) hpos (by omega) (by omega) (by omega)).mono ?_
    rintro e w' ⟨r', rfl, hR', es, ek, hb⟩
    exact ⟨r'.b, rfl, .inr ⟨r', rfl, hR', by rw [es, ek]; exact hgood, by rw [es, ek], by rw [es]; exact hpos⟩, hb⟩

/-- which node leads the tree once the root may have lost its last item -/
def Lead (w : World) (b5 b6 : Nat) (bb : Bool) : Prop :=
  (bb = true ∧ ∃ (a : Option Addr) (c gu M cu : Nat), w.cell? ⟨b5, 0, none⟩ = some (.slice a 0 c) ∧ w.cell? ⟨b5, 1, none⟩ = some (.slice (some ⟨gu, 0, none⟩) M cu) ∧ 0 < M ∧ w.cell? ⟨gu, 0, none⟩ = some (.pointer (some ⟨b6, 0, none⟩))) ∨
  (bb = false ∧ b6 = b5 ∧ ((∃ (a : Option Addr) (c : Nat), w.cell? ⟨b5, 0, none⟩ = some (.slice a 0 c) ∧ w.cell? ⟨b5, 1, none⟩ = some (.slice none 0 0)) ∨ ∃ (a : Option Addr) (N c : Nat), 0 < N ∧ w.cell? ⟨b5, 0, none⟩ = some (.slice a N c)))

theorem lead_of {w : World} {B G b : Nat} {ys : List Nat} (h : TreeN w B G b ys) : ∃ b6 bb, ViewT w b6 ys ∧ Lead w b b6 bb := by
  rcases h with ⟨l, hl⟩ | ⟨r, rfl, hR, hg, hfl⟩
  · obtain ⟨rfl, hx, hgen, hL, hh, hB, hlen⟩ := hl
    obtain ⟨c0, c1, _⟩ := heap_node hL.node
    obtain ⟨a, c, hv⟩ := own_form hL.row
    rw [hv] at c0
    refine ⟨l.b, false, .inl ⟨l, rfl, hL, hx, hlen⟩, .inr ⟨rfl, rfl, ?_⟩⟩
    by_cases h0 : l.xs.length = 0
    · rw [h0] at c0
      exact .inl ⟨a, c, c0, c1⟩
    · exact .inr ⟨a, l.xs.length, c, by omega, c0⟩
  · obtain ⟨c0, c1, _⟩ := heap_node hR.node
    obtain ⟨a, c, hv⟩ := own_form hR.row
    rw [hv] at c0
    by_cases h0 : r.ss.length = 0
    · have hss : r.ss = [] := List.eq_nil_of_length_eq_zero h0
      have hkl : r.ks.length = 1 := by
        have h1 := hg.len
        rw [hss] at h1
        simpa using h1
      obtain ⟨l, hl⟩ : ∃ l, r.ks[0]? = some l := ⟨_, List.getElem?_eq_getElem (by omega)⟩
      obtain ⟨gu, cu, hu⟩ := hR.kidForm (by omega)
      obtain ⟨d1, d2⟩ := hR.kidCell hu hl
      have hks : r.ks = [l] := by
        cases hk : r.ks with
        | nil => rw [hk] at hkl; cases hkl
        | cons x t =>
          rw [hk] at hkl hl
          have ht : t = [] := List.eq_nil_of_length_eq_zero (by simpa using hkl)
          subst ht
          simp at hl
          rw [hl]
      have hx : l.xs = ys := by
        rw [← hfl, hss, hks]
        rfl
      have hhi := hg.high _ (List.mem_of_getElem? (kx_get hl))
      rw [h0] at c0
      rw [hkl] at d1
      exact ⟨l.b, true, .inl ⟨l, rfl, hR.leaf l (List.mem_of_getElem? hl), hx, by rw [← hx]; exact hhi⟩, .inl ⟨rfl, a, c, gu, 1, cu, c0, d1, by decide, d2⟩⟩
    · exact ⟨r.b, false, .inr ⟨B, G, r, rfl, hR, hg, hfl⟩, .inr ⟨rfl, rfl, .inr ⟨a, r.ss.length, c, by omega, c0⟩⟩⟩

theorem build_any (n : Nat) (d : Bool) (w : World) (hn : n < 400) :
    Calls Yba.prog 9 #[.int .i64 (n : Int), .bool d, .int .u64 1] w fun e w' => ∃ b, e = .returned (.pointer (some ⟨b, 0, none⟩)) ∧ Below w.heap.size w w' ∧ Tree w' w.heap.size 1 b (List.range n) := by
  cases d
  · exact build_asc n 1 w hn
  · exact build_desc n 1 w hn

theorem del_range_succ (p : Nat) (f : Bool) (j : Nat) : del p f (List.range (j + 1)) = del p f (List.range j) ++ (if f = true ∧ j = p then [] else [j]) := by
  rw [List.range_succ, del_append]
  congr 1
  cases f
  · simp [del]
  · by_cases h : j = p
    · simp [del, h]
    · simp [del, h]
end Go.Proofs.Ybulkira
