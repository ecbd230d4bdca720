import Derived.Test.YbulkiraRRemF
namespace Go.Proofs.Ybulkira
open Go.RowKit
set_option linter.unusedVariables false
set_option linter.unusedSimpArgs false
attribute [local go_sem ↓] Go.wp_at_zero Go.wp_at_succ

theorem remove_root (w : World) (B G : Nat) (r : Rt) (p : Nat) (f : Bool) (k : ByteArray) (h : RootAt w B G r) (hg : Good r.ss (r.ks.map Nd.xs)) (hkey : KeyIs k p f) (hr : Rising (flat r.ss (r.ks.map Nd.xs))) (hpos : 0 < r.ss.length) (hn : r.ss.length < 800) :
    Calls Yba.prog 13 #[.pointer (some ⟨r.b, 0, none⟩), .string k, .int .u64 (G : Int)] w fun e w' => (∃ v, e = .returned v) ∧ Removed w w' B G r p f := by
  have hkl : r.ks.length = r.ss.length + 1 := by simpa using hg.len
  by_cases hf : f = true ∧ r.ss[lb r.ss p]? = some p
  · obtain ⟨rfl, hp⟩ := hf
    have hil := (List.getElem?_eq_some_iff.1 hp).1
    obtain ⟨a, ha⟩ : ∃ a, r.ks[lb r.ss p]? = some a := ⟨_, List.getElem?_eq_getElem (by omega)⟩
    obtain ⟨b, hb⟩ : ∃ b, r.ks[lb r.ss p + 1]? = some b := ⟨_, List.getElem?_eq_getElem (by omega)⟩
    by_cases h1 : 31 < a.xs.length
    · rcases List.eq_nil_or_concat a.xs with h0 | ⟨Y, x, hY⟩
      · rw [h0] at h1; cases h1
      · rw [List.concat_eq_append] at hY
        exact remove_fl w B G r _ _ p k a b rfl h hg hkey hr hn rfl hp ha hb x Y hY h1
    · by_cases h2 : 31 < b.xs.length
      · obtain ⟨x, Y, hY⟩ : ∃ x Y, b.xs = x :: Y := by
          cases hbx : b.xs with
          | nil => rw [hbx] at h2; cases h2
          | cons x Y => exact ⟨x, Y, rfl⟩
        exact remove_fr w B G r _ _ p k a b rfl h hg hkey hr hn rfl hp ha hb x Y hY (by omega) h2
      · exact remove_fm w B G r _ _ p k a b rfl h hg hkey hr hn rfl hp ha hb (by omega) (by omega)
  · exact remove_nf w B G r _ p f k h hg hkey hr hpos hn rfl (fun h1 h2 => hf ⟨h1, h2⟩)

/-- a tree, or a root that has lost its last item -/
def TreeN (w : World) (B G b : Nat) (xs : List Nat) : Prop := (∃ l, Leaf1 w B G b xs l) ∨ ∃ r : Rt, r.b = b ∧ RootAt w B G r ∧ Good r.ss (r.ks.map Nd.xs) ∧ flat r.ss (r.ks.map Nd.xs) = xs

theorem remove_tree (w : World) (B G b : Nat) (xs : List Nat) (p : Nat) (f : Bool) (k : ByteArray) (h : Tree w B G b xs) (hkey : KeyIs k p f) (hr : Rising xs) (hn : xs.length < 400) :
    Calls Yba.prog 13 #[.pointer (some ⟨b, 0, none⟩), .string k, .int .u64 (G : Int)] w fun e w' => (∃ v, e = .returned v) ∧ Below B w w' ∧ TreeN w' B G b (del p f xs) := by
  rcases h with ⟨l, hl⟩ | ⟨r, ht⟩
  · obtain ⟨rfl, rfl, hg, hL, hh, hB, hlen⟩ := hl
    refine (remove_leaf l p f k G w hL hkey hr.small hr.less (by omega)).mono ?_
    rintro e w' ⟨he, l', hx, hu⟩
    obtain ⟨hb1, hh1⟩ := hu.below hh hB
    have hdl := del_length p f hr.less
    exact ⟨he, hb1, .inl ⟨l', hu.b, hx, hu.gen.trans hg, hu.leaf, hh1, Nat.le_trans hB hu.chg.size, by omega⟩⟩
  · obtain ⟨rfl, hR, hgood, rfl, hpos⟩ := ht
    have hlen := flat_length r.ss (r.ks.map Nd.xs) hgood.len hgood.low
    refine (remove_root w B G r p f k hR hgood hkey hr hpos (by omega)).mono ?_
    rintro e w' ⟨he, hb, r', hR', eb, hg', hfl⟩
    exact ⟨he, hb, .inr ⟨r', eb, hR', hg', hfl⟩⟩

end Go.Proofs.Ybulkira
