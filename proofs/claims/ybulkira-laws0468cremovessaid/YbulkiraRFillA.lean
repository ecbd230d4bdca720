import Derived.Test.YbulkiraRFillM
namespace Go.Proofs.Ybulkira
open Go.RowKit
set_option linter.unusedVariables false

theorem flat_head {S : List Nat} {a b : List Nat} {K : List (List Nat)} : flat S ((a ++ b) :: K) = a ++ flat S (b :: K) := by
  cases S <;> simp [flat]

theorem two_split {α : Type} {L : List α} {k : Nat} {a b : α} (h1 : L[k]? = some a) (h2 : L[k + 1]? = some b) :
    L = L.take k ++ a :: b :: L.drop (k + 2) ∧ (L.take k).length = k ∧ k + 1 < L.length := by
  obtain ⟨e1, e2⟩ := get_split h1
  have hl : k + 1 < L.length := (List.getElem?_eq_some_iff.1 h2).1
  have e3 : L.drop (k + 1) = b :: L.drop (k + 2) := by
    rw [List.drop_eq_getElem_cons hl]
    rw [List.getElem?_eq_getElem hl] at h2
    rw [Option.some.inj h2]
  refine ⟨?_, e2, hl⟩
  rw [← e3]
  exact e1

theorem two_set {α : Type} {L : List α} {k : Nat} {a b a' b' : α} (h1 : L[k]? = some a) (h2 : L[k + 1]? = some b) : (L.set k a').set (k + 1) b' = L.take k ++ a' :: b' :: L.drop (k + 2) := by
  obtain ⟨e, e2, _⟩ := two_split h1 h2
  obtain ⟨A, hA⟩ : ∃ A, L.take k = A := ⟨_, rfl⟩
  obtain ⟨C, hC⟩ : ∃ C, L.drop (k + 2) = C := ⟨_, rfl⟩
  rw [hA, hC] at e ⊢
  rw [hA] at e2
  rw [e, List.set_append_right _ _ (by omega), List.set_append_right _ _ (by omega), e2, Nat.sub_self, show k + 1 - k = 1 by omega]
  rfl

theorem two_set' {α : Type} {L : List α} {k : Nat} {a b a' b' : α} (h1 : L[k]? = some a) (h2 : L[k + 1]? = some b) : (L.set (k + 1) b').set k a' = L.take k ++ a' :: b' :: L.drop (k + 2) := by
  rw [List.set_comm _ _ (by omega)]
  exact two_set h1 h2

theorem flat_two {ss : List Nat} {ks : List (List Nat)} {k s : Nat} {a b : List Nat} (hl : ks.length = ss.length + 1) (hs : ss[k]? = some s) (h1 : ks[k]? = some a) (h2 : ks[k + 1]? = some b) :
    flat ss ks = pre (ss.take k) (ks.take k) ++ (a ++ s :: flat (ss.drop (k + 1)) (b :: ks.drop (k + 2))) := by
  obtain ⟨e1, e2, e3⟩ := two_split h1 h2
  obtain ⟨f1, f2⟩ := get_split hs
  conv => lhs; rw [e1, f1]
  rw [flat_pre _ _ _ _ (by rw [f2, e2])]
  rfl

theorem flat_borrowL {ss : List Nat} {ks : List (List Nat)} {k s x : Nat} {Y b : List Nat} (hl : ks.length = ss.length + 1) (hs : ss[k]? = some s) (h1 : ks[k]? = some (Y ++ [x])) (h2 : ks[k + 1]? = some b) :
    flat (ss.set k x) (ks.take k ++ Y :: (s :: b) :: ks.drop (k + 2)) = flat ss ks := by
  obtain ⟨e1, e2, e3⟩ := two_split h1 h2
  obtain ⟨f1, f2⟩ := get_split hs
  rw [flat_two hl hs h1 h2, set_split x (by have := (List.getElem?_eq_some_iff.1 hs).1; exact this), flat_pre _ _ _ _ (by rw [f2, e2])]
  have h3 : flat (ss.drop (k + 1)) ((s :: b) :: ks.drop (k + 2)) = s :: flat (ss.drop (k + 1)) (b :: ks.drop (k + 2)) := flat_head (a := [s]) (b := b)
  simp [flat, h3]

theorem flat_borrowR {ss : List Nat} {ks : List (List Nat)} {k s x : Nat} {Y a : List Nat} (hl : ks.length = ss.length + 1) (hs : ss[k]? = some s) (h1 : ks[k]? = some a) (h2 : ks[k + 1]? = some (x :: Y)) :
    flat (ss.set k x) (ks.take k ++ (a ++ [s]) :: Y :: ks.drop (k + 2)) = flat ss ks := by
  obtain ⟨e1, e2, e3⟩ := two_split h1 h2
  obtain ⟨f1, f2⟩ := get_split hs
  rw [flat_two hl hs h1 h2, set_split x (by have := (List.getElem?_eq_some_iff.1 hs).1; exact this), flat_pre _ _ _ _ (by rw [f2, e2])]
  have h3 : flat (ss.drop (k + 1)) ((x :: Y) :: ks.drop (k + 2)) = x :: flat (ss.drop (k + 1)) (Y :: ks.drop (k + 2)) := flat_head (a := [x]) (b := Y)
  simp [flat, h3]

theorem flat_merge {ss : List Nat} {ks : List (List Nat)} {k s : Nat} {a b : List Nat} (hl : ks.length = ss.length + 1) (hs : ss[k]? = some s) (h1 : ks[k]? = some a) (h2 : ks[k + 1]? = some b) :
    flat (ss.take k ++ ss.drop (k + 1)) (ks.take k ++ (a ++ s :: b) :: ks.drop (k + 2)) = flat ss ks := by
  obtain ⟨e1, e2, e3⟩ := two_split h1 h2
  obtain ⟨f1, f2⟩ := get_split hs
  rw [flat_two hl hs h1 h2, flat_pre _ _ _ _ (by rw [f2, e2]), flat_head]
  have h3 : flat (ss.drop (k + 1)) ((s :: b) :: ks.drop (k + 2)) = s :: flat (ss.drop (k + 1)) (b :: ks.drop (k + 2)) := flat_head (a := [s]) (b := b)
  rw [h3]

theorem good_two {ss ss' : List Nat} {ks : List (List Nat)} {k : Nat} {a b a' b' : List Nat} (hg : Good ss ks) (h1 : ks[k]? = some a) (h2 : ks[k + 1]? = some b) (hs : ss'.length = ss.length)
    (ha1 : 31 ≤ a'.length) (ha2 : a'.length ≤ 63) (hb1 : 31 ≤ b'.length) (hb2 : b'.length ≤ 63) : Good ss' (ks.take k ++ a' :: b' :: ks.drop (k + 2)) := by
  obtain ⟨e1, e2, e3⟩ := two_split h1 h2
  refine ⟨?_, ?_, ?_⟩
  · have := hg.len
    simp
    omega
  · intro c hc
    simp only [List.mem_append, List.mem_cons] at hc
    rcases hc with hc | rfl | rfl | hc
    · exact hg.low c (List.mem_of_mem_take hc)
    · exact ha1
    · exact hb1
    · exact hg.low c (List.mem_of_mem_drop hc)
  · intro c hc
    simp only [List.mem_append, List.mem_cons] at hc
    rcases hc with hc | rfl | rfl | hc
    · exact hg.high c (List.mem_of_mem_take hc)
    · exact ha2
    · exact hb2
    · exact hg.high c (List.mem_of_mem_drop hc)

theorem good_merge {ss : List Nat} {ks : List (List Nat)} {k s : Nat} {a b c : List Nat} (hg : Good ss ks) (hs : ss[k]? = some s) (h1 : ks[k]? = some a) (h2 : ks[k + 1]? = some b) (hc1 : 31 ≤ c.length) (hc2 : c.length ≤ 63) :
    Good (ss.take k ++ ss.drop (k + 1)) (ks.take k ++ c :: ks.drop (k + 2)) := by
  obtain ⟨e1, e2, e3⟩ := two_split h1 h2
  have hsl := (List.getElem?_eq_some_iff.1 hs).1
  refine ⟨?_, ?_, ?_⟩
  · have := hg.len
    simp
    omega
  · intro d hd
    simp only [List.mem_append, List.mem_cons] at hd
    rcases hd with hd | rfl | hd
    · exact hg.low d (List.mem_of_mem_take hd)
    · exact hc1
    · exact hg.low d (List.mem_of_mem_drop hd)
  · intro d hd
    simp only [List.mem_append, List.mem_cons] at hd
    rcases hd with hd | rfl | hd
    · exact hg.high d (List.mem_of_mem_take hd)
    · exact hc2
    · exact hg.high d (List.mem_of_mem_drop hd)

/-- a leaf of some other root's list of rows -/
theorem kid_of {r : Rt} {K1 K2 : List (List Nat)} {a : List Nat} {j : Nat} (h : r.ks.map Nd.xs = K1 ++ a :: K2) (hj : K1.length = j) : ∃ l, r.ks[j]? = some l ∧ l.xs = a := by
  have h1 : (r.ks.map Nd.xs)[j]? = some a := by
    rw [h, List.getElem?_append_right (by omega), hj, Nat.sub_self]
    rfl
  rw [List.getElem?_map, Option.map_eq_some_iff] at h1
  exact h1

/-- what fill leaves -/
structure Filled (w w' : World) (B G : Nat) (r : Rt) (l : Nd) (j : Nat) (r' : Rt) (l' : Nd) : Prop where
  below : Below B w w'
  root : RootAt w' B G r'
  hb : r'.b = r.b
  good : Good r'.ss (r'.ks.map Nd.xs)
  same : flat r'.ss (r'.ks.map Nd.xs) = flat r.ss (r.ks.map Nd.xs)
  kid : r'.ks[j]? = some l'
  rich : 31 < l'.xs.length
  sub : ∀ y ∈ l.xs, y ∈ l'.xs

theorem fill_any (w : World) (B G : Nat) (r : Rt) (i : Nat) (l : Nd) (h : RootAt w B G r) (hg : Good r.ss (r.ks.map Nd.xs)) (hi : r.ks[i]? = some l) (hpos : 0 < r.ss.length) (hsm : r.ss.length < 800) :
    Calls Yba.prog 18 #[.pointer (some ⟨r.b, 0, none⟩), .int .i64 (i : Int), .int .u64 (G : Int)] w fun e w' => ∃ j r' l', e = .returned (.int .i64 ((j : Nat) : Int)) ∧ Filled w w' B G r l j r' l' := by
  have hkl : r.ks.length = r.ss.length + 1 := by simpa using hg.len
  have hil : i < r.ks.length := (List.getElem?_eq_some_iff.1 hi).1
  have hlk := kx_get hi
  have hlo := hg.low _ (List.mem_of_getElem? hlk)
  have hhi := hg.high _ (List.mem_of_getElem? hlk)
  by_cases hrich : 31 < l.xs.length
  · refine (fill_same w B G r i l h hi (by omega) hrich).mono ?_
    rintro e w' ⟨rfl, rfl⟩
    exact ⟨i, r, l, rfl, Below.refl _ _, h, rfl, hg, rfl, hi, hrich, fun y hy => hy⟩
  · have hl31 : l.xs.length ≤ 31 := by omega
    by_cases hL : ∃ k m, i = k + 1 ∧ r.ks[k]? = some m ∧ 31 < m.xs.length
    · obtain ⟨k, m, rfl, hk, hm⟩ := hL
      have hmk := kx_get hk
      have hmh := hg.high _ (List.mem_of_getElem? hmk)
      obtain ⟨s, hs⟩ : ∃ s, r.ss[k]? = some s := ⟨_, List.getElem?_eq_getElem (by omega)⟩
      rcases List.eq_nil_or_concat m.xs with h0 | ⟨Y, x, hY⟩
      · rw [h0] at hm; cases hm
      · rw [List.concat_eq_append] at hY
        refine (fill_left w B G r (k + 1) k l m s x Y rfl h hi hk hs (by omega) (by omega) hl31 hm (by omega) hY).mono ?_
        rintro e w' ⟨rfl, hb, r', hR, eb, es, ek⟩
        rw [two_set' hmk hlk] at ek
        have hYl : m.xs.length = Y.length + 1 := by rw [hY]; simp
        have htl : ((r.ks.map Nd.xs).take k).length = k := (two_split hmk hlk).2.1
        obtain ⟨l', hl', hx'⟩ := kid_of (r := r') (K1 := (r.ks.map Nd.xs).take k ++ [Y]) (a := s :: l.xs) (K2 := (r.ks.map Nd.xs).drop (k + 2)) (j := k + 1) (by rw [ek]; simp) (by rw [List.length_append, htl]; rfl)
        refine ⟨k + 1, r', l', rfl, hb, hR, eb, ?_, ?_, hl', ?_, ?_⟩
        · rw [es, ek]
          exact good_two hg hmk hlk (by simp) (by omega) (by omega) (by simp; omega) (by simp; omega)
        · rw [es, ek]
          exact flat_borrowL hg.len hs (by rw [hmk, hY]) hlk
        · rw [hx']; simp; omega
        · intro y hy
          rw [hx']
          exact List.mem_cons_of_mem _ hy
    · have hP : LeftPoor r i := by
        by_cases h0 : i = 0
        · exact .inl h0
        · obtain ⟨q, hq⟩ : ∃ q, r.ks[i - 1]? = some q := ⟨_, List.getElem?_eq_getElem (by omega)⟩
          refine .inr ⟨i - 1, q, by omega, hq, ?_⟩
          exact Nat.le_of_not_lt (fun hh => hL ⟨i - 1, q, by omega, hq, hh⟩)
      by_cases hiN : i < r.ss.length
      · obtain ⟨m, hk⟩ : ∃ m, r.ks[i + 1]? = some m := ⟨_, List.getElem?_eq_getElem (by omega)⟩
        have hmk := kx_get hk
        have hmh := hg.high _ (List.mem_of_getElem? hmk)
        have hml := hg.low _ (List.mem_of_getElem? hmk)
        obtain ⟨s, hs⟩ : ∃ s, r.ss[i]? = some s := ⟨_, List.getElem?_eq_getElem (by omega)⟩
        have htl : ((r.ks.map Nd.xs).take i).length = i := (two_split hlk hmk).2.1
        by_cases hm : 31 < m.xs.length
        · obtain ⟨x, Y, hY⟩ : ∃ x Y, m.xs = x :: Y := by
            cases hmx : m.xs with
            | nil => rw [hmx] at hm; cases hm
            | cons x Y => exact ⟨x, Y, rfl⟩
          refine (fill_right w B G r i (i + 1) l m s x Y rfl h hi hk hs (by omega) (by omega) hl31 hm (by omega) hY hP).mono ?_
          rintro e w' ⟨rfl, hb, r', hR, eb, es, ek⟩
          rw [two_set hlk hmk] at ek
          have hYl : m.xs.length = Y.length + 1 := by rw [hY]; simp
          obtain ⟨l', hl', hx'⟩ := kid_of (r := r') (K1 := (r.ks.map Nd.xs).take i) (a := l.xs ++ [s]) (K2 := Y :: (r.ks.map Nd.xs).drop (i + 2)) (j := i) ek htl
          refine ⟨i, r', l', rfl, hb, hR, eb, ?_, ?_, hl', ?_, ?_⟩
          · rw [es, ek]
            exact good_two hg hlk hmk (by simp) (by simp; omega) (by simp; omega) (by omega) (by omega)
          · rw [es, ek]
            exact flat_borrowR hg.len hs hlk (by rw [hmk, hY])
          · rw [hx']; simp; omega
          · intro y hy
            rw [hx']
            exact List.mem_append_left _ hy
        · refine (fill_mergeB w B G r i (i + 1) l m s rfl h hi hk hs (by omega) (by omega) hl31 (by omega) hP).mono ?_
          rintro e w' ⟨rfl, hb, r', l', hR, eb, es, ek, hgen, hx'⟩
          have ek' : r'.ks.map Nd.xs = (r.ks.map Nd.xs).take i ++ l'.xs :: (r.ks.map Nd.xs).drop (i + 2) := by
            rw [ek, List.map_append, List.map_cons, List.map_take, List.map_drop]
          have hl' : r'.ks[i]? = some l' := by
            rw [ek, List.getElem?_append_right (by simp; omega), List.length_take, Nat.min_eq_left (by omega), Nat.sub_self]
            rfl
          refine ⟨i, r', l', rfl, hb, hR, eb, ?_, ?_, hl', ?_, ?_⟩
          · rw [es, ek']
            exact good_merge hg hs hlk hmk (by rw [hx']; simp; omega) (by rw [hx']; simp; omega)
          · rw [es, ek', hx']
            exact flat_merge hg.len hs hlk hmk
          · rw [hx']; simp; omega
          · intro y hy
            rw [hx']
            exact List.mem_append_left _ hy
      · have hiN' : r.ss.length = i := by omega
        obtain ⟨k, rfl⟩ : ∃ k, i = k + 1 := ⟨i - 1, by omega⟩
        obtain ⟨q, hq⟩ : ∃ q, r.ks[k]? = some q := ⟨_, List.getElem?_eq_getElem (by omega)⟩
        have hq31 : q.xs.length ≤ 31 := by
          exact Nat.le_of_not_lt (fun hh => hL ⟨k, q, rfl, hq, hh⟩)
        have hqk := kx_get hq
        have hql := hg.low _ (List.mem_of_getElem? hqk)
        obtain ⟨s, hs⟩ : ∃ s, r.ss[k]? = some s := ⟨_, List.getElem?_eq_getElem (by omega)⟩
        refine (fill_mergeA w B G r (k + 1) k l q s rfl h hi hq hs (by omega) (by omega) hl31 hq31 hiN').mono ?_
        rintro e w' ⟨rfl, hb, r', l', hR, eb, es, ek, hgen, hx'⟩
        have ek' : r'.ks.map Nd.xs = (r.ks.map Nd.xs).take k ++ l'.xs :: (r.ks.map Nd.xs).drop (k + 2) := by
          rw [ek, List.map_append, List.map_cons, List.map_take, List.map_drop]
        have hl' : r'.ks[k]? = some l' := by
          rw [ek, List.getElem?_append_right (by simp; omega), List.length_take, Nat.min_eq_left (by omega), Nat.sub_self]
          rfl
        refine ⟨k, r', l', rfl, hb, hR, eb, ?_, ?_, hl', ?_, ?_⟩
        · rw [es, ek']
          exact good_merge hg hs hqk hlk (by rw [hx']; simp; omega) (by rw [hx']; simp; omega)
        · rw [es, ek', hx']
          exact flat_merge hg.len hs hqk hlk
        · rw [hx']; simp; omega
        · intro y hy
          rw [hx']
          exact List.mem_append_right _ (List.mem_cons_of_mem _ hy)
end Go.Proofs.Ybulkira
