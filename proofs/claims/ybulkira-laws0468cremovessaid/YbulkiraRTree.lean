import Derived.Test.YbulkiraRCput
namespace Go.Proofs.Ybulkira
open Go.RowKit
set_option linter.unusedVariables false

theorem Rising.sub {xs ys : List Nat} (h : Rising xs) (hs : ys.Sublist xs) : Rising ys := ⟨h.less.sublist hs, fun y hy => h.small y (hs.subset hy)⟩

theorem flat_kid_sub : ∀ (ss : List Nat) (ks : List (List Nat)), ks.length = ss.length + 1 → ∀ k ∈ ks, k.Sublist (flat ss ks)
  | [], [k], _, k', hk => by
    rw [List.mem_singleton] at hk
    subst hk
    exact List.Sublist.refl _
  | s :: ss, k :: ks, hl, k', hk => by
    rw [List.mem_cons] at hk
    rcases hk with rfl | hk
    · exact List.sublist_append_left _ _
    · have ih := flat_kid_sub ss ks (by simpa using hl) k' hk
      exact (ih.cons _).trans (List.sublist_append_right _ _)
  | [], [], hl, _, _ => by cases hl
  | [], _ :: _ :: _, hl, _, _ => by simp at hl
  | _ :: _, [], hl, _, _ => by cases hl

theorem flat_seps_sub : ∀ (ss : List Nat) (ks : List (List Nat)), ks.length = ss.length + 1 → ss.Sublist (flat ss ks)
  | [], _, _ => List.nil_sublist _
  | s :: ss, k :: ks, hl => by
    have ih := flat_seps_sub ss ks (by simpa using hl)
    exact (ih.cons_cons _).trans (List.sublist_append_right _ _)
  | _ :: _, [], hl => by cases hl

theorem good_set {ss : List Nat} {ks : List (List Nat)} (h : Good ss ks) (i : Nat) (k : List Nat) (h1 : 31 ≤ k.length) (h2 : k.length ≤ 63) : Good ss (ks.set i k) :=
  ⟨by rw [List.length_set]; exact h.len, fun m hm => (List.mem_or_eq_of_mem_set hm).elim (h.low m) (fun e => e ▸ h1), fun m hm => (List.mem_or_eq_of_mem_set hm).elim (h.high m) (fun e => e ▸ h2)⟩

theorem ins_length (x : Nat) (xs : List Nat) : (ins x xs).length = xs.length + 1 := by
  have := lb_le xs x
  simp [ins]
  omega

theorem kx_get {ks : List Nd} {i : Nat} {l : Nd} (h : ks[i]? = some l) : (ks.map Nd.xs)[i]? = some l.xs := by rw [List.getElem?_map, h]; rfl

/-- a key behind all -/
theorem cput_up (w : World) (B G b x : Nat) (xs : List Nat) (h : Tree w B G b xs) (hx : x < 1000) (hr : Rising xs) (hall : ∀ y ∈ xs, y < x) (hn : xs.length < 400) :
    Calls Yba.prog 15 #[.pointer (some ⟨b, 0, none⟩), .agg #[.string (keyB x), .int .i64 (x : Int)], .int .u64 (G : Int)] w fun e w' => ∃ b', e = .returned (.pointer (some ⟨b', 0, none⟩)) ∧ Below B w w' ∧ Tree w' B G b' (xs ++ [x]) := by
  have hnot : x ∉ xs := fun hm => Nat.lt_irrefl _ (hall x hm)
  rcases h with ⟨l, hl⟩ | ⟨r, ht⟩
  · obtain ⟨rfl, rfl, hg, hL, hh, hB, hlen⟩ := hl
    by_cases h63 : l.xs.length = 63
    · obtain ⟨mm, hmm⟩ : ∃ mm, l.xs[31]? = some mm := ⟨_, List.getElem?_eq_getElem (by omega)⟩
      refine cput_b w B G l x mm hL hg hh hB h63 hmm (fun b w' => Tree w' B G b (l.xs ++ [x])) ?_
      intro W r1 hR1 hss hks
      have hm1 : mm < x := hall mm (List.mem_of_getElem? hmm)
      have hlb : lb r1.ss x = 1 := by rw [hss]; simp [lb, hm1]
      have hkl : r1.ks.length = 2 := by have := congrArg List.length hks; simpa using this
      obtain ⟨l2, hl2⟩ : ∃ l2, r1.ks[1]? = some l2 := ⟨_, List.getElem?_eq_getElem (by omega)⟩
      have hx2 : l2.xs = l.xs.drop 32 := by
        have := kx_get hl2
        rw [hks] at this
        exact (Option.some.inj this).symm
      refine (put_root_a W B G r1 x 1 l2 hR1 hx hlb hl2 (by omega) (by rw [hss]; simp) ⟨by rw [hss]; simp, fun y hy => by rw [hss, List.mem_singleton] at hy; subst hy; exact hr.small y (List.mem_of_getElem? hmm)⟩
        (by rw [hss, List.mem_singleton]; omega) (by rw [hx2]; exact hr.sub (List.drop_sublist _ _)) (by rw [hx2]; exact fun hm => hnot (List.mem_of_mem_drop hm)) (by rw [hx2, List.length_drop]; omega)).mono ?_
      rintro e w' ⟨he, hb', r', hf', hR', eb, es, ek⟩
      refine ⟨he, hb', .inr ⟨r', eb, hR', ?_, ?_, by rw [es, hss]; simp⟩⟩
      · rw [es, ek, hss, hks]
        refine good_set ⟨rfl, ?_, ?_⟩ 1 _ ?_ ?_
        · intro k hk; simp at hk; rcases hk with rfl | rfl <;> simp <;> omega
        · intro k hk; simp at hk; rcases hk with rfl | rfl <;> simp <;> omega
        · rw [ins_length, hx2, List.length_drop]; omega
        · rw [ins_length, hx2, List.length_drop]; omega
      · rw [es, ek, hss, hks]
        have h1 : flat [mm] [l.xs.take 31, l.xs.drop 32] = l.xs := by
          have h31 : 31 < l.xs.length := by omega
          have h4 : l.xs.drop 31 = mm :: l.xs.drop 32 := by
            rw [List.drop_eq_getElem_cons h31]
            rw [List.getElem?_eq_getElem h31] at hmm
            rw [Option.some.inj hmm]
          show l.xs.take 31 ++ mm :: l.xs.drop 32 = _
          rw [← h4, List.take_append_drop]
        have h2 := flat_up_a (ss := [mm]) (ks := [l.xs.take 31, l.xs.drop 32]) (l := l2.xs) (x := x) rfl (by rw [hx2]; rfl) (by rw [h1]; exact hall)
        rw [h1] at h2
        exact h2
    · refine (cput_a w B G l x hL hx hr hnot (by omega)).mono ?_
      rintro e w' ⟨he, l', hx', hu⟩
      obtain ⟨hb1, hh1⟩ := hu.below hh hB
      refine ⟨l.b, he, hb1, .inl ⟨l', hu.b, by rw [hx', ins_last hall], hu.gen.trans hg, hu.leaf, hh1, Nat.le_trans hB hu.chg.size, by simp; omega⟩⟩
  · obtain ⟨rfl, hR, hgood, rfl, hpos⟩ := ht
    have hlen := flat_length r.ss (r.ks.map Nd.xs) hgood.len hgood.low
    have hkl : r.ks.length = r.ss.length + 1 := by simpa using hgood.len
    have hsub := flat_seps_sub r.ss (r.ks.map Nd.xs) hgood.len
    have hlb : lb r.ss x = r.ss.length := lb_last (fun y hy => hall y (hsub.subset hy))
    obtain ⟨l, hl⟩ : ∃ l, r.ks[r.ss.length]? = some l := ⟨_, List.getElem?_eq_getElem (by omega)⟩
    have hlk := kx_get hl
    have hlm : l.xs ∈ r.ks.map Nd.xs := List.mem_of_getElem? hlk
    have hls := flat_kid_sub r.ss (r.ks.map Nd.xs) hgood.len l.xs hlm
    have hlo := hgood.low _ hlm
    have hhi := hgood.high _ hlm
    refine (cput_c w B G r x hR (by omega) (fun w' => Tree w' B G r.b (flat r.ss (r.ks.map Nd.xs) ++ [x])) ?_).mono (fun e w' ⟨he, h1, h2⟩ => ⟨r.b, he, h1, h2⟩)
    intro W hRW
    by_cases h63 : l.xs.length = 63
    · obtain ⟨mm, hmm⟩ : ∃ mm, l.xs[31]? = some mm := ⟨_, List.getElem?_eq_getElem (by omega)⟩
      have hm1 : mm < x := hall mm (hls.subset (List.mem_of_getElem? hmm))
      refine (put_root_up W B G r x r.ss.length l hRW hx hlb hl (by omega) (by omega) (hr.sub hsub) (fun hm => hnot (hsub.subset hm)) (hr.sub hls) (fun hm => hnot (hls.subset hm)) h63 mm hmm hm1).mono ?_
      rintro e w' ⟨he, hb', r', hf', hR', eb, es, ek⟩
      rw [List.map_take, List.map_drop] at ek
      refine ⟨he, hb', .inr ⟨r', eb, hR', ⟨?_, ?_, ?_⟩, ?_, by rw [es]; simp⟩⟩
      · rw [es, ek]; simp; omega
      · rw [ek]
        intro k hk
        simp only [List.mem_append, List.mem_cons] at hk
        rcases hk with hk | rfl | rfl | hk
        · exact hgood.low k (List.mem_of_mem_take hk)
        · simp; omega
        · rw [ins_length, List.length_drop]; omega
        · exact hgood.low k (List.mem_of_mem_drop hk)
      · rw [ek]
        intro k hk
        simp only [List.mem_append, List.mem_cons] at hk
        rcases hk with hk | rfl | rfl | hk
        · exact hgood.high k (List.mem_of_mem_take hk)
        · simp; omega
        · rw [ins_length, List.length_drop]; omega
        · exact hgood.high k (List.mem_of_mem_drop hk)
      · rw [es, ek]
        exact flat_up_b hgood.len hlk hmm hall
    · refine (put_root_a W B G r x r.ss.length l hRW hx hlb hl (by omega) (by omega) (hr.sub hsub) (fun hm => hnot (hsub.subset hm)) (hr.sub hls) (fun hm => hnot (hls.subset hm)) (by omega)).mono ?_
      rintro e w' ⟨he, hb', r', hf', hR', eb, es, ek⟩
      refine ⟨he, hb', .inr ⟨r', eb, hR', ?_, ?_, by rw [es]; exact hpos⟩⟩
      · rw [es, ek]
        exact good_set hgood _ _ (by rw [ins_length]; omega) (by rw [ins_length]; omega)
      · rw [es, ek]
        exact flat_up_a hgood.len hlk hall
/-- a key ahead of all -/
theorem cput_down (w : World) (B G b x : Nat) (xs : List Nat) (h : Tree w B G b xs) (hx : x < 1000) (hr : Rising xs) (hall : ∀ y ∈ xs, x < y) (hn : xs.length < 400) :
    Calls Yba.prog 15 #[.pointer (some ⟨b, 0, none⟩), .agg #[.string (keyB x), .int .i64 (x : Int)], .int .u64 (G : Int)] w fun e w' => ∃ b', e = .returned (.pointer (some ⟨b', 0, none⟩)) ∧ Below B w w' ∧ Tree w' B G b' (x :: xs) := by
  have hnot : x ∉ xs := fun hm => Nat.lt_irrefl _ (hall x hm)
  rcases h with ⟨l, hl⟩ | ⟨r, ht⟩
  · obtain ⟨rfl, rfl, hg, hL, hh, hB, hlen⟩ := hl
    by_cases h63 : l.xs.length = 63
    · obtain ⟨mm, hmm⟩ : ∃ mm, l.xs[31]? = some mm := ⟨_, List.getElem?_eq_getElem (by omega)⟩
      refine cput_b w B G l x mm hL hg hh hB h63 hmm (fun b w' => Tree w' B G b (x :: l.xs)) ?_
      intro W r1 hR1 hss hks
      have hm1 : x < mm := hall mm (List.mem_of_getElem? hmm)
      have hlb : lb r1.ss x = 0 := by rw [hss]; exact lb_first (fun y hy => by rw [List.mem_singleton] at hy; omega)
      have hkl : r1.ks.length = 2 := by have := congrArg List.length hks; simpa using this
      obtain ⟨l2, hl2⟩ : ∃ l2, r1.ks[0]? = some l2 := ⟨_, List.getElem?_eq_getElem (by omega)⟩
      have hx2 : l2.xs = l.xs.take 31 := by
        have := kx_get hl2
        rw [hks] at this
        exact (Option.some.inj this).symm
      refine (put_root_a W B G r1 x 0 l2 hR1 hx hlb hl2 (by omega) (by rw [hss]; simp) ⟨by rw [hss]; simp, fun y hy => by rw [hss, List.mem_singleton] at hy; subst hy; exact hr.small y (List.mem_of_getElem? hmm)⟩
        (by rw [hss, List.mem_singleton]; omega) (by rw [hx2]; exact hr.sub (List.take_sublist _ _)) (by rw [hx2]; exact fun hm => hnot (List.mem_of_mem_take hm)) (by rw [hx2, List.length_take]; omega)).mono ?_
      rintro e w' ⟨he, hb', r', hf', hR', eb, es, ek⟩
      refine ⟨he, hb', .inr ⟨r', eb, hR', ?_, ?_, by rw [es, hss]; simp⟩⟩
      · rw [es, ek, hss, hks]
        refine good_set ⟨rfl, ?_, ?_⟩ 0 _ ?_ ?_
        · intro k hk; simp at hk; rcases hk with rfl | rfl <;> simp <;> omega
        · intro k hk; simp at hk; rcases hk with rfl | rfl <;> simp <;> omega
        · rw [ins_length, hx2, List.length_take]; omega
        · rw [ins_length, hx2, List.length_take]; omega
      · rw [es, ek, hss, hks]
        have h1 : flat [mm] [l.xs.take 31, l.xs.drop 32] = l.xs := by
          have h31 : 31 < l.xs.length := by omega
          have h4 : l.xs.drop 31 = mm :: l.xs.drop 32 := by
            rw [List.drop_eq_getElem_cons h31]
            rw [List.getElem?_eq_getElem h31] at hmm
            rw [Option.some.inj hmm]
          show l.xs.take 31 ++ mm :: l.xs.drop 32 = _
          rw [← h4, List.take_append_drop]
        have h2 := flat_down_a (ss := [mm]) (ks := [l.xs.take 31, l.xs.drop 32]) (l := l2.xs) (x := x) rfl (by rw [hx2]; rfl) (by rw [h1]; exact hall)
        rw [h1] at h2
        exact h2
    · refine (cput_a w B G l x hL hx hr hnot (by omega)).mono ?_
      rintro e w' ⟨he, l', hx', hu⟩
      obtain ⟨hb1, hh1⟩ := hu.below hh hB
      refine ⟨l.b, he, hb1, .inl ⟨l', hu.b, by rw [hx', ins_first hall], hu.gen.trans hg, hu.leaf, hh1, Nat.le_trans hB hu.chg.size, by simp; omega⟩⟩
  · obtain ⟨rfl, hR, hgood, rfl, hpos⟩ := ht
    have hlen := flat_length r.ss (r.ks.map Nd.xs) hgood.len hgood.low
    have hkl : r.ks.length = r.ss.length + 1 := by simpa using hgood.len
    have hsub := flat_seps_sub r.ss (r.ks.map Nd.xs) hgood.len
    have hlb : lb r.ss x = 0 := lb_first (fun y hy => hall y (hsub.subset hy))
    obtain ⟨l, hl⟩ : ∃ l, r.ks[0]? = some l := ⟨_, List.getElem?_eq_getElem (by omega)⟩
    have hlk := kx_get hl
    have hlm : l.xs ∈ r.ks.map Nd.xs := List.mem_of_getElem? hlk
    have hls := flat_kid_sub r.ss (r.ks.map Nd.xs) hgood.len l.xs hlm
    have hlo := hgood.low _ hlm
    have hhi := hgood.high _ hlm
    refine (cput_c w B G r x hR (by omega) (fun w' => Tree w' B G r.b (x :: flat r.ss (r.ks.map Nd.xs))) ?_).mono (fun e w' ⟨he, h1, h2⟩ => ⟨r.b, he, h1, h2⟩)
    intro W hRW
    by_cases h63 : l.xs.length = 63
    · obtain ⟨mm, hmm⟩ : ∃ mm, l.xs[31]? = some mm := ⟨_, List.getElem?_eq_getElem (by omega)⟩
      have hm1 : x < mm := hall mm (hls.subset (List.mem_of_getElem? hmm))
      refine (put_root_down W B G r x 0 l hRW hx hlb hl (by omega) (by omega) (hr.sub hsub) (fun hm => hnot (hsub.subset hm)) (hr.sub hls) (fun hm => hnot (hls.subset hm)) h63 mm hmm hm1).mono ?_
      rintro e w' ⟨he, hb', r', hf', hR', eb, es, ek⟩
      rw [List.map_take, List.map_drop] at ek
      refine ⟨he, hb', .inr ⟨r', eb, hR', ⟨?_, ?_, ?_⟩, ?_, by rw [es]; simp⟩⟩
      · rw [es, ek]; simp; omega
      · rw [ek]
        intro k hk
        simp only [List.mem_append, List.mem_cons] at hk
        rcases hk with hk | rfl | rfl | hk
        · exact hgood.low k (List.mem_of_mem_take hk)
        · rw [ins_length, List.length_take]; omega
        · simp; omega
        · exact hgood.low k (List.mem_of_mem_drop hk)
      · rw [ek]
        intro k hk
        simp only [List.mem_append, List.mem_cons] at hk
        rcases hk with hk | rfl | rfl | hk
        · exact hgood.high k (List.mem_of_mem_take hk)
        · rw [ins_length, List.length_take]; omega
        · simp; omega
        · exact hgood.high k (List.mem_of_mem_drop hk)
      · rw [es, ek]
        exact flat_down_b hgood.len hlk hmm hall
    · refine (put_root_a W B G r x 0 l hRW hx hlb hl (by omega) (by omega) (hr.sub hsub) (fun hm => hnot (hsub.subset hm)) (hr.sub hls) (fun hm => hnot (hls.subset hm)) (by omega)).mono ?_
      rintro e w' ⟨he, hb', r', hf', hR', eb, es, ek⟩
      refine ⟨he, hb', .inr ⟨r', eb, hR', ?_, ?_, by rw [es]; exact hpos⟩⟩
      · rw [es, ek]
        exact good_set hgood _ _ (by rw [ins_length]; omega) (by rw [ins_length]; omega)
      · rw [es, ek]
        exact flat_down_a hgood.len hlk hall
end Go.Proofs.Ybulkira
