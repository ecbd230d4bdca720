import Derived.Test.YbulkiraRFillA
namespace Go.Proofs.Ybulkira
open Go.RowKit
set_option linter.unusedVariables false

theorem flat_at {ss : List Nat} {ks : List (List Nat)} {j : Nat} {a : List Nat} (hl : ks.length = ss.length + 1) (h : ks[j]? = some a) :
    ∃ P R, flat ss ks = P ++ (a ++ R) ∧ ∀ a', flat ss (ks.set j a') = P ++ (a' ++ R) := by
  obtain ⟨e1, e2⟩ := get_split h
  have hjl := (List.getElem?_eq_some_iff.1 h).1
  have hs : (ss.take j).length = j := by simp; omega
  have key : ∀ a', flat ss (ks.take j ++ a' :: ks.drop (j + 1)) = pre (ss.take j) (ks.take j) ++ (a' ++ flat (ss.drop j) ([] :: ks.drop (j + 1))) := by
    intro a'
    have h1 := flat_pre (ss.take j) (ks.take j) (ss.drop j) (a' :: ks.drop (j + 1)) (by rw [hs, e2])
    rw [List.take_append_drop] at h1
    rw [h1]
    have h2 := flat_head (S := ss.drop j) (a := a') (b := []) (K := ks.drop (j + 1))
    rw [List.append_nil] at h2
    rw [h2]
  refine ⟨pre (ss.take j) (ks.take j), flat (ss.drop j) ([] :: ks.drop (j + 1)), ?_, fun a' => ?_⟩
  · have h3 := key a
    rw [← e1] at h3
    exact h3
  · rw [set_split a' hjl]
    exact key a'

theorem del_mid {A R : List Nat} {p : Nat} (h : (A ++ p :: R).Pairwise (· < ·)) : del p true (A ++ p :: R) = A ++ R := by
  rw [List.pairwise_append, List.pairwise_cons] at h
  obtain ⟨_, ⟨h2, _⟩, h4⟩ := h
  rw [del_append]
  have e2 : del p true A = A := del_none (fun _ hm => by have := h4 p hm p (by simp); omega)
  have e3 : del p true (p :: R) = R := by
    have : del p true R = R := del_none (fun _ hm => by have := h2 p hm; omega)
    simp only [del, if_true] at this ⊢
    rw [List.filter_cons]
    simp [this]
  rw [e2, e3]

theorem del_flat {ss : List Nat} {ks : List (List Nat)} {j p : Nat} {f : Bool} {a : List Nat} (hl : ks.length = ss.length + 1) (h : ks[j]? = some a) (hr : (flat ss ks).Pairwise (· < ·)) (hin : f = true → p ∈ flat ss ks → p ∈ a) :
    flat ss (ks.set j (del p f a)) = del p f (flat ss ks) := by
  obtain ⟨P, R, e1, e2⟩ := flat_at hl h
  rw [e2, e1, del_append, del_append]
  rw [e1] at hr hin
  rw [List.pairwise_append, List.pairwise_append] at hr
  obtain ⟨_, ⟨_, _, h3⟩, h4⟩ := hr
  have eP : del p f P = P := del_none (fun hf hm => by
    have h5 := hin hf (List.mem_append_left _ hm)
    have := h4 p hm p (List.mem_append_left _ h5)
    omega)
  have eR : del p f R = R := del_none (fun hf hm => by
    have h5 := hin hf (List.mem_append_right _ (List.mem_append_right _ hm))
    have := h3 p h5 p hm
    omega)
  rw [eP, eR]

theorem del_length {xs : List Nat} (p : Nat) (f : Bool) (h : xs.Pairwise (· < ·)) : xs.length ≤ (del p f xs).length + 1 ∧ (del p f xs).length ≤ xs.length := by
  cases f
  · simp [del]
  · refine ⟨?_, by simp only [del, if_true]; exact List.length_filter_le _ _⟩
    by_cases hp : p ∈ xs
    · obtain ⟨A, R, rfl⟩ := List.append_of_mem hp
      rw [del_mid h]
      simp
      omega
    · rw [del_none (fun _ => hp)]
      omega

theorem lb_cons (s : Nat) (ss : List Nat) (p : Nat) : lb (s :: ss) p = lb ss p + (if s < p then 1 else 0) := by
  simp [lb, List.countP_cons]

/-- the child that holds p, if any does -/
theorem kid_holds (p : Nat) : ∀ (ss : List Nat) (ks : List (List Nat)), ks.length = ss.length + 1 → (flat ss ks).Pairwise (· < ·) → p ∉ ss → p ∈ flat ss ks → ∀ a, ks[lb ss p]? = some a → p ∈ a
  | [], [k], _, _, _, hp, a, ha => by
    simp [lb] at ha
    subst ha
    simpa [flat] using hp
  | s :: ss, k :: ks, hl, hr, hn, hp, a, ha => by
    have hl' : ks.length = ss.length + 1 := by simpa using hl
    simp only [flat] at hr hp
    have hr' := hr
    rw [List.pairwise_append, List.pairwise_cons] at hr
    obtain ⟨_, ⟨h2, h3⟩, h4⟩ := hr
    have hps : p ≠ s := fun e => hn (by simp [e])
    rw [lb_cons] at ha
    by_cases hlt : s < p
    · rw [if_pos hlt] at ha
      have hpk : p ∉ k := fun hm => by
        have := h4 p hm s (by simp)
        omega
      have hpt : p ∈ flat ss ks := by
        rw [List.mem_append, List.mem_cons] at hp
        rcases hp with hp | hp | hp
        · exact absurd hp hpk
        · exact absurd hp hps
        · exact hp
      exact kid_holds p ss ks hl' h3 (fun hm => hn (List.mem_cons_of_mem _ hm)) hpt a (by simpa using ha)
    · rw [if_neg hlt] at ha
      have h0 : lb ss p = 0 := lb_first (fun y hy => by
        have := h2 y ((flat_seps_sub ss ks hl').subset hy)
        omega)
      rw [h0] at ha
      simp at ha
      subst ha
      rw [List.mem_append, List.mem_cons] at hp
      rcases hp with hp | hp | hp
      · exact hp
      · exact absurd hp hps
      · have := h2 p hp
        omega
  | [], [], hl, _, _, _, _, _ => by cases hl
  | [], _ :: _ :: _, hl, _, _, _, _, _ => by simp at hl
  | _ :: _, [], hl, _, _, _, _, _ => by cases hl

theorem del_last {Y : List Nat} {x : Nat} (h : (Y ++ [x]).Pairwise (· < ·)) : del x true (Y ++ [x]) = Y := by
  have := del_mid (A := Y) (R := []) (p := x) h
  rw [List.append_nil] at this
  exact this

theorem del_head {Y : List Nat} {x : Nat} (h : (x :: Y).Pairwise (· < ·)) : del x true (x :: Y) = Y := del_mid (A := []) (R := Y) (p := x) h

/-- the last of the child before takes the place of p -/
theorem flat_last {ss : List Nat} {ks : List (List Nat)} {k p x : Nat} {Y b : List Nat} (hl : ks.length = ss.length + 1) (hr : (flat ss ks).Pairwise (· < ·)) (hs : ss[k]? = some p) (h1 : ks[k]? = some (Y ++ [x])) (h2 : ks[k + 1]? = some b) :
    flat (ss.set k x) (ks.set k Y) = del p true (flat ss ks) := by
  obtain ⟨e1, e2, e3⟩ := two_split h1 h2
  obtain ⟨f1, f2⟩ := get_split hs
  have e0 := flat_two hl hs h1 h2
  rw [e0, ← List.append_assoc] at hr
  rw [e0, ← List.append_assoc, del_mid hr]
  have hd : ks.drop (k + 1) = b :: ks.drop (k + 2) := by
    rw [List.drop_eq_getElem_cons e3]
    rw [List.getElem?_eq_getElem e3] at h2
    rw [Option.some.inj h2]
  rw [set_split x (by have := (List.getElem?_eq_some_iff.1 hs).1; exact this), set_split Y (by omega), hd, flat_pre _ _ _ _ (by rw [f2, e2])]
  simp [flat]

/-- the first of the child behind takes the place of p -/
theorem flat_first {ss : List Nat} {ks : List (List Nat)} {k p x : Nat} {Y a : List Nat} (hl : ks.length = ss.length + 1) (hr : (flat ss ks).Pairwise (· < ·)) (hs : ss[k]? = some p) (h1 : ks[k]? = some a) (h2 : ks[k + 1]? = some (x :: Y)) :
    flat (ss.set k x) (ks.set (k + 1) Y) = del p true (flat ss ks) := by
  obtain ⟨e1, e2, e3⟩ := two_split h1 h2
  obtain ⟨f1, f2⟩ := get_split hs
  have e0 := flat_two hl hs h1 h2
  rw [e0, ← List.append_assoc] at hr
  rw [e0, ← List.append_assoc, del_mid hr]
  have h4 := two_set (a' := a) (b' := Y) h1 h2
  rw [set_self h1] at h4
  have h3 : flat (ss.drop (k + 1)) ((x :: Y) :: ks.drop (k + 2)) = x :: flat (ss.drop (k + 1)) (Y :: ks.drop (k + 2)) := flat_head (a := [x]) (b := Y)
  rw [set_split x (by have := (List.getElem?_eq_some_iff.1 hs).1; exact this), h4, flat_pre _ _ _ _ (by rw [f2, e2]), h3]
  simp [flat]
end Go.Proofs.Ybulkira
