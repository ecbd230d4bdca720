import Derived.Test.YbulkiraRPutD
namespace Go.Proofs.Ybulkira
open Go.RowKit
set_option linter.unusedVariables false

/-- what a tree holds: the leaves with the root's items between them -/
def flat : List Nat → List (List Nat) → List Nat
  | s :: ss, k :: ks => k ++ s :: flat ss ks
  | [], k :: _ => k
  | _, [] => []

def pre : List Nat → List (List Nat) → List Nat
  | s :: ss, k :: ks => k ++ s :: pre ss ks
  | _, _ => []

theorem flat_pre : ∀ (S1 : List Nat) (K1 : List (List Nat)) (S2 : List Nat) (K2 : List (List Nat)), S1.length = K1.length → flat (S1 ++ S2) (K1 ++ K2) = pre S1 K1 ++ flat S2 K2
  | [], [], S2, K2, _ => rfl
  | s :: S1, k :: K1, S2, K2, h => by
    have ih := flat_pre S1 K1 S2 K2 (by simpa using h)
    simp [flat, pre, ih]
  | [], _ :: _, _, _, h => by cases h
  | _ :: _, [], _, _, h => by cases h

theorem mem_pre_sep : ∀ (S : List Nat) (K : List (List Nat)), S.length ≤ K.length → ∀ s ∈ S, s ∈ pre S K
  | [], _, _, s, hs => by cases hs
  | t :: S, [], h, s, hs => by cases h
  | t :: S, k :: K, h, s, hs => by
    rw [List.mem_cons] at hs
    rcases hs with rfl | hs
    · simp [pre]
    · have := mem_pre_sep S K (by simpa using h) s hs
      simp [pre, this]

/-- the shape of a root's tree -/
structure Good (ss : List Nat) (ks : List (List Nat)) : Prop where
  len : ks.length = ss.length + 1
  low : ∀ k ∈ ks, 31 ≤ k.length
  high : ∀ k ∈ ks, k.length ≤ 63

theorem flat_length : ∀ (ss : List Nat) (ks : List (List Nat)), ks.length = ss.length + 1 → (∀ k ∈ ks, 31 ≤ k.length) → 32 * ss.length + 31 ≤ (flat ss ks).length
  | [], [k], _, h => by simpa [flat] using h k (by simp)
  | s :: ss, k :: ks, hl, h => by
    have ih := flat_length ss ks (by simpa using hl) (fun k hk => h k (by simp [hk]))
    have := h k (by simp)
    simp [flat]
    omega
  | [], [], hl, _ => by cases hl
  | [], _ :: _ :: _, hl, _ => by simp at hl
  | _ :: _, [], hl, _ => by cases hl

/-- the last leaf -/
theorem last_split {ss : List Nat} {ks : List (List Nat)} (hl : ks.length = ss.length + 1) {l : List Nat} (h : ks[ss.length]? = some l) : ks = ks.take ss.length ++ [l] ∧ flat ss ks = pre ss (ks.take ss.length) ++ l := by
  have h1 : ks = ks.take ss.length ++ [l] := by
    have h2 : ks.drop ss.length = [l] := by
      rw [List.drop_eq_getElem_cons (by omega), List.drop_eq_nil_of_le (by omega)]
      rw [List.getElem?_eq_getElem (by omega)] at h
      rw [Option.some.inj h]
    rw [← h2, List.take_append_drop]
  refine ⟨h1, ?_⟩
  have h3 := flat_pre ss (ks.take ss.length) [] [l] (by rw [List.length_take]; omega)
  rw [List.append_nil, ← h1] at h3
  rw [h3]
  rfl

theorem ins_last {x : Nat} {xs : List Nat} (h : ∀ y ∈ xs, y < x) : ins x xs = xs ++ [x] := by
  have : lb xs x = xs.length := by
    simp only [lb, List.countP_eq_length]
    intro y hy
    simpa using h y hy
  simp [ins, this]

theorem ins_first {x : Nat} {xs : List Nat} (h : ∀ y ∈ xs, x < y) : ins x xs = x :: xs := by
  have : lb xs x = 0 := by
    simp only [lb, List.countP_eq_zero]
    intro y hy
    have := h y hy
    simp
    omega
  simp [ins, this]

theorem lb_last {x : Nat} {xs : List Nat} (h : ∀ y ∈ xs, y < x) : lb xs x = xs.length := by
  simp only [lb, List.countP_eq_length]
  intro y hy
  simpa using h y hy

theorem lb_first {x : Nat} {xs : List Nat} (h : ∀ y ∈ xs, x < y) : lb xs x = 0 := by
  simp only [lb, List.countP_eq_zero]
  intro y hy
  have := h y hy
  simp
  omega

/-- a put behind all: into a leaf that is not full -/
theorem flat_up_a {ss : List Nat} {ks : List (List Nat)} {l : List Nat} {x : Nat} (hl : ks.length = ss.length + 1) (h : ks[ss.length]? = some l) (hx : ∀ y ∈ flat ss ks, y < x) :
    flat ss (ks.set ss.length (ins x l)) = flat ss ks ++ [x] := by
  obtain ⟨h1, h2⟩ := last_split hl h
  have hlx : ∀ y ∈ l, y < x := fun y hy => hx y (by rw [h2]; exact List.mem_append_right _ hy)
  have h3 : ks.set ss.length (ins x l) = ks.take ss.length ++ [ins x l] := by
    conv => lhs; rw [h1]
    rw [List.set_append_right _ _ (by rw [List.length_take]; omega), List.length_take, Nat.min_eq_left (by omega), Nat.sub_self]
    rfl
  have h4 := flat_pre ss (ks.take ss.length) [] [ins x l] (by rw [List.length_take]; omega)
  rw [List.append_nil, ← h3] at h4
  rw [h4, h2, ins_last hlx]
  simp [flat]

/-- .. into one that is full -/
theorem flat_up_b {ss : List Nat} {ks : List (List Nat)} {l : List Nat} {x m : Nat} (hl : ks.length = ss.length + 1) (h : ks[ss.length]? = some l) (hm : l[31]? = some m) (hx : ∀ y ∈ flat ss ks, y < x) :
    flat (ss.take ss.length ++ m :: ss.drop ss.length) (ks.take ss.length ++ l.take 31 :: ins x (l.drop 32) :: ks.drop (ss.length + 1)) = flat ss ks ++ [x] := by
  obtain ⟨h1, h2⟩ := last_split hl h
  have hlx : ∀ y ∈ l.drop 32, y < x := fun y hy => hx y (by rw [h2]; exact List.mem_append_right _ (List.mem_of_mem_drop hy))
  rw [List.take_length, List.drop_length, flat_pre ss _ [m] _ (by rw [List.length_take]; omega), h2, ins_last hlx, show ks.drop (ss.length + 1) = [] from List.drop_eq_nil_of_le (by omega)]
  have h31 : 31 < l.length := (List.getElem?_eq_some_iff.1 hm).1
  have h3 : l = l.take 31 ++ m :: l.drop 32 := by
    have h4 : l.drop 31 = m :: l.drop 32 := by
      rw [List.drop_eq_getElem_cons h31]
      rw [List.getElem?_eq_getElem h31] at hm
      rw [Option.some.inj hm]
    rw [← h4, List.take_append_drop]
  conv => rhs; rw [h3]
  simp [flat]

/-- a put ahead of all -/
theorem flat_down_a {ss : List Nat} {ks : List (List Nat)} {l : List Nat} {x : Nat} (hl : ks.length = ss.length + 1) (h : ks[0]? = some l) (hx : ∀ y ∈ flat ss ks, x < y) :
    flat ss (ks.set 0 (ins x l)) = x :: flat ss ks := by
  rcases ks with _ | ⟨k, ks⟩
  · cases hl
  · simp at h
    subst h
    rcases ss with _ | ⟨s, ss⟩
    · have : ∀ y ∈ k, x < y := fun y hy => hx y (by simpa [flat] using hy)
      simp [flat, ins_first this]
    · have : ∀ y ∈ k, x < y := fun y hy => hx y (by simp [flat, hy])
      simp [flat, ins_first this]

theorem flat_down_b {ss : List Nat} {ks : List (List Nat)} {l : List Nat} {x m : Nat} (hl : ks.length = ss.length + 1) (h : ks[0]? = some l) (hm : l[31]? = some m) (hx : ∀ y ∈ flat ss ks, x < y) :
    flat (ss.take 0 ++ m :: ss.drop 0) (ks.take 0 ++ ins x (l.take 31) :: l.drop 32 :: ks.drop 1) = x :: flat ss ks := by
  have h31 : 31 < l.length := (List.getElem?_eq_some_iff.1 hm).1
  have h3 : l = l.take 31 ++ m :: l.drop 32 := by
    have h4 : l.drop 31 = m :: l.drop 32 := by
      rw [List.drop_eq_getElem_cons h31]
      rw [List.getElem?_eq_getElem h31] at hm
      rw [Option.some.inj hm]
    rw [← h4, List.take_append_drop]
  rcases ks with _ | ⟨k, ks⟩
  · cases hl
  · simp at h
    subst h
    have hk : ∀ y ∈ k.take 31, x < y := fun y hy => hx y (by
      have := List.mem_of_mem_take hy
      rcases ss with _ | ⟨s, ss⟩ <;> simp [flat, this])
    rw [ins_first hk]
    rcases ss with _ | ⟨s, ss⟩
    · have : ks = [] := by simpa using hl
      subst this
      conv => rhs; rw [h3]
      simp [flat]
    · conv => rhs; rw [h3]
      simp [flat]
end Go.Proofs.Ybulkira
