/- The plain law of the breadth-first search: no Go in sight. -/
namespace Go.Proofs.Ybulkira.Bfs

/-- what the search is given: how many nodes, where it starts, the edges, the members, the limit -/
structure Inp where
  nn : Nat
  src : Nat
  E : List (Nat × Nat)
  mem : Nat → Bool
  limit : Int
  hsrc : src < nn
  hE : ∀ p ∈ E, p.1 < nn ∧ p.2 < nn

/-- a node at distance x may be gone on from -/
def may (I : Inp) (x : Int) : Prop := I.limit < 0 ∨ x < I.limit

def upd {α : Type} (d : Nat → α) (u : Nat) (x : α) : Nat → α := fun v => if v = u then x else d v
theorem upd_same {α : Type} (d : Nat → α) (u : Nat) (x : α) : upd d u x u = x := by simp [upd]
theorem upd_other {α : Type} (d : Nat → α) {u v : Nat} (x : α) (h : v ≠ u) : upd d u x v = d v := by simp [upd, h]

/-- what holds of the distances d and of the queue q all along -/
structure QInv (I : Inp) (d : Nat → Int) (q : List Nat) : Prop where
  nodup : q.Nodup
  lt : ∀ v ∈ q, v < I.nn
  head : q[0]? = some I.src
  mem : ∀ v, v < I.nn → (v ∈ q ↔ 0 ≤ d v)
  neg : ∀ v, v < I.nn → d v = -1 ∨ 0 ≤ d v
  src : d I.src = 0
  lim : ∀ v ∈ q, 0 ≤ I.limit → d v ≤ I.limit
  pos : ∀ (j v : Nat), q[j]? = some v → d v ≤ (j : Int)
  mono : q.Pairwise (fun a b => d a ≤ d b)
  pred : ∀ v ∈ q, v ≠ I.src → I.mem v = true ∧ ∃ u ∈ q, (u, v) ∈ I.E ∧ d u + 1 = d v ∧ may I (d u)

/-- the first i of the queue have been gone on from -/
def Done (I : Inp) (d : Nat → Int) (q : List Nat) (i : Nat) : Prop :=
  ∀ (j u : Nat), j < i → q[j]? = some u → ∀ v, (u, v) ∈ I.E → v ≠ I.src → I.mem v = true → may I (d u) → 0 ≤ d v ∧ d v ≤ d u + 1

/-- nothing in the queue lies further than one step beyond t -/
def Near (d : Nat → Int) (q : List Nat) (t : Nat) : Prop := ∀ v ∈ q, d v ≤ d t + 1

/-- of t's edges those that are no longer to come have been gone along -/
def Part (I : Inp) (d : Nat → Int) (t : Nat) (left : Nat → Bool) : Prop :=
  ∀ v, (t, v) ∈ I.E → left v = false → v ≠ I.src → I.mem v = true → 0 ≤ d v ∧ d v ≤ d t + 1

theorem inv_start (I : Inp) : QInv I (upd (fun _ => -1) I.src 0) [I.src] where
  nodup := by simp
  lt := by intro v hv; simp at hv; subst hv; exact I.hsrc
  head := rfl
  mem := by
    intro v _
    by_cases h : v = I.src
    · simp [h, upd]
    · simp [h, upd]
  neg := by
    intro v _
    by_cases h : v = I.src
    · simp [h, upd]
    · simp [h, upd]
  src := by simp [upd]
  lim := by intro v hv h; simp at hv; subst hv; simpa [upd] using h
  pos := by
    intro j v h
    have hj : j < 1 := by simpa using (List.getElem?_eq_some_iff.1 h).1
    obtain rfl : j = 0 := by omega
    simp at h; subst h; simp [upd]
  mono := by simp
  pred := by intro v hv h; simp at hv; exact absurd hv h

theorem near_start (I : Inp) : ∀ t, [I.src][0]? = some t → Near (upd (fun _ => -1) I.src 0) [I.src] t := by
  intro t ht v hv
  simp at ht hv
  subst ht; subst hv; simp [upd]

theorem QInv.notmem {I : Inp} {d : Nat → Int} {q : List Nat} (h : QInv I d q) {u : Nat} (hu : u < I.nn) (hd : d u < 0) : u ∉ q := by
  intro hm
  have := (h.mem u hu).1 hm
  omega

/-- a node that is met for the first time is laid behind the others, one step further than t -/
theorem QInv.add {I : Inp} {d : Nat → Int} {q : List Nat} (h : QInv I d q) {i t u : Nat} (ht : q[i]? = some t) (hn : Near d q t) (hu : u < I.nn) (hd : d u < 0) (hm : I.mem u = true) (he : (t, u) ∈ I.E) (hmay : may I (d t)) :
    QInv I (upd d u (d t + 1)) (q ++ [u]) := by
  have hnq := h.notmem hu hd
  have htq : t ∈ q := List.mem_of_getElem? ht
  have hdt : 0 ≤ d t := (h.mem t (h.lt t htq)).1 htq
  have keep : ∀ v ∈ q, upd d u (d t + 1) v = d v := fun v hv => upd_other d _ (fun e => hnq (e ▸ hv))
  have hsq : I.src ∈ q := List.mem_of_getElem? h.head
  have hus : u ≠ I.src := fun e => hnq (e ▸ hsq)
  refine ⟨?_, ?_, ?_, ?_, ?_, ?_, ?_, ?_, ?_, ?_⟩
  · rw [List.nodup_append]
    refine ⟨h.nodup, by simp, ?_⟩
    intro a ha b hb
    simp at hb
    subst hb
    exact fun e => hnq (e ▸ ha)
  · intro v hv
    rcases List.mem_append.1 hv with hv | hv
    · exact h.lt v hv
    · simp at hv; subst hv; exact hu
  · have h0 := (List.getElem?_eq_some_iff.1 h.head).1
    rw [List.getElem?_append_left h0]; exact h.head
  · intro v hv
    by_cases e : v = u
    · subst e
      rw [upd_same]
      simp; omega
    · rw [upd_other _ _ e]
      simp [e, h.mem v hv]
  · intro v hv
    by_cases e : v = u
    · subst e; rw [upd_same]; right; omega
    · rw [upd_other _ _ e]; exact h.neg v hv
  · rw [upd_other _ _ (Ne.symm hus)]; exact h.src
  · intro v hv hl
    rcases List.mem_append.1 hv with hv | hv
    · rw [keep v hv]; exact h.lim v hv hl
    · simp at hv; subst hv; rw [upd_same]
      rcases hmay with hm' | hm'
      · omega
      · omega
  · intro j v hj
    by_cases hlt : j < q.length
    · rw [List.getElem?_append_left hlt] at hj
      rw [keep v (List.mem_of_getElem? hj)]; exact h.pos j v hj
    · have hj1 : j < q.length + 1 := by simpa using (List.getElem?_eq_some_iff.1 hj).1
      obtain rfl : j = q.length := by omega
      simp at hj; subst hj
      rw [upd_same]
      have := h.pos i t ht
      have hi := (List.getElem?_eq_some_iff.1 ht).1
      omega
  · rw [List.pairwise_append]
    refine ⟨?_, by simp, ?_⟩
    · refine h.mono.imp_of_mem ?_
      intro a b ha hb hab
      rw [keep a ha, keep b hb]; exact hab
    · intro a ha b hb
      simp at hb; subst hb
      rw [keep a ha, upd_same]; exact hn a ha
  · intro v hv hvs
    rcases List.mem_append.1 hv with hv | hv
    · obtain ⟨h1, x, hx, h2, h3, h4⟩ := h.pred v hv hvs
      refine ⟨h1, x, by simp [hx], h2, ?_, ?_⟩
      · rw [keep x hx, keep v hv]; exact h3
      · rw [keep x hx]; exact h4
    · simp at hv; subst hv
      refine ⟨hm, t, by simp [htq], he, ?_, ?_⟩
      · rw [keep t htq, upd_same]
      · rw [keep t htq]; exact hmay

theorem Near.add {I : Inp} {d : Nat → Int} {q : List Nat} (h : QInv I d q) {t u : Nat} (htq : t ∈ q) (hn : Near d q t) (hu : u < I.nn) (hd : d u < 0) : Near (upd d u (d t + 1)) (q ++ [u]) t := by
  have hnq := h.notmem hu hd
  have ht : upd d u (d t + 1) t = d t := upd_other d _ (fun e => hnq (e ▸ htq))
  intro v hv
  rw [ht]
  rcases List.mem_append.1 hv with hv | hv
  · rw [upd_other d _ (show v ≠ u from fun e => hnq (e ▸ hv))]; exact hn v hv
  · simp at hv; subst hv; rw [upd_same]; omega

theorem Done.add {I : Inp} {d : Nat → Int} {q : List Nat} (h : QInv I d q) {i u : Nat} {x : Int} (hD : Done I d q i) (hi : i ≤ q.length) (hu : u < I.nn) (hd : d u < 0) : Done I (upd d u x) (q ++ [u]) i := by
  have hnq := h.notmem hu hd
  intro j a hj ha v he hvs hm hmay
  rw [List.getElem?_append_left (by omega)] at ha
  have haq : a ∈ q := List.mem_of_getElem? ha
  rw [upd_other d _ (show a ≠ u from fun e => hnq (e ▸ haq))] at hmay ⊢
  obtain ⟨h1, h2⟩ := hD j a hj ha v he hvs hm hmay
  by_cases e : v = u
  · subst e; omega
  · rw [upd_other d _ e]; exact ⟨h1, h2⟩

/-- the edge to u has been gone along: it was new -/
theorem Part.add {I : Inp} {d : Nat → Int} {q : List Nat} (h : QInv I d q) {t u : Nat} {left left' : Nat → Bool} (htq : t ∈ q) (hP : Part I d t left) (hu : u < I.nn) (hd : d u < 0) (hl : ∀ v, left' v = false → v = u ∨ left v = false) :
    Part I (upd d u (d t + 1)) t left' := by
  have hnq := h.notmem hu hd
  have ht : upd d u (d t + 1) t = d t := upd_other d _ (fun e => hnq (e ▸ htq))
  have hdt : 0 ≤ d t := (h.mem t (h.lt t htq)).1 htq
  intro v he hlv hvs hm
  rw [ht]
  by_cases e : v = u
  · subst e; rw [upd_same]; omega
  · rw [upd_other d _ e]
    rcases hl v hlv with h' | h'
    · exact absurd h' e
    · exact hP v he h' hvs hm

/-- it was there already, or is no member -/
theorem Part.skip {I : Inp} {d : Nat → Int} {q : List Nat} (h : QInv I d q) {t u : Nat} {left left' : Nat → Bool} (hn : Near d q t) (hP : Part I d t left) (hu : u < I.nn) (hd : 0 ≤ d u ∨ I.mem u = false) (hl : ∀ v, left' v = false → v = u ∨ left v = false) :
    Part I d t left' := by
  intro v he hlv hvs hm
  by_cases e : v = u
  · subst e
    rcases hd with hd | hd
    · exact ⟨hd, hn v ((h.mem v hu).2 hd)⟩
    · rw [hd] at hm; cases hm
  · rcases hl v hlv with h' | h'
    · exact absurd h' e
    · exact hP v he h' hvs hm

/-- t's edges are all gone along, or t may not be gone on from -/
theorem Done.next {I : Inp} {d : Nat → Int} {q : List Nat} {i t : Nat} (hD : Done I d q i) (ht : q[i]? = some t) (hP : may I (d t) → Part I d t (fun _ => false)) : Done I d q (i + 1) := by
  intro j a hj ha v he hvs hm hmay
  rcases Nat.lt_or_ge j i with h | h
  · exact hD j a h ha v he hvs hm hmay
  · obtain rfl : j = i := by omega
    rw [ht] at ha
    obtain rfl := Option.some.inj ha
    exact hP hmay v he rfl hvs hm

theorem Near.next {I : Inp} {d : Nat → Int} {q : List Nat} (h : QInv I d q) {i t : Nat} (ht : q[i]? = some t) (hn : Near d q t) : ∀ t', q[i + 1]? = some t' → Near d q t' := by
  intro t' ht' v hv
  have h1 := hn v hv
  have hi := (List.getElem?_eq_some_iff.1 ht).1
  have hi' := (List.getElem?_eq_some_iff.1 ht').1
  have := List.pairwise_iff_getElem.1 h.mono i (i + 1) hi hi' (by omega)
  rw [(List.getElem?_eq_some_iff.1 ht).2, (List.getElem?_eq_some_iff.1 ht').2] at this
  omega

/-- what the search has found when it ends -/
structure Found (I : Inp) (D : Nat → Int) (q : List Nat) : Prop where
  inv : QInv I D q
  comp : ∀ u v, (u, v) ∈ I.E → v ≠ I.src → I.mem v = true → 0 ≤ D u → may I (D u) → 0 ≤ D v ∧ D v ≤ D u + 1
  len : q.length ≤ I.nn
  bound : ∀ v, v < I.nn → D v < I.nn

theorem fin_of {I : Inp} {d : Nat → Int} {q : List Nat} (h : QInv I d q) {i : Nat} (hi : q.length ≤ i) (hD : Done I d q i) : Found I d q := by
  have hlen : q.length ≤ I.nn := by
    have := List.Nodup.length_le_of_subset h.nodup (l₂ := List.range I.nn) (fun v hv => List.mem_range.2 (h.lt v hv))
    simpa using this
  refine ⟨h, ?_, hlen, ?_⟩
  · intro u v he hvs hm h0 hmay
    have huq := (h.mem u (I.hE _ he).1).2 h0
    obtain ⟨j, hj, hju⟩ := List.mem_iff_getElem.1 huq
    exact hD j u (by omega) (List.getElem?_eq_some_iff.2 ⟨hj, hju⟩) v he hvs hm hmay
  · intro v hv
    have hnn : 0 < I.nn := by omega
    rcases h.neg v hv with h' | h'
    · omega
    · obtain ⟨j, hj, hjv⟩ := List.mem_iff_getElem.1 ((h.mem v hv).2 h')
      have := h.pos j v (List.getElem?_eq_some_iff.2 ⟨hj, hjv⟩)
      omega

/-! the second reckoning: rounds over the edge list -/
structure BF (I : Inp) (D want : Nat → Int) : Prop where
  neg : ∀ v, v < I.nn → want v = -1 ∨ 0 ≤ want v
  src : want I.src = 0
  lo : ∀ v, v < I.nn → 0 ≤ want v → 0 ≤ D v ∧ D v ≤ want v

def Up (I : Inp) (D want : Nat → Int) (r : Nat) : Prop := ∀ v, v < I.nn → 0 ≤ D v → D v ≤ r → 0 ≤ want v ∧ want v ≤ D v

def Pass (I : Inp) (D want : Nat → Int) (r k : Nat) : Prop :=
  ∀ (j a b : Nat), j < k → I.E[j]? = some (a, b) → b ≠ I.src → I.mem b = true → 0 ≤ D a → D a ≤ r → may I (D a) → 0 ≤ want b ∧ want b ≤ D a + 1

theorem bf_start {I : Inp} {D : Nat → Int} {q : List Nat} (F : Found I D q) : BF I D (upd (fun _ => -1) I.src 0) := by
  refine ⟨?_, by simp [upd], ?_⟩
  · intro v _
    by_cases h : v = I.src <;> simp [h, upd]
  · intro v _ h0
    by_cases h : v = I.src
    · rw [h, upd_same, F.inv.src]; exact ⟨by omega, by omega⟩
    · rw [upd_other _ _ h] at h0; omega

theorem up_start {I : Inp} {D : Nat → Int} {q : List Nat} (F : Found I D q) : Up I D (upd (fun _ => -1) I.src 0) 0 := by
  intro v hv h0 h1
  by_cases h : v = I.src
  · rw [h, upd_same, F.inv.src]; exact ⟨by omega, by omega⟩
  · obtain ⟨_, u, hu, _, h2, _⟩ := F.inv.pred v ((F.inv.mem v hv).2 h0) h
    have := (F.inv.mem u (F.inv.lt u hu)).1 hu
    omega

/-- the edge (a, b) changes nothing -/
theorem pass_skip {I : Inp} {D want : Nat → Int} {r k a b : Nat} (hP : Pass I D want r k) (he : I.E[k]? = some (a, b))
    (h : b ≠ I.src → I.mem b = true → 0 ≤ D a → D a ≤ r → may I (D a) → 0 ≤ want b ∧ want b ≤ D a + 1) : Pass I D want r (k + 1) := by
  intro j x y hj hxy
  rcases Nat.lt_or_ge j k with h' | h'
  · exact hP j x y h' hxy
  · obtain rfl : j = k := by omega
    rw [he] at hxy
    obtain ⟨rfl, rfl⟩ := Prod.mk.inj (Option.some.inj hxy)
    exact h

theorem pass_src {I : Inp} {D want : Nat → Int} {r k a b : Nat} (hU : Up I D want r) (hP : Pass I D want r k) (he : I.E[k]? = some (a, b)) (h : b = I.src ∨ want a < 0) : Pass I D want r (k + 1) := by
  refine pass_skip hP he fun h1 h2 h3 h4 h5 => ?_
  rcases h with h | h
  · exact absurd h h1
  · have ha := (I.hE _ (List.mem_of_getElem? he)).1
    have := hU a ha h3 h4
    omega

theorem pass_lim {I : Inp} {D want : Nat → Int} {r k a b : Nat} (hU : Up I D want r) (hP : Pass I D want r k) (he : I.E[k]? = some (a, b)) (h : 0 ≤ I.limit) (h' : I.limit ≤ want a) : Pass I D want r (k + 1) := by
  refine pass_skip hP he fun h1 h2 h3 h4 h5 => ?_
  have ha := (I.hE _ (List.mem_of_getElem? he)).1
  have := hU a ha h3 h4
  rcases h5 with h5 | h5 <;> omega

theorem pass_mem {I : Inp} {D want : Nat → Int} {r k a b : Nat} (hP : Pass I D want r k) (he : I.E[k]? = some (a, b)) (h : I.mem b = false) : Pass I D want r (k + 1) :=
  pass_skip hP he fun _ h2 _ _ _ => by rw [h] at h2; cases h2

theorem pass_keep {I : Inp} {D want : Nat → Int} {r k a b : Nat} (hU : Up I D want r) (hP : Pass I D want r k) (he : I.E[k]? = some (a, b)) (h : 0 ≤ want b) (h' : want b ≤ want a + 1) : Pass I D want r (k + 1) := by
  refine pass_skip hP he fun h1 h2 h3 h4 h5 => ?_
  have ha := (I.hE _ (List.mem_of_getElem? he)).1
  have := hU a ha h3 h4
  omega

/-- the edge (a, b) lowers b -/
theorem bf_set {I : Inp} {D want : Nat → Int} {q : List Nat} {r k a b : Nat} (F : Found I D q) (hB : BF I D want) (hU : Up I D want r) (hP : Pass I D want r k) (he : I.E[k]? = some (a, b)) (hbs : b ≠ I.src) (h0 : 0 ≤ want a) (hmay : may I (want a)) (hm : I.mem b = true)
    (hlt : want b < 0 ∨ want a + 1 < want b) : BF I D (upd want b (want a + 1)) ∧ Up I D (upd want b (want a + 1)) r ∧ Pass I D (upd want b (want a + 1)) r (k + 1) := by
  have hab := I.hE _ (List.mem_of_getElem? he)
  have hla := hB.lo a hab.1 h0
  have hmayD : may I (D a) := by
    rcases hmay with h | h
    · exact .inl h
    · exact .inr (by omega)
  have hcb := F.comp a b (List.mem_of_getElem? he) hbs hm hla.1 hmayD
  have low : ∀ v, v < I.nn → 0 ≤ want v → 0 ≤ upd want b (want a + 1) v ∧ upd want b (want a + 1) v ≤ want v := by
    intro v hv hv0
    by_cases e : v = b
    · subst e; rw [upd_same]; omega
    · rw [upd_other _ _ e]; omega
  refine ⟨⟨?_, ?_, ?_⟩, ?_, ?_⟩
  · intro v hv
    by_cases e : v = b
    · subst e; rw [upd_same]; right; omega
    · rw [upd_other _ _ e]; exact hB.neg v hv
  · rw [upd_other _ _ (Ne.symm hbs)]; exact hB.src
  · intro v hv h
    by_cases e : v = b
    · subst e; rw [upd_same]; exact ⟨hcb.1, by omega⟩
    · rw [upd_other _ _ e] at h ⊢; exact hB.lo v hv h
  · intro v hv h1 h2
    have h3 := hU v hv h1 h2
    have h4 := low v hv h3.1
    omega
  · intro j x y hj hxy g1 g2 g3 g4 g5
    rcases Nat.lt_or_ge j k with h' | h'
    · have hy := (I.hE _ (List.mem_of_getElem? hxy)).2
      have h3 := hP j x y h' hxy g1 g2 g3 g4 g5
      have h4 := low y hy h3.1
      omega
    · obtain rfl : j = k := by omega
      rw [he] at hxy
      obtain ⟨rfl, rfl⟩ := Prod.mk.inj (Option.some.inj hxy)
      rw [upd_same]
      have := hU a hab.1 g3 g4
      omega

theorem pass_zero {I : Inp} {D want : Nat → Int} (r : Nat) : Pass I D want r 0 := fun j _ _ hj => absurd hj (by omega)

theorem up_next {I : Inp} {D want : Nat → Int} {q : List Nat} {r k : Nat} (F : Found I D q) (hU : Up I D want r) (hP : Pass I D want r k) (hk : I.E.length ≤ k) : Up I D want (r + 1) := by
  intro v hv h0 h1
  by_cases h : D v ≤ r
  · exact hU v hv h0 h
  · have hvs : v ≠ I.src := fun e => by rw [e, F.inv.src] at h; omega
    obtain ⟨hm, u, hu, he, h2, hmay⟩ := F.inv.pred v ((F.inv.mem v hv).2 h0) hvs
    obtain ⟨j, hj, hjv⟩ := List.mem_iff_getElem.1 he
    have := hP j u v (by omega) (List.getElem?_eq_some_iff.2 ⟨hj, hjv⟩) hvs hm ((F.inv.mem u (F.inv.lt u hu)).1 hu) (by omega) hmay
    omega

theorem want_eq {I : Inp} {D want : Nat → Int} {q : List Nat} (F : Found I D q) (hB : BF I D want) (hU : Up I D want I.nn) : ∀ v, v < I.nn → D v = want v := by
  intro v hv
  rcases F.inv.neg v hv with h | h
  · rcases hB.neg v hv with h' | h'
    · omega
    · have := hB.lo v hv h'; omega
  · have h1 := hU v hv h (by have := F.bound v hv; omega)
    have h2 := hB.lo v hv h1.1
    omega

/-- how many of the first k nodes have been reached -/
def cnt (D : Nat → Int) (k : Nat) : Nat := ((List.range k).filter (fun i => decide (0 ≤ D i))).length
theorem cnt_zero (D : Nat → Int) : cnt D 0 = 0 := rfl
theorem cnt_yes {D : Nat → Int} {k : Nat} (h : 0 ≤ D k) : cnt D (k + 1) = cnt D k + 1 := by simp [cnt, List.range_succ, List.filter_append, h]
theorem cnt_no {D : Nat → Int} {k : Nat} (h : ¬ 0 ≤ D k) : cnt D (k + 1) = cnt D k := by simp [cnt, List.range_succ, List.filter_append, h]
theorem cnt_le (D : Nat → Int) (k : Nat) : cnt D k ≤ k := by
  have := List.length_filter_le (fun i => decide (0 ≤ D i)) (List.range k)
  simpa [cnt] using this
theorem cnt_len {I : Inp} {D : Nat → Int} {q : List Nat} (F : Found I D q) : cnt D I.nn = q.length := by
  have hp : ((List.range I.nn).filter (fun i => decide (0 ≤ D i))).Perm q := by
    rw [List.perm_ext_iff_of_nodup (List.Nodup.sublist List.filter_sublist List.nodup_range) F.inv.nodup]
    intro v
    simp only [List.mem_filter, List.mem_range, decide_eq_true_eq]
    constructor
    · rintro ⟨h1, h2⟩; exact (F.inv.mem v h1).2 h2
    · intro h; exact ⟨F.inv.lt v h, (F.inv.mem v (F.inv.lt v h)).1 h⟩
  exact hp.length_eq

/-- which nodes are among the first k of the queue -/
def seen (q : List Nat) (k v : Nat) : Bool := decide (v ∈ q.take k)
theorem seen_zero (q : List Nat) (v : Nat) : seen q 0 v = false := by simp [seen]
theorem seen_next {q : List Nat} {k t : Nat} (h : q[k]? = some t) : seen q (k + 1) = upd (seen q k) t true := by
  funext v
  obtain ⟨hk, hkt⟩ := List.getElem?_eq_some_iff.1 h
  unfold seen upd
  rw [List.take_succ_eq_append_getElem hk, hkt]
  by_cases e : v = t <;> simp [e]
theorem seen_new {q : List Nat} (hn : q.Nodup) {k t : Nat} (h : q[k]? = some t) : seen q k t = false := by
  obtain ⟨hk, hkt⟩ := List.getElem?_eq_some_iff.1 h
  unfold seen
  rw [decide_eq_false_iff_not]
  intro hm
  have := hn.sublist (List.take_sublist (k + 1) q)
  rw [List.take_succ_eq_append_getElem hk, hkt, List.nodup_append] at this
  exact this.2.2 t hm t (by simp) rfl

/-- the distance of the node before place k, 0 at the head -/
def prev (D : Nat → Int) (q : List Nat) (k : Nat) : Int := if k = 0 then 0 else D (q.getD (k - 1) 0)
theorem prev_zero (D : Nat → Int) (q : List Nat) : prev D q 0 = 0 := rfl
theorem prev_next {D : Nat → Int} {q : List Nat} {k t : Nat} (h : q[k]? = some t) : prev D q (k + 1) = D t := by simp [prev, h]
theorem prev_le {I : Inp} {D : Nat → Int} {q : List Nat} (F : Found I D q) {k t : Nat} (h : q[k]? = some t) : prev D q k ≤ D t := by
  have htq := List.mem_of_getElem? h
  by_cases hk : k = 0
  · subst hk; rw [prev_zero]; exact (F.inv.mem t (F.inv.lt t htq)).1 htq
  · obtain ⟨hkl, hkt⟩ := List.getElem?_eq_some_iff.1 h
    have := List.pairwise_iff_getElem.1 F.inv.mono (k - 1) k (by omega) hkl (by omega)
    unfold prev
    rw [if_neg hk]
    rw [hkt] at this
    simpa [List.getD, show k - 1 < q.length by omega] using this
end Go.Proofs.Ybulkira.Bfs
