import Derived.Test.YbulkiraBDist
namespace Go.Proofs.Ybulkira
open Go.RowKit Go.Proofs.Ybulkira.Bfs
set_option linter.unusedVariables false

theorem Yba.info25 : (Yba.prog.info? 25).map (fun i => (i.zero, i.size, i.bytes)) = some (some (.map none), 1, 8) := by kernel_rfl
theorem Yba.info4 : (Yba.prog.info? 4).map (fun i => (i.zero, i.size, i.bytes)) = some (some (.bool false), 1, 1) := by kernel_rfl

/-- the slice of edges that came in -/
def Pairs (w : World) (a : Option Addr) (len : Nat) (F T : Nat → Int) : Prop :=
  0 < len → ∃ b off, a = some ⟨b, off, none⟩ ∧ b < w.heap.size ∧ ∀ t, t < len → w.cell? ⟨b, off + t * 2, none⟩ = some (.int .u8 (F t)) ∧ w.cell? ⟨b, off + t * 2 + 1, none⟩ = some (.int .u8 (T t))

theorem Pairs.more {w w' : World} {a : Option Addr} {len : Nat} {F T : Nat → Int} (h : Pairs w a len F T) (hb : Below w.heap.size w w') : Pairs w' a len F T := by
  intro h0
  obtain ⟨b, off, rfl, hbl, hc⟩ := h h0
  exact ⟨b, off, rfl, Nat.lt_of_lt_of_le hbl hb.size, fun t ht => ⟨(hb.cell (p := ⟨b, off + t * 2, none⟩) hbl).trans (hc t ht).1, (hb.cell (p := ⟨b, off + t * 2 + 1, none⟩) hbl).trans (hc t ht).2⟩⟩

/-- what stays known all along: the two captured variables; nothing that was there has turned -/
structure Env (w wr : World) (mask : Int) (nn : Nat) : Prop where
  below : Below w.heap.size w wr
  cM : wr.cell? ⟨w.heap.size, 0, none⟩ = some (.int .u32 mask)
  cN : wr.cell? ⟨w.heap.size + 1, 0, none⟩ = some (.int .i64 nn)
  size : w.heap.size + 2 ≤ wr.heap.size

theorem Env.kept {w wr w' : World} {mask : Int} {nn : Nat} {row : Option Nat} (h : Env w wr mask nn) (hg : wr.grownBy w' row) (hr : ∀ j, row = some j → w.heap.size + 2 ≤ j) : Env w w' mask nn := by
  have n0 : ∀ k, k < w.heap.size + 2 → some k ≠ row := fun k hk e => by have := hr k e.symm; omega
  have hs := h.size
  exact ⟨h.below.grown hg h.below.size (fun k hk => by have := hr k hk; omega), cell_kept h.cM hg (n0 _ (by omega)), cell_kept h.cN hg (n0 _ (by omega)), Nat.le_trans h.size hg.size⟩

/-- the edges in memory, E the list of those that have been laid -/
structure GraphE (w : World) (EB nn : Nat) (mb : Nat → Nat) (Dm : Nat → DataW Unit) (n : Nat) (E : List (Nat × Nat)) : Prop where
  plain : PlainAt w EB
  cell : ∀ i, i < nn → w.cell? ⟨EB, i, none⟩ = some (.map (some (mb i)))
  owns : ∀ i, i < nn → w.ownsMap Yba.prog 3 labelR (mb i) n (Dm i)
  inj : ∀ i j, i < nn → j < nn → mb i = mb j → i = j
  only : ∀ i, i < nn → ∀ kl, Maps.has (Dm i) kl = true → ∃ v : Nat, kl = .int .i64 v ∧ (i, v) ∈ E
  all : ∀ i v, (i, v) ∈ E → Maps.has (Dm i) (.int .i64 v) = true
  low : ∀ i, i < nn → EB < mb i

theorem GraphE.kept {w w' : World} {EB nn n : Nat} {mb : Nat → Nat} {Dm : Nat → DataW Unit} {E : List (Nat × Nat)} {row : Option Nat} (h : GraphE w EB nn mb Dm n E) (hg : w.grownBy w' row) (hne : some EB ≠ row) (hnm : ∀ i, i < nn → some (mb i) ≠ row) : GraphE w' EB nn mb Dm n E :=
  ⟨h.plain.kept hg hne, fun i hi => cell_kept (h.cell i hi) hg hne, fun i hi => (h.owns i hi).kept hg (hnm i hi), h.inj, h.only, h.all, h.low⟩

theorem GraphE.new {w w' : World} {EB nn n : Nat} {mb : Nat → Nat} {Dm : Nat → DataW Unit} {E : List (Nat × Nat)} (h : GraphE w EB nn mb Dm n E) (hg : w.grownBy w' none) : GraphE w' EB nn mb Dm n E :=
  h.kept hg (by simp) (by simp)

theorem isKey (v : Nat) : WideAt.IsKeyLit (.int .i64 (v : Int)) := by trivial

/-- one edge more -/
theorem GraphE.put {w w' : World} {EB nn n a b : Nat} {mb : Nat → Nat} {Dm : Nat → DataW Unit} {E : List (Nat × Nat)} {y : DataW Unit} (h : GraphE w EB nn mb Dm n E) (ha : a < nn) (hb : b < nn) (ho : w'.ownsMap Yba.prog 3 labelR (mb a) (n + 1) ((Dm a).put (.int .i64 (b : Int)) y)) (hg : w.grownBy w' (some (mb a))) :
    GraphE w' EB nn mb (upd Dm a ((Dm a).put (.int .i64 (b : Int)) y)) (n + 1) (E ++ [(a, b)]) := by
  have hne : EB ≠ mb a := fun e => map_ne_plain (h.owns a ha) h.plain e.symm
  have hmap : Maps.IsMap (Dm a) := (h.owns a ha).isMap
  refine ⟨h.plain.kept hg (by simpa using hne), fun i hi => cell_kept (h.cell i hi) hg (by simpa using hne), ?_, h.inj, ?_, ?_, h.low⟩
  · intro i hi
    by_cases e : i = a
    · subst e; rw [upd_same]; exact ho
    · rw [upd_other _ _ e]
      exact ((h.owns i hi).mono (Nat.le_succ n)).kept hg (by simp; exact fun hm => e (h.inj i a hi ha hm))
  · intro i hi kl hk
    by_cases e : i = a
    · subst e
      rw [upd_same] at hk
      by_cases ek : kl = .int .i64 (b : Int)
      · exact ⟨b, ek, by simp⟩
      · rw [Maps.has_put_other ek] at hk
        obtain ⟨v, hv, hE⟩ := h.only i hi kl hk
        exact ⟨v, hv, by simp [hE]⟩
    · rw [upd_other _ _ e] at hk
      obtain ⟨v, hv, hE⟩ := h.only i hi kl hk
      exact ⟨v, hv, by simp [hE]⟩
  · intro i v hE
    rcases List.mem_append.1 hE with hE | hE
    · have := h.all i v hE
      by_cases e : i = a
      · subst e
        rw [upd_same]
        by_cases ek : (Lit.int .i64 (v : Int)) = .int .i64 (b : Int)
        · rw [ek]; exact Maps.has_put_same hmap (isKey b) _
        · rw [Maps.has_put_other ek]; exact this
      · rw [upd_other _ _ e]; exact this
    · simp at hE
      obtain ⟨rfl, rfl⟩ := hE
      rw [upd_same]
      exact Maps.has_put_same hmap (isKey v) _

/-- the row of maps while it is made -/
structure Made (w : World) (EB nn k : Nat) (mb : Nat → Nat) : Prop where
  plain : PlainAt w EB
  room : ∀ i, i < nn → ∃ v, w.cell? ⟨EB, i, none⟩ = some v
  cell : ∀ i, i < k → w.cell? ⟨EB, i, none⟩ = some (.map (some (mb i)))
  owns : ∀ i, i < k → w.ownsMap Yba.prog 3 labelR (mb i) 0 (.map [])
  inj : ∀ i j, i < k → j < k → mb i = mb j → i = j
  low : ∀ i, i < k → EB < mb i

theorem Made.step {w : World} {EB nn k : Nat} {mb : Nat → Nat} (h : Made w EB nn k mb) (hk : k < nn) : Made ((w.setCell ⟨EB, k, none⟩ (.map (some w.heap.size))).alloc (.map #[] 0)) EB nn (k + 1) (upd mb k w.heap.size) := by
  have hs := grown_set w ⟨EB, k, none⟩ (.map (some w.heap.size))
  have hsz : (w.setCell ⟨EB, k, none⟩ (.map (some w.heap.size))).heap.size = w.heap.size := by simp
  have ha := World.grownBy_alloc (w.setCell ⟨EB, k, none⟩ (.map (some w.heap.size))) (.map #[] 0) none
  have hE : EB < (w.setCell ⟨EB, k, none⟩ (.map (some w.heap.size))).heap.size := by rw [hsz]; exact h.plain.lt
  have hlt : ∀ i, i < k → mb i < w.heap.size := fun i hi => (h.owns i hi).lt
  obtain ⟨v0, hv0⟩ := h.room k hk
  have hcell : ∀ i, ((w.setCell ⟨EB, k, none⟩ (.map (some w.heap.size))).alloc (.map #[] 0)).cell? ⟨EB, i, none⟩ = if i = k then some (.map (some w.heap.size)) else w.cell? ⟨EB, i, none⟩ := by
    intro i
    rw [cell_past _ _ _ _ hE]
    by_cases e : i = k
    · subst e; rw [if_pos rfl]; exact World.cell?_setCell_same _ _ _ hv0
    · rw [if_neg e, cell_set_other _ _ _ _ _ (.inr (Ne.symm e))]
  refine ⟨(h.plain.setCell _ _).kept ha (by simp), ?_, ?_, ?_, ?_, ?_⟩
  · intro i hi
    rw [hcell]
    by_cases e : i = k
    · rw [if_pos e]; exact ⟨_, rfl⟩
    · rw [if_neg e]; exact h.room i hi
  · intro i hi
    rw [hcell]
    by_cases e : i = k
    · subst e; rw [if_pos rfl, upd_same]
    · rw [if_neg e, upd_other _ _ e]; exact h.cell i (by omega)
  · intro i hi
    by_cases e : i = k
    · subst e
      rw [upd_same]
      have := World.ownsMap_made (w.setCell ⟨EB, i, none⟩ (.map (some w.heap.size))) Yba.prog 3 labelR
      rwa [hsz] at this
    · rw [upd_other _ _ e]
      exact (((h.owns i (by omega)).kept hs (by simpa using map_ne_plain (h.owns i (by omega)) h.plain))).alloc _
  · intro i j hi hj he
    by_cases e : i = k
    · by_cases e' : j = k
      · omega
      · subst e
        rw [upd_same, upd_other _ _ e'] at he
        have := hlt j (by omega)
        omega
    · by_cases e' : j = k
      · subst e'
        rw [upd_same, upd_other _ _ e] at he
        have := hlt i (by omega)
        omega
      · rw [upd_other _ _ e, upd_other _ _ e'] at he
        exact h.inj i j (by omega) (by omega) he
  · intro i hi
    by_cases e : i = k
    · subst e; rw [upd_same]; exact h.plain.lt
    · rw [upd_other _ _ e]; exact h.low i (by omega)

theorem Made.graph {w : World} {EB nn : Nat} {mb : Nat → Nat} (h : Made w EB nn nn mb) : GraphE w EB nn mb (fun _ => .map []) 0 [] :=
  ⟨h.plain, h.cell, h.owns, h.inj, fun i hi kl hk => by simp [Maps.has_eq] at hk, fun i v hE => (by cases hE), h.low⟩

theorem made_start {w0 : World} {base g n : Nat} {xs : List Value} (h : w0.ownsRow base 25 1 (.slice (some ⟨g, 0, none⟩) n n) n xs) : Made w0 g n 0 (fun _ => 0) := by
  have hp : PlainAt w0 g ∧ ∀ i, i < n → ∃ v, w0.cell? ⟨g, i, none⟩ = some v := by
    rcases h.2 with ⟨h', _⟩ | ⟨g', cap', cur, h', _, hg, _, _, hs, _⟩
    · simp at h'
    · simp only [Value.slice.injEq, Option.some.injEq, Addr.mk.injEq, and_true, true_and] at h'
      obtain ⟨rfl, rfl⟩ := h'
      refine ⟨⟨cur, 25, hg⟩, fun o ho => ?_⟩
      rw [cell_of_row w0 g o cur 25 (0, 0) hg]
      exact ⟨cur[o], by simp [show o < cur.size by omega]⟩
  exact ⟨hp.1, hp.2, fun i hi => absurd hi (by omega), fun i hi => absurd hi (by omega), fun i j hi => absurd hi (by omega), fun i hi => absurd hi (by omega)⟩

theorem boolrow_made {w0 : World} {base g n : Nat} (h : w0.ownsRow base 4 1 (.slice (some ⟨g, 0, none⟩) n n) n (madeCells #[Value.bool false] n).toList) : BoolRow w0 g n (fun _ => false) := by
  constructor
  · rcases h.2 with ⟨h', _⟩ | ⟨g', cap', cur, h', _, hg, _, _, hs, _⟩
    · simp at h'
    · simp only [Value.slice.injEq, Option.some.injEq, Addr.mk.injEq, and_true, true_and] at h'
      obtain ⟨rfl, rfl⟩ := h'
      exact ⟨cur, 4, hg⟩
  · intro i hi
    rw [h.cellAt i (by omega), toList_madeCells_one]
    simp [hi]

/-- a row that is being filled with -1 -/
def fillTo (k : Nat) : Nat → Int := fun j => if j < k then -1 else 0
theorem fill_step (k : Nat) : upd (fillTo k) k (-1) = fillTo (k + 1) := by
  funext j
  unfold upd fillTo
  by_cases e : j = k
  · subst e; simp
  · by_cases h : j < k
    · rw [if_neg e, if_pos h, if_pos (by omega)]
    · rw [if_neg e, if_neg h, if_neg (by omega)]

/-- the edge list as the law reckons it -/
def edgeAt (nn : Nat) (F T : Nat → Int) (i : Nat) : Nat × Nat := ((F i % (nn : Int)).toNat, (T i % (nn : Int)).toNat)
def edges (nn len : Nat) (F T : Nat → Int) : List (Nat × Nat) := (List.range len).map (edgeAt nn F T)
theorem edges_get {nn len : Nat} {F T : Nat → Int} {i : Nat} (h : i < len) : (edges nn len F T)[i]? = some (edgeAt nn F T i) := by simp [edges, h]
theorem edges_next (nn k : Nat) (F T : Nat → Int) : edges nn (k + 1) F T = edges nn k F T ++ [edgeAt nn F T k] := by simp [edges, List.range_succ]
theorem edgeAt_lt {nn : Nat} (hn : 0 < nn) (F T : Nat → Int) (i : Nat) : (edgeAt nn F T i).1 < nn ∧ (edgeAt nn F T i).2 < nn := by
  have h1 := Int.emod_lt_of_pos (F i) (show (0 : Int) < nn by omega)
  have h2 := Int.emod_lt_of_pos (T i) (show (0 : Int) < nn by omega)
  have h3 := Int.emod_nonneg (F i) (show (nn : Int) ≠ 0 by omega)
  have h4 := Int.emod_nonneg (T i) (show (nn : Int) ≠ 0 by omega)
  constructor
  · show (F i % (nn : Int)).toNat < nn; omega
  · show (T i % (nn : Int)).toNat < nn; omega

/-- the input of the search -/
def mkInp (nn src len : Nat) (F T : Nat → Int) (mask limit : Int) (h : src < nn) : Inp where
  nn := nn
  src := src
  E := edges nn len F T
  mem := fun u => binB mask u
  limit := limit
  hsrc := h
  hE := by
    intro p hp
    obtain ⟨i, _, rfl⟩ := List.mem_map.1 hp
    exact edgeAt_lt (by omega) F T i

/-- the queue as it lies in memory -/
def QRow (w : World) (g : Nat) (q : List Nat) : Prop := ∀ (j t : Nat), q[j]? = some t → w.cell? ⟨g, j, none⟩ = some (.int .i64 (t : Int))
theorem QRow.kept {w w' : World} {g : Nat} {q : List Nat} {row : Option Nat} (h : QRow w g q) (hg : w.grownBy w' row) (hne : some g ≠ row) : QRow w' g q := fun j t hj => cell_kept (h j t hj) hg hne

/-- what is known behind the search -/
structure After (w wr : World) (mask : Int) (nn DB gq : Nat) (D : Nat → Int) (q : List Nat) : Prop where
  env : Env w wr mask nn
  dist : IntRow wr DB nn D
  queue : QRow wr gq q
  hDB : w.heap.size + 2 < DB
  hgq : DB < gq

theorem After.kept {w wr w' : World} {mask : Int} {nn DB gq : Nat} {D : Nat → Int} {q : List Nat} {row : Option Nat} (h : After w wr mask nn DB gq D q) (hg : wr.grownBy w' row) (hr : ∀ j, row = some j → gq < j) : After w w' mask nn DB gq D q := by
  have h1 := h.hDB
  have h2 := h.hgq
  have nb : ∀ k, k ≤ gq → some k ≠ row := fun k hk e => by have := hr k e.symm; omega
  exact ⟨h.env.kept hg (fun j hj => by have := hr j hj; omega), h.dist.kept hg (nb _ (by omega)), h.queue.kept hg (nb _ (by omega)), h1, h2⟩

theorem GraphE.graph {w : World} {EB nn src len n : Nat} {F T : Nat → Int} {mask limit : Int} {h : src < nn} {mb : Nat → Nat} {Dm : Nat → DataW Unit} (g : GraphE w EB nn mb Dm n (edges nn len F T)) : Graph w EB (mkInp nn src len F T mask limit h) mb Dm n :=
  ⟨g.cell, g.owns, g.only, g.all⟩

/-- no number of the second reckoning is large -/
def Bd (nn : Nat) (want : Nat → Int) (m : Nat) : Prop := ∀ v, v < nn → want v ≤ m
theorem Bd.mono {nn : Nat} {want : Nat → Int} {m m' : Nat} (h : Bd nn want m) (hm : m ≤ m') : Bd nn want m' := fun v hv => by have := h v hv; omega
theorem Bd.set {nn a b : Nat} {want : Nat → Int} {m : Nat} (h : Bd nn want m) (ha : a < nn) : Bd nn (upd want b (want a + 1)) (m + 1) := by
  intro v hv
  by_cases e : v = b
  · subst e; rw [upd_same]; have := h a ha; omega
  · rw [upd_other _ _ e]; have := h v hv; omega

/-- where the second reckoning stands: round r, edge k -/
structure Rec (I : Inp) (D want : Nat → Int) (r k : Nat) : Prop where
  bf : BF I D want
  up : Up I D want r
  pass : Pass I D want r k
  bd : Bd I.nn want (2000 * r + k)

theorem Rec.same {I : Inp} {D want : Nat → Int} {r k : Nat} (h : Rec I D want r k) (hp : Pass I D want r (k + 1)) : Rec I D want r (k + 1) :=
  ⟨h.bf, h.up, hp, h.bd.mono (by omega)⟩

theorem Rec.next {I : Inp} {D want : Nat → Int} {q : List Nat} {r k : Nat} (F : Bfs.Found I D q) (h : Rec I D want r k) (hk : I.E.length ≤ k) (hk' : k ≤ 1024) : Rec I D want (r + 1) 0 :=
  ⟨h.bf, up_next F h.up h.pass hk, pass_zero _, h.bd.mono (by omega)⟩

theorem rec_start {I : Inp} {D : Nat → Int} {q : List Nat} (F : Bfs.Found I D q) : Rec I D (upd (fun _ => -1) I.src 0) 0 0 := by
  refine ⟨bf_start F, up_start F, pass_zero _, ?_⟩
  intro v _
  by_cases e : v = I.src
  · rw [e, upd_same]; omega
  · rw [upd_other _ _ e]; omega

theorem Rec.set {I : Inp} {D want : Nat → Int} {q : List Nat} {r k a b : Nat} (F : Bfs.Found I D q) (h : Rec I D want r k) (he : I.E[k]? = some (a, b)) (hbs : b ≠ I.src) (h0 : 0 ≤ want a) (hmay : may I (want a)) (hm : I.mem b = true) (hlt : want b < 0 ∨ want a + 1 < want b) :
    Rec I D (upd want b (want a + 1)) r (k + 1) := by
  obtain ⟨h1, h2, h3⟩ := bf_set F h.bf h.up h.pass he hbs h0 hmay hm hlt
  exact ⟨h1, h2, h3, h.bd.set (I.hE _ (List.mem_of_getElem? he)).1⟩
end Go.Proofs.Ybulkira
