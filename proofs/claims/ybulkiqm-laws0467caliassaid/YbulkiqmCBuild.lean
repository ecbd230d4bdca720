import Derived.Test.YbulkiqmCWalk
import Derived.Test.YbulkiqmBSt
namespace Go.Proofs.Ybulkiqm
open Go.RowKit
set_option linter.unusedVariables false

theorem Yba.info67 : (Yba.prog.info? 67).map (fun i => (i.zero, i.size, i.bytes)) = some (some (.agg #[.string ⟨#[]⟩, .int .u8 0, .int .i64 0, .bool false]), 4, 40) := by kernel_rfl

/-- the four cells of party j -/
structure Party (w : World) (G j : Nat) (s : ByteArray) (ph : Int) : Prop where
  call : w.cell? ⟨G, j * 4, none⟩ = some (.string s)
  phase : w.cell? ⟨G, j * 4 + 1, none⟩ = some (.int .u8 ph)
  channel : w.cell? ⟨G, j * 4 + 2, none⟩ = some (.int .i64 ((j : Int) + 1))
  invoked : w.cell? ⟨G, j * 4 + 3, none⟩ = some (.bool false)

/-- where the row of parties stands behind k rounds of the build -/
structure Built (w wr : World) (G len k : Nat) (S : Nat → ByteArray) : Prop where
  below : Below w.heap.size w wr
  hG : w.heap.size ≤ G
  hlt : G < wr.heap.size
  plain : PlainAt wr G
  room : ∀ o, o < len * 4 → ∃ v, wr.cell? ⟨G, o, none⟩ = some v
  done : ∀ j, j < k → Party wr G j (S j) 0

theorem room_made {w0 : World} {base g n : Nat} {xs : List Value} (h : w0.ownsRow base 67 4 (.slice (some ⟨g, 0, none⟩) n n) n xs) :
    (∀ o, o < n * 4 → ∃ v, w0.cell? ⟨g, o, none⟩ = some v) ∧ g < w0.heap.size ∧ PlainAt w0 g := by
  rcases h.2 with ⟨h', _⟩ | ⟨g', cap', cur, h', _, hg, _, _, hs, _⟩
  · simp at h'
  · simp only [Value.slice.injEq, Option.some.injEq, Addr.mk.injEq, and_true, true_and] at h'
    obtain ⟨rfl, rfl⟩ := h'
    refine ⟨fun o ho => ?_, (Array.getElem?_eq_some_iff.1 hg).1, cur, 67, hg⟩
    rw [cell_of_row w0 g o cur 67 (0, 0) hg]
    exact ⟨cur[o], by simp [show o < cur.size by omega]⟩

theorem set4_other {w : World} {G p b o : Nat} {x0 x1 x2 x3 : Value} (h : b ≠ G ∨ o < p ∨ p + 3 < o) :
    ((((w.setCell ⟨G, p, none⟩ x0).setCell ⟨G, p + 1, none⟩ x1).setCell ⟨G, p + 2, none⟩ x2).setCell ⟨G, p + 3, none⟩ x3).cell? ⟨b, o, none⟩ = w.cell? ⟨b, o, none⟩ := by
  rw [cell_set_other _ _ _ _ _ (by show G ≠ b ∨ p + 3 ≠ o; omega), cell_set_other _ _ _ _ _ (by show G ≠ b ∨ p + 2 ≠ o; omega), cell_set_other _ _ _ _ _ (by show G ≠ b ∨ p + 1 ≠ o; omega), cell_set_other _ _ _ _ _ (by show G ≠ b ∨ p ≠ o; omega)]

theorem set4_own {w : World} {G p : Nat} {x0 x1 x2 x3 v0 v1 v2 v3 : Value} (h0 : w.cell? ⟨G, p, none⟩ = some v0) (h1 : w.cell? ⟨G, p + 1, none⟩ = some v1) (h2 : w.cell? ⟨G, p + 2, none⟩ = some v2) (h3 : w.cell? ⟨G, p + 3, none⟩ = some v3) :
    ((((w.setCell ⟨G, p, none⟩ x0).setCell ⟨G, p + 1, none⟩ x1).setCell ⟨G, p + 2, none⟩ x2).setCell ⟨G, p + 3, none⟩ x3).cell? ⟨G, p, none⟩ = some x0 ∧
    ((((w.setCell ⟨G, p, none⟩ x0).setCell ⟨G, p + 1, none⟩ x1).setCell ⟨G, p + 2, none⟩ x2).setCell ⟨G, p + 3, none⟩ x3).cell? ⟨G, p + 1, none⟩ = some x1 ∧
    ((((w.setCell ⟨G, p, none⟩ x0).setCell ⟨G, p + 1, none⟩ x1).setCell ⟨G, p + 2, none⟩ x2).setCell ⟨G, p + 3, none⟩ x3).cell? ⟨G, p + 2, none⟩ = some x2 ∧
    ((((w.setCell ⟨G, p, none⟩ x0).setCell ⟨G, p + 1, none⟩ x1).setCell ⟨G, p + 2, none⟩ x2).setCell ⟨G, p + 3, none⟩ x3).cell? ⟨G, p + 3, none⟩ = some x3 := by
  refine ⟨?_, ?_, ?_, ?_⟩
  · rw [cell_set_other _ _ _ _ _ (.inr (by simp)), cell_set_other _ _ _ _ _ (.inr (by simp)), cell_set_other _ _ _ _ _ (.inr (by simp))]
    exact World.cell?_setCell_same _ _ _ h0
  · rw [cell_set_other _ _ _ _ _ (.inr (by simp)), cell_set_other _ _ _ _ _ (.inr (by simp))]
    exact World.cell?_setCell_same _ _ _ ((cell_set_other _ _ _ _ _ (.inr (by simp))).trans h1)
  · rw [cell_set_other _ _ _ _ _ (.inr (by simp))]
    exact World.cell?_setCell_same _ _ _ ((cell_set_other _ _ _ _ _ (.inr (by simp))).trans ((cell_set_other _ _ _ _ _ (.inr (by simp))).trans h2))
  · exact World.cell?_setCell_same _ _ _ ((cell_set_other _ _ _ _ _ (.inr (by simp))).trans ((cell_set_other _ _ _ _ _ (.inr (by simp))).trans ((cell_set_other _ _ _ _ _ (.inr (by simp))).trans h3)))

theorem Built.step {w wr : World} {G len k : Nat} {S : Nat → ByteArray} (h : Built w wr G len k S) (hk : k < len) :
    Built w ((((wr.setCell ⟨G, k * 4, none⟩ (.string (S k))).setCell ⟨G, k * 4 + 1, none⟩ (.int .u8 0)).setCell ⟨G, k * 4 + 2, none⟩ (.int .i64 ((k : Int) + 1))).setCell ⟨G, k * 4 + 3, none⟩ (.bool false)) G len (k + 1) S := by
  obtain ⟨v0, e0⟩ := h.room (k * 4) (by omega)
  obtain ⟨v1, e1⟩ := h.room (k * 4 + 1) (by omega)
  obtain ⟨v2, e2⟩ := h.room (k * 4 + 2) (by omega)
  obtain ⟨v3, e3⟩ := h.room (k * 4 + 3) (by omega)
  obtain ⟨c0, c1, c2, c3⟩ := set4_own (x0 := .string (S k)) (x1 := .int .u8 0) (x2 := .int .i64 ((k : Int) + 1)) (x3 := .bool false) e0 e1 e2 e3
  have hG := h.hG
  refine ⟨(((h.below.setCell hG _).setCell hG _).setCell hG _).setCell hG _, hG, by simpa using h.hlt, (((h.plain.setCell _ _).setCell _ _).setCell _ _).setCell _ _, ?_, ?_⟩
  · intro o ho
    rcases (show o < k * 4 ∨ k * 4 + 3 < o ∨ o = k * 4 ∨ o = k * 4 + 1 ∨ o = k * 4 + 2 ∨ o = k * 4 + 3 by omega) with h' | h' | rfl | rfl | rfl | rfl
    · rw [set4_other (.inr (.inl h'))]; exact h.room o ho
    · rw [set4_other (.inr (.inr h'))]; exact h.room o ho
    · exact ⟨_, c0⟩
    · exact ⟨_, c1⟩
    · exact ⟨_, c2⟩
    · exact ⟨_, c3⟩
  · intro j hj
    rcases Nat.lt_or_ge j k with h' | h'
    · have hp := h.done j h'
      exact ⟨(set4_other (.inr (.inl (by omega)))).trans hp.call, (set4_other (.inr (.inl (by omega)))).trans hp.phase, (set4_other (.inr (.inl (by omega)))).trans hp.channel, (set4_other (.inr (.inl (by omega)))).trans hp.invoked⟩
    · obtain rfl : j = k := by omega
      exact ⟨c0, c1, c2, c3⟩

theorem Built.more {w wr w' : World} {G len k : Nat} {S : Nat → ByteArray} (h : Built w wr G len k S) (hb : Below wr.heap.size wr w') : Built w w' G len k S := by
  have c : ∀ o, w'.cell? ⟨G, o, none⟩ = wr.cell? ⟨G, o, none⟩ := fun o => hb.cell (p := ⟨G, o, none⟩) h.hlt
  refine ⟨h.below.trans (hb.mono h.below.size), h.hG, Nat.lt_of_lt_of_le h.hlt hb.size, plain_later hb h.plain, fun o ho => by rw [c]; exact h.room o ho, fun j hj => ?_⟩
  have hp := h.done j hj
  exact ⟨(c _).trans hp.call, (c _).trans hp.phase, (c _).trans hp.channel, (c _).trans hp.invoked⟩

set_option maxRecDepth 100000 in
set_option maxHeartbeats 1000000 in
theorem build_any (a : Option Addr) (len cap : Nat) (S : Nat → ByteArray) (w : World) (hl : len ≤ 1024)
    (hc : 0 < len → ∃ b off, a = some ⟨b, off, none⟩ ∧ b < w.heap.size ∧ ∀ t, t < len → w.cell? ⟨b, off + t, none⟩ = some (.string (S t))) :
    Calls Yba.prog 8 #[.slice a len cap] w fun e w' => ∃ T, e = .returned (.pointer (some ⟨T, 0, none⟩)) ∧ Built w w' w.heap.size len len S ∧ w.heap.size < T ∧ T < w'.heap.size ∧ w'.cell? ⟨T, 3, none⟩ = some (.slice (some ⟨w.heap.size, 0, none⟩) len len) := by
  obtain ⟨i0, hi, hz0, hz1, hz2⟩ := info_parts Yba.info67
  have HC : Hid (0 < len → ∃ b off, a = some ⟨b, off, none⟩ ∧ b < w.heap.size ∧ ∀ t, t < len → w.cell? ⟨b, off + t, none⟩ = some (.string (S t))) := hc
  clear hc
  go_enter Yba.func8, Yba.ntmps8
  go_wp2_with (at_make; refine wpList_make_full _ rfl _ _ 72 rfl w.heap.size 67 i0 (.agg #[.string ⟨#[]⟩, .int .u8 0, .int .i64 0, .bool false]) 4 Yba.underlying72 hi hz0 hz1 _ _ _ _ len rfl rfl rfl rfl ?b2 ?b3 (Nat.le_refl _) ?_)
  case b2 => first | omega | (rw [hz2]; omega)
  case b3 => unfold maxLen; omega
  intro w0 hown0 hgrow0
  obtain ⟨hR, hlt0, hP⟩ := room_made hown0
  have HB0 : Hid (Built w w0 w.heap.size len 0 S) := ⟨(Below.refl _ _).grown hgrow0 (Nat.le_refl _) (fun k h => by cases h), Nat.le_refl _, hlt0, hP, hR, fun j hj => absurd hj (by omega)⟩
  clear hown0 hgrow0 hR hlt0 hP hi hz0 hz1 hz2
  go_wp2
  go_loopw [4] (fun i wr => ∃ k : Nat, k ≤ len ∧ i = .int .i64 k ∧ Built w wr w.heap.size len k S) (fun i _ => len - (intOf i).toNat)
  case atStart => exact ⟨0, Nat.zero_le _, rfl, HB0.out⟩
  case round =>
    obtain ⟨k, hk, rfl, hB⟩ := hrel
    have HB : Hid (Built w wr w.heap.size len k S) := hB
    clear hB
    by_cases hlt : k < len
    · obtain ⟨b, off, rfl, hb, hcell⟩ := HC.out (by omega)
      have hck := (HB.out.below.cell (p := ⟨b, off + k, none⟩) hb).trans (hcell k hlt)
      obtain ⟨v0, e0⟩ := HB.out.room (k * 4) (by omega)
      obtain ⟨v1, e1⟩ := HB.out.room (k * 4 + 1) (by omega)
      obtain ⟨v2, e2⟩ := HB.out.room (k * 4 + 2) (by omega)
      obtain ⟨v3, e3⟩ := HB.out.room (k * 4 + 3) (by omega)
      have f0 := frozen_of_plain HB.out.plain (k * 4)
      have f1 := frozen_of_plain HB.out.plain (k * 4 + 1)
      have f2 := frozen_of_plain HB.out.plain (k * 4 + 2)
      have f3 := frozen_of_plain HB.out.plain (k * 4 + 3)
      clear hcell
      go_wp2
      go_roundw
      case rel => 
        exact ⟨k + 1, by omega, by go_num, HB.out.step hlt⟩
      case measure => simp [intOf]; omega
    · obtain rfl : k = len := by omega
      go_wp2
      go_ret
      have hb := (Below.refl wr.heap.size wr).alloc (Nat.le_refl _) (.cells #[.pointer none, .pointer none, .slice none 0 0, .slice (some ⟨w.heap.size, 0, none⟩) k k, .bool false] 74)
      exact ⟨wr.heap.size, rfl, HB.out.more hb, HB.out.hlt, by simp, cell_new _ _ _ _⟩

set_option maxHeartbeats 400000 in
theorem eqcall_any (s q : ByteArray) (ph c : Int) (iv : Bool) (Q : Nat) (w : World) (hQ : Q < w.heap.size) (hq : w.cell? ⟨Q, 0, none⟩ = some (.string q)) :
    Calls Yba.prog 16 #[.agg #[.string s, .int .u8 ph, .int .i64 c, .bool iv], .pointer (some ⟨Q, 0, none⟩)] w fun e w' => e = .returned (.bool (same s q)) ∧ Below w.heap.size w w' := by
  go_enter Yba.func16, Yba.ntmps16
  go_wp2
  go_ret
  exact ⟨rfl, (Below.refl _ _).alloc (Nat.le_refl _) _⟩

set_option maxHeartbeats 1000000 in
theorem index_any (G Q len : Nat) (S : Nat → ByteArray) (ph : Nat → Int) (q : ByteArray) (w : World) (hl : len ≤ 1024) (hG : G < w.heap.size) (hQ : Q < w.heap.size) (hq : w.cell? ⟨Q, 0, none⟩ = some (.string q))
    (hp : ∀ j, j < len → Party w G j (S j) (ph j)) :
    Calls Yba.prog 15 #[.slice (some ⟨G, 0, none⟩) len len, .func (.func 16) #[] #[.pointer (some ⟨Q, 0, none⟩)]] w fun e w' => (∃ r, e = .returned (.int .i64 r) ∧ IsFirst S len q r) ∧ Below w.heap.size w w' := by
  have HP : Hid (∀ j, j < len → Party w G j (S j) (ph j)) := hp
  clear hp
  go_enter Yba.func15, Yba.ntmps15
  go_wp2
  go_loopw [8] (fun i wr => ∃ k : Nat, k ≤ len ∧ i = .int .i64 k ∧ Hid (∀ j, j < k → same (S j) q = false) ∧ Below w.heap.size w wr) (fun i _ => len - (intOf i).toNat)
  case atStart => exact ⟨0, Nat.zero_le _, rfl, fun j hj => absurd hj (by omega), Below.refl _ _⟩
  case round =>
    obtain ⟨k, hk, rfl, hno, hb⟩ := hrel
    by_cases hlt : k < len
    · have hpk := HP.out k hlt
      have c0 := (hb.cell (p := ⟨G, k * 4, none⟩) hG).trans hpk.call
      have c1 := (hb.cell (p := ⟨G, k * 4 + 1, none⟩) hG).trans hpk.phase
      have c2 := (hb.cell (p := ⟨G, k * 4 + 2, none⟩) hG).trans hpk.channel
      have c3 := (hb.cell (p := ⟨G, k * 4 + 3, none⟩) hG).trans hpk.invoked
      have cq := (hb.cell (p := ⟨Q, 0, none⟩) hQ).trans hq
      have hQr : Q < wr.heap.size := Nat.lt_of_lt_of_le hQ hb.size
      clear hpk
      go_wp2_with fail
      refine (eqcall_any _ _ _ _ _ _ _ hQr cq).mono ?_
      rintro e w1 ⟨rfl, hb1⟩
      by_cases hs : same (S k) q = true
      · rw [hs]
        go_wp2
        go_ret
        exact ⟨⟨k, rfl, .inr ⟨k, hlt, rfl, hs, hno.out⟩⟩, hb.trans (hb1.mono hb.size)⟩
      · have hs' : same (S k) q = false := by simpa using hs
        rw [hs']
        clear hs
        go_wp2
        go_roundw
        case rel => exact ⟨k + 1, by omega, by go_num, fun j hj => by
          rcases Nat.lt_or_ge j k with h | h
          · exact hno.out j h
          · obtain rfl : j = k := by omega
            exact hs', hb.trans (hb1.mono hb.size)⟩
        case measure => simp [intOf]; omega
    · go_wp2
      go_ret
      exact ⟨⟨-1, rfl, .inl ⟨rfl, fun j hj => hno.out j (by omega)⟩⟩, hb⟩

set_option maxHeartbeats 1000000 in
theorem find_any (T G len : Nat) (S : Nat → ByteArray) (ph : Nat → Int) (q : ByteArray) (w : World) (hl : len ≤ 1024) (hG : G < w.heap.size) (hT : T < w.heap.size) (ht : w.cell? ⟨T, 3, none⟩ = some (.slice (some ⟨G, 0, none⟩) len len))
    (hp : ∀ j, j < len → Party w G j (S j) (ph j)) :
    Calls Yba.prog 12 #[.pointer (some ⟨T, 0, none⟩), .string q] w fun e w' => (∃ r, e = .returned (.int .i64 r) ∧ IsFirst S len q r) ∧ Below w.heap.size w w' := by
  have HP : Hid (∀ j, j < len → Party w G j (S j) (ph j)) := hp
  clear hp
  go_enter Yba.func12, Yba.ntmps12
  go_wp2_with fail
  have hb0 := (Below.refl w.heap.size w).alloc (Nat.le_refl _) (.cells #[.string q] 9)
  refine (index_any G w.heap.size len S ph q _ hl (by simp; omega) (by simp) (cell_new _ _ _ _) ?_).mono ?_
  · intro j hj
    have hpj := HP.out j hj
    exact ⟨(hb0.cell (p := ⟨G, j * 4, none⟩) hG).trans hpj.call, (hb0.cell (p := ⟨G, j * 4 + 1, none⟩) hG).trans hpj.phase, (hb0.cell (p := ⟨G, j * 4 + 2, none⟩) hG).trans hpj.channel, (hb0.cell (p := ⟨G, j * 4 + 3, none⟩) hG).trans hpj.invoked⟩
  rintro e w1 ⟨⟨r, rfl, hr⟩, hb1⟩
  have HR : Hid (IsFirst S len q r) := hr
  clear hr
  go_wp2
  go_ret
  exact ⟨⟨r, rfl, HR.out⟩, hb0.trans (hb1.mono (by simp))⟩

/-- the pointer to party r, nil at -1 -/
def ptrOf (G : Nat) (r : Int) : Option Addr := if r < 0 then none else some ⟨G, r.toNat * 4, none⟩
theorem ptrOf_nat (G k : Nat) : ptrOf G k = some ⟨G, k * 4, none⟩ := by unfold ptrOf; rw [if_neg (by omega), Int.toNat_natCast]
theorem ptrOf_neg (G : Nat) : ptrOf G (-1) = none := rfl

set_option maxHeartbeats 1000000 in
theorem party_any (T G len : Nat) (S : Nat → ByteArray) (ph : Nat → Int) (q : ByteArray) (w : World) (hl : len ≤ 1024) (hG : G < w.heap.size) (hT : T < w.heap.size) (ht : w.cell? ⟨T, 3, none⟩ = some (.slice (some ⟨G, 0, none⟩) len len))
    (hp : ∀ j, j < len → Party w G j (S j) (ph j)) :
    Calls Yba.prog 9 #[.pointer (some ⟨T, 0, none⟩), .string q] w fun e w' => (∃ r, IsFirst S len q r ∧ e = .returned (.pointer (ptrOf G r))) ∧ Below w.heap.size w w' := by
  have HP : Hid (∀ j, j < len → Party w G j (S j) (ph j)) := hp
  clear hp
  go_enter Yba.func9, Yba.ntmps9
  go_wp2_with fail
  refine (find_any T G len S ph q _ hl hG hT ht HP.out).mono ?_
  rintro e w1 ⟨⟨r, rfl, hr⟩, hb1⟩
  have HR : Hid (IsFirst S len q r) := hr
  rcases hr with ⟨rfl, _⟩ | ⟨k, hk, rfl, _, _⟩
  · go_wp2
    go_ret
    exact ⟨⟨-1, HR.out, rfl⟩, hb1⟩
  · have ht1 := (hb1.cell (p := ⟨T, 3, none⟩) hT).trans ht
    go_wp2
    go_ret
    refine ⟨⟨k, HR.out, ?_⟩, hb1⟩
    rw [ptrOf_nat]
    rfl
end Go.Proofs.Ybulkiqm
