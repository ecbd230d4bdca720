import Derived.Test.YbulkiqmCFirst
namespace Go.Proofs.Ybulkiqm
open Go.RowKit
set_option linter.unusedVariables false

theorem alias_long (a : Option Addr) (len cap : Nat) (c : ByteArray) (sel : Int) (w : World) (hl : 1024 < len) :
    Calls Yba.prog 5 #[.slice a len cap, .string c, .int .u8 sel] w fun e w' => e = .returned (.bool true) ∧ Below w.heap.size w w' := by
  have hl' : (1024 : Int) < (len : Int) := by omega
  go_enter Yba.func5, Yba.ntmps5
  go_wp2_with fail
  go_ret
  exact ⟨rfl, Below.refl _ _⟩

/-- the phase of party j behind the write: ringing at the place that was found -/
def phz (r : Int) (j : Nat) : Int := if (j : Int) = r then 1 else 0

structure After (w0 wx : World) (G T len : Nat) (S : Nat → ByteArray) (r : Int) : Prop where
  below : Below w0.heap.size w0 wx
  hG : G < wx.heap.size
  hT : T < wx.heap.size
  t3 : wx.cell? ⟨T, 3, none⟩ = some (.slice (some ⟨G, 0, none⟩) len len)
  party : ∀ j, j < len → Party wx G j (S j) (phz r j)

theorem after_none {w0 w3 : World} {G T len : Nat} {S : Nat → ByteArray} (hb : Below w0.heap.size w0 w3) (hG : G < w3.heap.size) (hT : T < w3.heap.size) (t3 : w3.cell? ⟨T, 3, none⟩ = some (.slice (some ⟨G, 0, none⟩) len len))
    (hp : ∀ j, j < len → Party w3 G j (S j) 0) : After w0 w3 G T len S (-1) :=
  ⟨hb, hG, hT, t3, fun j hj => by have : phz (-1) j = 0 := by unfold phz; rw [if_neg (by omega)]
                                  rw [this]; exact hp j hj⟩

theorem after_set {w0 w3 : World} {G T len k : Nat} {S : Nat → ByteArray} (hb : Below w0.heap.size w0 w3) (hG0 : w0.heap.size ≤ G) (hG : G < w3.heap.size) (hT : T < w3.heap.size) (hTG : T ≠ G) (t3 : w3.cell? ⟨T, 3, none⟩ = some (.slice (some ⟨G, 0, none⟩) len len))
    (hp : ∀ j, j < len → Party w3 G j (S j) 0) (hk : k < len) : After w0 (w3.setCell ⟨G, k * 4 + 1, none⟩ (.int .u8 1)) G T len S k := by
  refine ⟨hb.setCell hG0 _, by simpa using hG, by simpa using hT, (cell_set_other _ _ _ _ _ (.inl (Ne.symm hTG))).trans t3, fun j hj => ?_⟩
  have hpj := hp j hj
  have o0 : ∀ o, o ≠ k * 4 + 1 → (w3.setCell ⟨G, k * 4 + 1, none⟩ (.int .u8 1)).cell? ⟨G, o, none⟩ = w3.cell? ⟨G, o, none⟩ := fun o ho => cell_set_other _ _ _ _ _ (.inr (Ne.symm ho))
  refine ⟨(o0 _ (by omega)).trans hpj.call, ?_, (o0 _ (by omega)).trans hpj.channel, (o0 _ (by omega)).trans hpj.invoked⟩
  unfold phz
  by_cases h : j = k
  · subst h
    rw [if_pos rfl]
    exact World.cell?_setCell_same _ _ _ hpj.phase
  · rw [if_neg (by omega)]
    exact (o0 _ (by omega)).trans hpj.phase

set_option maxHeartbeats 2000000 in
theorem alias_main (a : Option Addr) (len cap : Nat) (S : Nat → ByteArray) (c : ByteArray) (sel : Int) (w : World) (hl : len ≤ 1024) (h0 : 0 ≤ sel) (h1 : sel ≤ 255) (hc : Strs w a len S) :
    Calls Yba.prog 5 #[.slice a len cap, .string c, .int .u8 sel] w fun e w' => e = .returned (.bool true) ∧ Below w.heap.size w w' := by
  have hl' : ¬ (1024 : Int) < (len : Int) := by omega
  have HC : Hid (Strs w a len S) := hc
  clear hc
  go_enter Yba.func5, Yba.ntmps5
  go_wp2_with fail
  refine (query_any _ _ _ S _ _ _ hl h0 h1 HC.out.plain).mono ?_
  rintro e w0 ⟨⟨q, rfl⟩, rfl⟩
  go_wp2_with fail
  refine (build_any _ _ _ S _ hl HC.out).mono ?_
  rintro e w1 ⟨T, rfl, hB, hGT, hTl, ht⟩
  have HB : Hid (Built w0 w1 w0.heap.size len len S) := hB
  clear hB
  go_wp2_with fail
  refine (party_any T w0.heap.size len S (fun _ => 0) q _ hl HB.out.hlt hTl ht HB.out.done).mono ?_
  rintro e w2 ⟨⟨r, hr, rfl⟩, hb2⟩
  have HR : Hid (IsFirst S len q r) := hr
  have HB2 : Hid (Built w0 w2 w0.heap.size len len S) := HB.out.more hb2
  have ht2 := (hb2.cell (p := ⟨T, 3, none⟩) hTl).trans ht
  have hT2 : T < w2.heap.size := Nat.lt_of_lt_of_le hTl hb2.size
  clear hr hb2 ht hTl HB
  go_wp2_with fail
  refine (first_any _ _ _ S _ _ hl (HC.out.more HB2.out.below).plain).mono ?_
  rintro e w3 ⟨⟨r', rfl, hr'⟩, rfl⟩
  obtain rfl : r = r' := HR.out.uniq hr'
  clear hr'
  go_upto_if 29 with fail
  go_cut [] (fun wx => After w0 wx w0.heap.size T len S r)
  case first =>
    rcases HR.out with ⟨rfl, _⟩ | ⟨k, hk, rfl, hs, _⟩
    · rw [ptrOf_neg]
      go_wp2
      go_meet
      case rel => exact after_none HB2.out.below HB2.out.hlt hT2 ht2 HB2.out.done
    · have cp := (HB2.out.done k hk).phase
      have fp := frozen_of_plain HB2.out.plain (k * 4 + 1)
      rw [ptrOf_nat]
      clear hs
      go_wp2
      go_meet
      case rel => exact after_set HB2.out.below HB2.out.hG HB2.out.hlt hT2 (by omega) ht2 HB2.out.done hk
  case rest =>
    have HA : Hid (After w0 wc w0.heap.size T len S r) := hcut
    have t3 := hcut.t3
    have HC3 : Hid (Strs wc a len S) := HC.out.more hcut.below
    clear hcut ht2 hT2 HB2 HR HC
    go_wp2
    go_loopw [11] (fun i wr => ∃ k : Nat, k ≤ len ∧ i = .int .i64 k ∧ Below wc.heap.size wc wr) (fun i _ => len - (intOf i).toNat)
    case atStart => exact ⟨0, Nat.zero_le _, rfl, Below.refl _ _⟩
    case round =>
      obtain ⟨k, hk, rfl, hb⟩ := hrel
      have t3r := (hb.cell (p := ⟨T, 3, none⟩) HA.out.hT).trans t3
      by_cases hlt : k < len
      · obtain ⟨b, off, rfl, hbl, hcell⟩ := (HC3.out) (by omega)
        have hck := (hb.cell (p := ⟨b, off + k, none⟩) hbl).trans (hcell k hlt)
        have hbr : b < wr.heap.size := Nat.lt_of_lt_of_le hbl hb.size
        have hP := HA.out.party k hlt
        have c0 := (hb.cell (p := ⟨w0.heap.size, k * 4, none⟩) HA.out.hG).trans hP.call
        have c1 := (hb.cell (p := ⟨w0.heap.size, k * 4 + 1, none⟩) HA.out.hG).trans hP.phase
        have c2 := (hb.cell (p := ⟨w0.heap.size, k * 4 + 2, none⟩) HA.out.hG).trans hP.channel
        have c3 := (hb.cell (p := ⟨w0.heap.size, k * 4 + 3, none⟩) HA.out.hG).trans hP.invoked
        clear hP hcell
        by_cases hkr : (k : Int) = r
        · have hkb : ((k : Int) == r) = true := by simp [hkr]
          have hph : phz r k = 1 := by unfold phz; rw [if_pos hkr]
          rw [hph] at c1
          clear hkr hph
          go_wp2
          go_quiet (fail)
          go_wp2
          go_roundw
          case rel => exact ⟨k + 1, by omega, by go_num, (hb.alloc hb.size _).trans ⟨rfl, rfl, rfl, Nat.le_refl _, fun _ _ => rfl⟩⟩
          case measure => simp [intOf]; omega
        · have hkb : ((k : Int) == r) = false := by simpa using hkr
          have hph : phz r k = 0 := by unfold phz; rw [if_neg hkr]
          rw [hph] at c1
          clear hkr hph
          go_wp2
          go_quiet (fail)
          go_wp2
          go_roundw
          case rel => exact ⟨k + 1, by omega, by go_num, (hb.alloc hb.size _).trans ⟨rfl, rfl, rfl, Nat.le_refl _, fun _ _ => rfl⟩⟩
          case measure => simp [intOf]; omega
      · go_wp2
        go_ret
        exact ⟨rfl, HA.out.below.trans (hb.mono HA.out.below.size)⟩
end Go.Proofs.Ybulkiqm
