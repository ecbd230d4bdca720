import Derived.Test.YbulkiroFmtHosts
namespace Go.Proofs.YbulkiroFmt
open Go.RowKit
set_option linter.unusedVariables false

/-- the law's own test: only reads -/
def IncOut (len : Nat) (S : Nat → ByteArray) (w : World) (e : Ending) (w' : World) : Prop :=
  Below w.heap.size w w' ∧ ((Rising S len ∧ e = .returned (.bool true)) ∨ (¬ Rising S len ∧ e = .returned (.bool false)))

set_option maxHeartbeats 1000000 in
theorem increasing_any (a : Option Addr) (len cap : Nat) (S : Nat → ByteArray) (w : World) (hl : len ≤ 1024) (hc : Strs w a len S) :
    Calls Ybaf.prog 7 #[.slice a len cap] w fun e w' => IncOut len S w e w' := by
  have HC : Hid (Strs w a len S) := hc
  clear hc
  go_enter Ybaf.func7, Ybaf.ntmps7
  go_wp2
  go_loopw [3] (fun iv wr => ∃ m : Nat, (m + 1 ≤ len ∨ m = 0) ∧ iv = .int .i64 (m : Int) ∧ Hid (∀ j, j < m → lessB (S j) (S (j + 1)) = true) ∧ Hid (Below w.heap.size w wr)) (fun iv _ => len - (intOf iv).toNat)
  case atStart => exact ⟨0, .inr rfl, rfl, fun j hj => absurd hj (by omega), Below.refl _ _⟩
  case round =>
    obtain ⟨m, hk2, rfl, hno, hres⟩ := hrel
    by_cases hlt : m + 1 < len
    · obtain ⟨b, off, rfl, hbl, hcell⟩ := HC.out (by omega)
      have ck := (hres.out.cell (p := ⟨b, off + (m + 1), none⟩) hbl).trans (hcell (m + 1) hlt)
      have cp := (hres.out.cell (p := ⟨b, off + m, none⟩) hbl).trans (hcell m (by omega))
      clear hcell
      have hlt' : (m : Int) + 1 < len := by omega
      have hlt2 : (m : Int) < len := by omega
      by_cases hle : Op.bytesLess (S m).toList (S (m + 1)).toList = true
      · go_wp2
        go_quiet (fail)
        go_wp2
        go_roundw
        case rel =>
          refine ⟨m + 1, .inl (by omega), by go_num, fun j hj => ?_, below_drewN hres.out _⟩
          rcases Nat.lt_or_ge j m with h | h
          · exact hno.out j h
          · obtain rfl : j = m := by omega
            exact hle
        case measure => simp [intOf]; omega
      · have hle' : Op.bytesLess (S m).toList (S (m + 1)).toList = false := by simpa using hle
        have HNR : Hid (¬ Rising S len) := by
          intro hr
          exact hle (hr m (by omega))
        clear hle
        go_wp2
        go_quiet (fail)
        go_wp2
        go_ret
        exact ⟨below_drewN hres.out _, .inr ⟨HNR.out, rfl⟩⟩
    · have HRI : Hid (Rising S len) := fun j hj => hno.out j (by omega)
      have hlt' : ¬ ((m : Int) + 1 < (len : Int)) := by omega
      go_wp2
      go_ret
      exact ⟨hres.out, .inl ⟨HRI.out, rfl⟩⟩

/-- a slice of strings that came in: nil, or a stretch of a block -/
def Came (w : World) (a : Option Addr) (len cap : Nat) (S : Nat → ByteArray) : Prop :=
  (a = none ∧ len = 0 ∧ cap = 0) ∨ ∃ b off, a = some ⟨b, off, none⟩ ∧ b < w.heap.size ∧ ∀ t, t < len → w.cell? ⟨b, off + t, none⟩ = some (.string (S t))

theorem Came.strs {w : World} {a : Option Addr} {len cap : Nat} {S : Nat → ByteArray} (h : Came w a len cap S) : Strs w a len S := by
  intro h0
  rcases h with ⟨_, rfl, _⟩ | h
  · cases h0
  · exact h

theorem hosts_came (a : Option Addr) (len cap : Nat) (S : Nat → ByteArray) (w : World) (hl : len ≤ 1024) (h : Came w a len cap S) :
    Calls Ybaf.prog 6 #[.slice a len cap] w fun e w' => HostsOut a len S w e w' :=
  hosts_any a len cap S w hl h.strs
    (fun ha => by
      rcases h with h | ⟨b, off, h, _⟩
      · exact h.2
      · rw [ha] at h; cases h)
    (fun x hx => by
      rcases h with h | ⟨b, off, h, hb, hc⟩
      · rw [h.1] at hx; cases hx
      · rw [hx] at h; cases h
        exact ⟨b, off, rfl, hb, hc⟩)

theorem hosts_no (a : Option Addr) (len cap : Nat) (S : Nat → ByteArray) (w : World) (hl : len ≤ 1024) (h : Came w a len cap S) (hr : ¬ Rising S len) :
    Calls Ybaf.prog 6 #[.slice a len cap] w fun e w' => ∃ p, e = .returned (.tuple #[.agg #[.slice none 0 0], .iface 66 (.pointer (some p))]) ∧ Below w.heap.size w w' :=
  (hosts_came a len cap S w hl h).mono fun e w' ⟨hb, hh⟩ => by
    rcases hh with ⟨h1, _⟩ | ⟨_, p, hp⟩
    · exact absurd h1 hr
    · exact ⟨p, hp, hb⟩

theorem hosts_nil (S : Nat → ByteArray) (w : World) :
    Calls Ybaf.prog 6 #[.slice none 0 0] w fun e w' => e = .returned (.tuple #[.agg #[.slice none 0 0], .nilIface]) ∧ Below w.heap.size w w' :=
  (hosts_came none 0 0 S w (by decide) (.inl ⟨rfl, rfl, rfl⟩)).mono fun e w' ⟨hb, hh⟩ => by
    rcases hh with ⟨_, v, he, hv⟩ | ⟨h1, _⟩
    · rcases hv with ⟨_, rfl⟩ | ⟨g, c, hn, rfl, hx⟩
      · exact ⟨he, hb⟩
      · exact absurd rfl hn
    · exact absurd (fun j hj => absurd hj (by omega)) h1

/-- the copy that NewHosts made -/
structure Copied (w w' : World) (g len : Nat) (S : Nat → ByteArray) : Prop where
  new : w.heap.size ≤ g
  block : ∃ cs t, w'.heap[g]? = some (.cells cs t (0, 0))
  cells : ∀ t, t < len → w'.cell? ⟨g, t, none⟩ = some (.string (S t))
  below : Below w.heap.size w w'

theorem hosts_yes (b off len cap : Nat) (S : Nat → ByteArray) (w : World) (hl : len ≤ 1024) (hb : b < w.heap.size) (hc : ∀ t, t < len → w.cell? ⟨b, off + t, none⟩ = some (.string (S t))) (hr : Rising S len) :
    Calls Ybaf.prog 6 #[.slice (some ⟨b, off, none⟩) len cap] w fun e w' => ∃ g c, e = .returned (.tuple #[.agg #[.slice (some ⟨g, 0, none⟩) len c], .nilIface]) ∧ Copied w w' g len S :=
  (hosts_came (some ⟨b, off, none⟩) len cap S w hl (.inr ⟨b, off, rfl, hb, hc⟩)).mono fun e w' ⟨hb, hh⟩ => by
    rcases hh with ⟨_, v, he, hv⟩ | ⟨h1, _⟩
    · rcases hv with ⟨h, _⟩ | ⟨g, c, _, rfl, hx⟩
      · cases h
      · exact ⟨g, c, he, hx.1, hx.2.1, hx.2.2, hb⟩
    · exact absurd hr h1

theorem inc_no (a : Option Addr) (len cap : Nat) (S : Nat → ByteArray) (w : World) (hl : len ≤ 1024) (h : Strs w a len S) (hr : ¬ Rising S len) :
    Calls Ybaf.prog 7 #[.slice a len cap] w fun e w' => e = .returned (.bool false) ∧ Below w.heap.size w w' :=
  (increasing_any a len cap S w hl h).mono fun e w' ⟨hb, hh⟩ => by
    rcases hh with ⟨h1, _⟩ | ⟨_, hp⟩
    · exact absurd h1 hr
    · exact ⟨hp, hb⟩

theorem inc_yes (a : Option Addr) (len cap : Nat) (S : Nat → ByteArray) (w : World) (hl : len ≤ 1024) (h : Strs w a len S) (hr : Rising S len) :
    Calls Ybaf.prog 7 #[.slice a len cap] w fun e w' => e = .returned (.bool true) ∧ Below w.heap.size w w' :=
  (increasing_any a len cap S w hl h).mono fun e w' ⟨hb, hh⟩ => by
    rcases hh with ⟨_, hp⟩ | ⟨h1, _⟩
    · exact ⟨hp, hb⟩
    · exact absurd hr h1

theorem Came.more {w w' : World} {a : Option Addr} {len cap : Nat} {S : Nat → ByteArray} (h : Came w a len cap S) (hb : Below w.heap.size w w') : Came w' a len cap S := by
  rcases h with h | ⟨b, off, rfl, hbl, hc⟩
  · exact .inl h
  · exact .inr ⟨b, off, rfl, Nat.lt_of_lt_of_le hbl hb.size, fun t ht => (hb.cell (p := ⟨b, off + t, none⟩) hbl).trans (hc t ht)⟩

theorem Ybaf.ifneq (p : Addr) (w : World) : (binOp .neq 26 (.iface 66 (.pointer (some p))) .nilIface).run Ybaf.prog w = .ok (.bool true) w := by kernel_rfl
theorem Ybaf.nilneq (w : World) : (binOp .neq 26 .nilIface .nilIface).run Ybaf.prog w = .ok (.bool false) w := by kernel_rfl
theorem Ybaf.sleq (w : World) : (binOp .eql 22 (.slice none 0 0) (.slice none 0 0)).run Ybaf.prog w = .ok (.bool true) w := by kernel_rfl

set_option maxHeartbeats 1000000 in
theorem accept_big (a : Option Addr) (len cap : Nat) (w : World) (hl : ¬ len ≤ 1024) :
    Calls Ybaf.prog 3 #[.slice a len cap] w fun e w' => e = .returned (.bool true) ∧ Below w.heap.size w w' := by
  have h1 : (1024 : Int) < (len : Int) := by omega
  go_enter Ybaf.func3, Ybaf.ntmps3
  go_wp2
  go_ret
  exact ⟨rfl, Below.refl _ _⟩

set_option maxHeartbeats 1000000 in
theorem accept_no (a : Option Addr) (len cap : Nat) (S : Nat → ByteArray) (w : World) (hl : len ≤ 1024) (h : Came w a len cap S) (hr : ¬ Rising S len) :
    Calls Ybaf.prog 3 #[.slice a len cap] w fun e w' => e = .returned (.bool true) ∧ Below w.heap.size w w' := by
  have h1 : ¬ (1024 : Int) < (len : Int) := by omega
  have k1 := Ybaf.ifneq
  have k2 := Ybaf.sleq
  have HC : Hid (Came w a len cap S) := h
  clear h
  go_enter Ybaf.func3, Ybaf.ntmps3
  go_wp2_with fail
  refine (hosts_no a len cap S w hl HC.out hr).mono ?_
  rintro e w1 ⟨p, rfl, hb1⟩
  have HB : Hid (Below w.heap.size w w1) := hb1
  have hs : w.heap.size ≤ w1.heap.size := hb1.size
  clear hb1
  go_wp2_with fail
  generalize hW : w1.alloc (.cells #[.slice none 0 0] 24) = W2 at *
  have HB2 : Hid (Below w.heap.size w W2) := by rw [← hW]; exact HB.out.alloc hs _
  have hz2 : w1.heap.size < W2.heap.size := by rw [← hW]; simp
  have c2 : W2.cell? ⟨w1.heap.size, 0, none⟩ = some (.slice none 0 0) := by rw [← hW]; exact cell_new w1 _ _ _
  clear hW HB
  refine (inc_no a len cap S W2 hl (HC.out.more HB2.out).strs hr).mono ?_
  rintro e w3 ⟨rfl, hb3⟩
  have c3 := (hb3.cell (p := ⟨w1.heap.size, 0, none⟩) hz2).trans c2
  have HB3 : Hid (Below w.heap.size w w3) := HB2.out.trans (hb3.mono (by omega))
  clear hb3 c2 HB2
  go_wp2
  go_ret
  exact ⟨rfl, HB3.out⟩

set_option maxHeartbeats 1000000 in
theorem accept_nil (S : Nat → ByteArray) (w : World) :
    Calls Ybaf.prog 3 #[.slice none 0 0] w fun e w' => e = .returned (.bool true) ∧ Below w.heap.size w w' := by
  have k1 := Ybaf.nilneq
  go_enter Ybaf.func3, Ybaf.ntmps3
  go_wp2_with fail
  refine (hosts_nil S w).mono ?_
  rintro e w1 ⟨rfl, hb1⟩
  have HB : Hid (Below w.heap.size w w1) := hb1
  have hs : w.heap.size ≤ w1.heap.size := hb1.size
  clear hb1
  go_wp2_with fail
  generalize hW : w1.alloc (.cells #[.slice none 0 0] 24) = W2 at *
  have HB2 : Hid (Below w.heap.size w W2) := by rw [← hW]; exact HB.out.alloc hs _
  have hz2 : w1.heap.size < W2.heap.size := by rw [← hW]; simp
  have c2 : W2.cell? ⟨w1.heap.size, 0, none⟩ = some (.slice none 0 0) := by rw [← hW]; exact cell_new w1 _ _ _
  clear hW HB
  refine (inc_yes none 0 0 S W2 (by decide) (fun h => absurd h (by omega)) (fun j hj => absurd hj (by omega))).mono ?_
  rintro e w3 ⟨rfl, hb3⟩
  have c3 := (hb3.cell (p := ⟨w1.heap.size, 0, none⟩) hz2).trans c2
  have HB3 : Hid (Below w.heap.size w w3) := HB2.out.trans (hb3.mono (by omega))
  clear hb3 c2 HB2
  go_wp2
  go_loopw [5] (fun iv wr => iv = .int .i64 0 ∧ w3 = wr) (fun iv _ => 0)
  case atStart => exact ⟨rfl, rfl⟩
  case round =>
    obtain ⟨rfl, rfl⟩ := hrel
    go_wp2
    go_ret
    exact ⟨rfl, HB3.out⟩

set_option maxHeartbeats 1000000 in
theorem accept_yes (b off len cap : Nat) (S : Nat → ByteArray) (w : World) (hl : len ≤ 1024) (hb : b < w.heap.size) (hc : ∀ t, t < len → w.cell? ⟨b, off + t, none⟩ = some (.string (S t))) (hr : Rising S len) :
    Calls Ybaf.prog 3 #[.slice (some ⟨b, off, none⟩) len cap] w fun e w' => e = .returned (.bool true) ∧ Below w.heap.size w w' := by
  have h1 : ¬ (1024 : Int) < (len : Int) := by omega
  have k1 := Ybaf.nilneq
  have HC : Hid (Came w (some ⟨b, off, none⟩) len cap S) := .inr ⟨b, off, rfl, hb, hc⟩
  have HCC : Hid (∀ t, t < len → w.cell? ⟨b, off + t, none⟩ = some (.string (S t))) := hc
  clear hc
  go_enter Ybaf.func3, Ybaf.ntmps3
  go_wp2_with fail
  refine (hosts_yes b off len cap S w hl hb HCC.out hr).mono ?_
  rintro e w1 ⟨g, c, rfl, hb1⟩
  have HB : Hid (Copied w w1 g len S) := hb1
  have hs : w.heap.size ≤ w1.heap.size := hb1.below.size
  have hg1 : g < w1.heap.size := by
    obtain ⟨cs, t, h⟩ := hb1.block
    exact (Array.getElem?_eq_some_iff.1 h).1
  clear hb1
  go_wp2_with fail
  generalize hW : w1.alloc (.cells #[.slice (some ⟨g, 0, none⟩) len c] 24) = W2 at *
  have HB2 : Hid (Below w.heap.size w W2) := by rw [← hW]; exact HB.out.below.alloc hs _
  have hz2 : w1.heap.size < W2.heap.size := by rw [← hW]; simp
  have c2 : W2.cell? ⟨w1.heap.size, 0, none⟩ = some (.slice (some ⟨g, 0, none⟩) len c) := by rw [← hW]; exact cell_new w1 _ _ _
  have HT2 : Hid (∀ t, t < len → W2.cell? ⟨g, t, none⟩ = some (.string (S t))) := by
    intro t ht
    rw [← hW]
    exact (cell_past w1 _ ⟨g, t, none⟩ hg1).trans (HB.out.cells t ht)
  clear hW HB
  refine (inc_yes (some ⟨b, off, none⟩) len cap S W2 hl (HC.out.more HB2.out).strs hr).mono ?_
  rintro e w3 ⟨rfl, hb3⟩
  have c3 := (hb3.cell (p := ⟨w1.heap.size, 0, none⟩) hz2).trans c2
  have HB3 : Hid (Below w.heap.size w w3) := HB2.out.trans (hb3.mono (by omega))
  have HT3 : Hid (∀ t, t < len → w3.cell? ⟨g, t, none⟩ = some (.string (S t))) := fun t ht => (hb3.cell (p := ⟨g, t, none⟩) (by simp; omega)).trans (HT2.out t ht)
  have HC3 : Hid (∀ t, t < len → w3.cell? ⟨b, off + t, none⟩ = some (.string (S t))) := fun t ht => (HB3.out.cell (p := ⟨b, off + t, none⟩) hb).trans (HCC.out t ht)
  clear hb3 c2 HB2 HT2 HCC HC
  go_wp2
  go_loopw [5] (fun iv wr => ∃ m n : Nat, m ≤ len ∧ iv = .int .i64 (m : Int) ∧ wr = w3.drewN n) (fun iv _ => len - (intOf iv).toNat)
  case atStart => exact ⟨0, 0, by omega, rfl, rfl⟩
  case round =>
    obtain ⟨m, n, hm, rfl, rfl⟩ := hrel
    by_cases hlt : m < len
    · have hlt' : (m : Int) < (len : Int) := by omega
      have c5 := HT3.out m hlt
      have c6 := HC3.out m hlt
      go_wp2
      go_quiet (fail)
      go_wp2
      go_roundw
      case rel => exact ⟨m + 1, _, hlt, by go_num, rfl⟩
      case measure => simp [intOf]; omega
    · have hlt' : ¬ (m : Int) < (len : Int) := by omega
      go_wp2
      go_ret
      exact ⟨rfl, below_drewN HB3.out _⟩

theorem accept_any (a : Option Addr) (len cap : Nat) (S : Nat → ByteArray) (w : World) (h : Came w a len cap S) :
    Calls Ybaf.prog 3 #[.slice a len cap] w fun e w' => e = .returned (.bool true) ∧ Below w.heap.size w w' := by
  by_cases hl : len ≤ 1024
  · by_cases hr : Rising S len
    · rcases h with ⟨rfl, rfl, rfl⟩ | ⟨b, off, rfl, hb, hc⟩
      · exact accept_nil S w
      · exact accept_yes b off len cap S w hl hb hc hr
    · exact accept_no a len cap S w hl h hr
  · exact accept_big a len cap w hl
end Go.Proofs.YbulkiroFmt
