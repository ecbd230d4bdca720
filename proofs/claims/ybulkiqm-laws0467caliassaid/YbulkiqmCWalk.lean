import Derived.Test.YbulkiqmPtr
import Derived.Deep.QuietTactic
import Derived.BigQuiet
import Derived.Deep.DeepCutAuto
import Derived.Deep.CutBlock
namespace Go.Proofs.Ybulkiqm
open Go.RowKit
set_option linter.unusedVariables false

/-- two strings read alike -/
def same (a b : ByteArray) : Bool := a.toList == b.toList

/-- r is the place of the first of the len strings S that reads as q, -1 where none does -/
def IsFirst (S : Nat → ByteArray) (len : Nat) (q : ByteArray) (r : Int) : Prop :=
  (r = -1 ∧ ∀ j, j < len → same (S j) q = false) ∨ ∃ k : Nat, k < len ∧ r = k ∧ same (S k) q = true ∧ ∀ j, j < k → same (S j) q = false

theorem IsFirst.uniq {S : Nat → ByteArray} {len : Nat} {q : ByteArray} {r r' : Int} (h : IsFirst S len q r) (h' : IsFirst S len q r') : r = r' := by
  rcases h with ⟨rfl, h⟩ | ⟨k, hk, rfl, h1, h2⟩ <;> rcases h' with ⟨rfl, h'⟩ | ⟨k', hk', rfl, h1', h2'⟩
  · rfl
  · rw [h k' hk'] at h1'; cases h1'
  · rw [h' k hk] at h1; cases h1
  · rcases Nat.lt_trichotomy k k' with hlt | he | hlt
    · rw [h2' k hlt] at h1; cases h1
    · rw [he]
    · rw [h2 k' hlt] at h1'; cases h1'

set_option maxHeartbeats 400000 in
theorem first_any (a : Option Addr) (len cap : Nat) (S : Nat → ByteArray) (q : ByteArray) (w : World) (hl : len ≤ 1024)
    (hc : 0 < len → ∃ b off, a = some ⟨b, off, none⟩ ∧ ∀ t, t < len → w.cell? ⟨b, off + t, none⟩ = some (.string (S t))) :
    Calls Yba.prog 10 #[.slice a len cap, .string q] w fun e w' => (∃ r, e = .returned (.int .i64 r) ∧ IsFirst S len q r) ∧ w' = w := by
  have HC : Hid (0 < len → ∃ b off, a = some ⟨b, off, none⟩ ∧ ∀ t, t < len → w.cell? ⟨b, off + t, none⟩ = some (.string (S t))) := hc
  clear hc
  go_enter Yba.func10, Yba.ntmps10
  go_wp2
  go_loop [5] (fun i => ∃ k : Nat, k ≤ len ∧ i = .int .i64 k ∧ Hid (∀ j, j < k → same (S j) q = false)) (fun i => len - (intOf i).toNat)
  case atStart => exact ⟨0, Nat.zero_le _, rfl, fun j hj => absurd hj (by omega)⟩
  case round =>
    obtain ⟨k, hk, rfl, hno⟩ := hrel
    by_cases hlt : k < len
    · obtain ⟨b, off, rfl, hcell⟩ := HC.out (by omega)
      have hck := hcell k hlt
      clear hcell
      by_cases hs : same (S k) q = true
      · have ht : ((S k).toList == q.toList) = true := hs
        go_wp2
        go_ret
        exact ⟨⟨k, rfl, .inr ⟨k, hlt, rfl, hs, hno.out⟩⟩, rfl⟩
      · have hs' : same (S k) q = false := by simpa using hs
        have ht : ((S k).toList == q.toList) = false := hs'
        clear hs
        go_wp2
        go_round
        case rel => exact ⟨k + 1, by omega, by go_num, fun j hj => by
          rcases Nat.lt_or_ge j k with h | h
          · exact hno.out j h
          · obtain rfl : j = k := by omega
            exact hs'⟩
        case measure => simp [intOf]; omega
    · go_wp2
      go_ret
      exact ⟨⟨-1, rfl, .inl ⟨rfl, fun j hj => hno.out j (by omega)⟩⟩, rfl⟩

set_option maxHeartbeats 400000 in
theorem query_any (a : Option Addr) (len cap : Nat) (S : Nat → ByteArray) (c : ByteArray) (sel : Int) (w : World) (hl : len ≤ 1024) (h0 : 0 ≤ sel) (h1 : sel ≤ 255)
    (hc : 0 < len → ∃ b off, a = some ⟨b, off, none⟩ ∧ ∀ t, t < len → w.cell? ⟨b, off + t, none⟩ = some (.string (S t))) :
    Calls Yba.prog 7 #[.slice a len cap, .string c, .int .u8 sel] w fun e w' => (∃ q, e = .returned (.string q)) ∧ w' = w := by
  by_cases hs : sel % 2 = 0
  · have hsb : (sel % 2 == 0) = true := by simp [hs]
    clear hs
    by_cases hp : 0 < len
    · obtain ⟨b, off, rfl, hcell⟩ := hc hp
      have hp' : (0 : Int) < len := by omega
      have m0 : 0 ≤ (sel / 2) % (len : Int) := Int.emod_nonneg _ (by omega)
      have m1 : (sel / 2) % (len : Int) < len := Int.emod_lt_of_pos _ (by omega)
      have hcm := hcell ((sel / 2) % (len : Int)).toNat (by omega)
      have hnz : ((len : Int) == 0) = false := by simp; omega
      clear hcell hc
      go_enter Yba.func7, Yba.ntmps7
      go_wp2
      go_ret
      exact ⟨⟨_, rfl⟩, rfl⟩
    · have hp' : ¬ (0 : Int) < len := by omega
      clear hc
      go_enter Yba.func7, Yba.ntmps7
      go_wp2
      go_ret
      exact ⟨⟨_, rfl⟩, rfl⟩
  · have hsb : (sel % 2 == 0) = false := by simpa using hs
    clear hs hc
    go_enter Yba.func7, Yba.ntmps7
    go_wp2
    go_ret
    exact ⟨⟨_, rfl⟩, rfl⟩

end Go.Proofs.Ybulkiqm
