import Derived.Test.YbulkiqmCBuild
namespace Go.Proofs.Ybulkiqm
open Go.RowKit
set_option linter.unusedVariables false

theorem Yba.size67 : (Yba.prog.info? 67).map (·.size) = some 4 := by kernel_rfl

/-- the slice of strings that came in -/
def Strs (w : World) (a : Option Addr) (len : Nat) (S : Nat → ByteArray) : Prop :=
  0 < len → ∃ b off, a = some ⟨b, off, none⟩ ∧ b < w.heap.size ∧ ∀ t, t < len → w.cell? ⟨b, off + t, none⟩ = some (.string (S t))

theorem Strs.more {w w' : World} {a : Option Addr} {len : Nat} {S : Nat → ByteArray} (h : Strs w a len S) (hb : Below w.heap.size w w') : Strs w' a len S := by
  intro h0
  obtain ⟨b, off, rfl, hbl, hc⟩ := h h0
  exact ⟨b, off, rfl, Nat.lt_of_lt_of_le hbl hb.size, fun t ht => (hb.cell (p := ⟨b, off + t, none⟩) hbl).trans (hc t ht)⟩

theorem Strs.plain {w : World} {a : Option Addr} {len : Nat} {S : Nat → ByteArray} (h : Strs w a len S) : 0 < len → ∃ b off, a = some ⟨b, off, none⟩ ∧ ∀ t, t < len → w.cell? ⟨b, off + t, none⟩ = some (.string (S t)) := by
  intro h0
  obtain ⟨b, off, rfl, _, hc⟩ := h h0
  exact ⟨b, off, rfl, hc⟩

theorem firstMatch_long (a : Option Addr) (len cap : Nat) (c : ByteArray) (sel : Int) (w : World) (hl : 1024 < len) :
    Calls Yba.prog 4 #[.slice a len cap, .string c, .int .u8 sel] w fun e w' => e = .returned (.bool true) ∧ Below w.heap.size w w' := by
  have hl' : (1024 : Int) < (len : Int) := by omega
  go_enter Yba.func4, Yba.ntmps4
  go_wp2_with fail
  go_ret
  exact ⟨rfl, Below.refl _ _⟩

set_option maxHeartbeats 1000000 in
theorem firstMatch_main (a : Option Addr) (len cap : Nat) (S : Nat → ByteArray) (c : ByteArray) (sel : Int) (w : World) (hl : len ≤ 1024) (h0 : 0 ≤ sel) (h1 : sel ≤ 255) (hc : Strs w a len S) :
    Calls Yba.prog 4 #[.slice a len cap, .string c, .int .u8 sel] w fun e w' => e = .returned (.bool true) ∧ Below w.heap.size w w' := by
  have hl' : ¬ (1024 : Int) < (len : Int) := by omega
  have HC : Hid (Strs w a len S) := hc
  clear hc
  go_enter Yba.func4, Yba.ntmps4
  go_wp2_with fail
  refine (query_any _ _ _ S _ _ _ hl h0 h1 HC.out.plain).mono ?_
  rintro e w0 ⟨⟨q, rfl⟩, rfl⟩
  go_wp2_with fail
  refine (build_any _ _ _ S _ hl HC.out).mono ?_
  rintro e w1 ⟨T, rfl, hB, hGT, hTl, ht⟩
  have HB : Hid (Built w0 w1 w0.heap.size len len S) := hB
  clear hB
  go_wp2_with fail
  refine (party_any T w0.heap.size len S (fun _ => 0) q _ hl HB.out.hlt hTl ht HB.out.done).mono ?_
  rintro e w2 ⟨⟨r, hr, rfl⟩, hb2⟩
  have HR : Hid (IsFirst S len q r) := hr
  have HB2 : Hid (Below w1.heap.size w1 w2) := hb2
  have ht2 := (hb2.cell (p := ⟨T, 3, none⟩) hTl).trans ht
  clear hr hb2 ht
  go_wp2_with fail
  refine (first_any _ _ _ S _ _ hl ((HC.out.more HB.out.below).more HB2.out).plain).mono ?_
  rintro e w3 ⟨⟨r', rfl, hr'⟩, rfl⟩
  obtain rfl : r = r' := HR.out.uniq hr'
  clear hr'
  have hfin : Below w0.heap.size w0 w3 := HB.out.below.trans (HB2.out.mono HB.out.below.size)
  rcases HR.out with ⟨rfl, _⟩ | ⟨k, hk, rfl, hs, _⟩
  · rw [ptrOf_neg]
    go_wp2
    go_ret
    exact ⟨rfl, hfin⟩
  · have hP := HB.out.done k hk
    have c0 := (HB2.out.cell (p := ⟨w0.heap.size, k * 4, none⟩) HB.out.hlt).trans hP.call
    have c2 := (HB2.out.cell (p := ⟨w0.heap.size, k * 4 + 2, none⟩) HB.out.hlt).trans hP.channel
    have hst : ((S k).toList == q.toList) = true := hs
    have hE : ∀ w', (binOp .neq 62 (.pointer (some ⟨w0.heap.size, k * 4, none⟩)) (.pointer (some ⟨w0.heap.size, k * 4, none⟩))).run Yba.prog w' = .ok (.bool false) w' := fun w' => neq_ptr_same w' 62 67 _ Yba.underlying62 (info_ex Yba.size67)
    rw [ptrOf_nat]
    clear hP hs
    go_wp2
    go_ret
    exact ⟨rfl, hfin⟩
end Go.Proofs.Ybulkiqm
