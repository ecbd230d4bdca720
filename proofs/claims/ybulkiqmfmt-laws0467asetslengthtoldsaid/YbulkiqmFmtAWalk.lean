import Derived.Test.YbulkiqmFmtRows
import Derived.WalkKit
import Derived.WalkSpells
import Derived.Laws.CopyOwn
import Derived.Deep.QuietTactic
import Derived.BigQuiet
namespace Go.Proofs.YbulkiqmFmt
open Go.RowKit

theorem Ybaf.info5 : (Ybaf.prog.info? 5).map (fun i => (i.zero, i.size, i.bytes)) = some (some (.int .u8 0), 1, 1) := by kernel_rfl
theorem Ybaf.size5 : (Ybaf.prog.info? 5).map (·.size) = some 1 := by kernel_rfl

/-- the block behind a fully made row -/
theorem row_of_owns {w : World} {base e g n : Nat} {xs : List Value} (h : w.ownsRow base e 1 (.slice (some ⟨g, 0, none⟩) n n) n xs) :
    ∃ cur : List Value, w.heap[g]? = some (.cells cur.toArray e (0, 0)) ∧ cur.length = n := by
  rcases h.2 with ⟨h', _⟩ | ⟨g', cap', cur, h', _, hg, _, _, hs, _⟩
  · simp at h'
  · simp only [Value.slice.injEq, Option.some.injEq, Addr.mk.injEq, and_true, true_and] at h'
    obtain ⟨rfl, rfl⟩ := h'
    exact ⟨cur.toList, by simpa using hg, by simpa using hs⟩

set_option maxHeartbeats 400000 in
theorem close_any (g len : Nat) (st lim : Int) (w : World) (v : Value) (h1 : 1 ≤ st) (h2 : st ≤ len) (hl : len ≤ 1024) (h3 : len - st ≤ lim) (hlim : lim ≤ 2000)
    (hc : w.cell? ⟨g, st.toNat - 1, none⟩ = some v) (hf : w.frozen? ⟨g, st.toNat - 1, none⟩ = false) :
    Calls Ybaf.prog 4 #[.slice (some ⟨g, 0, none⟩) len len, .int .i64 st, .int .i64 lim] w fun e w' => e = .returned (.slice (some ⟨g, 0, none⟩) len len) ∧
      w' = w.setCell ⟨g, st.toNat - 1, none⟩ (.int .u8 ((len - st) % 256)) := by
  go_enter Ybaf.func4, Ybaf.ntmps4
  go_wp2
  go_ret
  exact ⟨rfl, rfl⟩

set_option maxHeartbeats 400000 in
theorem walkA_main (b off len cap : Nat) (zs : List Int) (s x : Int) (w : World) (hlen : zs.length = cap) (hlc : len ≤ cap) (h0 : 0 < len) (h1 : len ≤ 1024)
    (hb : b < w.heap.size) (hc : ∀ t, t < len → w.cell? ⟨b, off + t, none⟩ = some (.int .u8 (zs.getD t 0))) (hs0 : 0 ≤ s) (hs1 : s ≤ 65535) (hx0 : 0 ≤ x) (hx1 : x ≤ 255) :
    Calls Ybaf.prog 3 #[.slice (some ⟨b, off, none⟩) len cap, .int .u16 s, .int .u8 x] w fun e w' => e = .returned (.bool true) ∧ Below w.heap.size w w' := by
  obtain ⟨i0, hi, hz0, hz1, hz2⟩ := info_parts Ybaf.info5
  have hlen0 : ((len : Int) == 0) = false := by simp; omega
  have hgt : ¬ ((1024 : Int) < (len : Int)) := by omega
  obtain ⟨X, hX⟩ : ∃ X : List Value, X = (zs.take len).map (Value.int .u8) := ⟨_, rfl⟩
  have hXl : X.length = len := by rw [hX]; simp; omega
  have hXc : ∀ j v, X[j]? = some v → w.cell? ⟨b, off + j, none⟩ = some v := by
    intro j v hv
    have hj : j < len := by rw [← hXl]; exact (List.getElem?_eq_some_iff.1 hv).1
    rw [hc j hj, ← hv, hX]; simp [hj, List.getD, show j < zs.length by omega]
  have hX1 : ∀ v ∈ X, v.oneCell' = true := by rw [hX]; exact ints_oneCell _ _
  have HX : Hid (X = (zs.take len).map (Value.int .u8)) := hX
  have HXl : Hid (X.length = len) := hXl
  have HXc : Hid (∀ j v, X[j]? = some v → w.cell? ⟨b, off + j, none⟩ = some v) := hXc
  have HX1 : Hid (∀ v ∈ X, v.oneCell' = true) := hX1
  clear hX hXl hXc hX1
  have hm0 : 0 ≤ s % (len : Int) := Int.emod_nonneg _ (by omega)
  have hm1 : s % (len : Int) < len := Int.emod_lt_of_pos _ (by omega)
  go_enter Ybaf.func3, Ybaf.ntmps3
  go_wp2_with (at_make; refine wpList_make_full _ rfl _ _ 22 rfl w.heap.size 5 i0 (.int .u8 0) 1 Ybaf.underlying22 hi hz0 hz1 _ _ _ _ len rfl rfl (by omega) (by omega) ?b2 ?b3 (Nat.le_refl _) ?_)
  case b2 => first | omega | (rw [hz2]; omega)
  case b3 => unfold maxLen; omega
  intro w0 hown0 hgrow0
  obtain ⟨cur, hcur, hcl⟩ := row_of_owns hown0
  have HC : Hid (w0.heap[w.heap.size]? = some (.cells cur.toArray 5 (0, 0))) := hcur
  have HCl : Hid (cur.length = len) := hcl
  have HB0 : Hid (Below w.heap.size w w0) := (Below.refl _ _).grown hgrow0 (Nat.le_refl _) (fun k h => by cases h)
  clear hcur hcl hown0 hgrow0
  go_wp2_with (refine wpList_copy_splice rfl (.tmp 36) (.tmp 37) 22 22 rfl 5 Ybaf.underlying22 Ybaf.size5 _ _ _ _ _ _ rfl rfl w.heap.size 0 cur 5 HC.out X ?c1 ?c2 ?c3 HX1.out w.heap.size w HB0.out (Nat.le_refl _) ?_)
  case c1 => rw [HXl.out]; simp
  case c2 =>
    intro _ j v hv
    have := HXc.out j v hv
    rw [HB0.out.cell (by exact hb)]; exact this
  case c3 => rw [HXl.out, HCl.out]; omega
  intro w2 HG2 hB2
  rw [HXl.out]
  have hspl : (splice cur 0 X).length = len := by rw [length_splice _ _ _ (by rw [HXl.out, HCl.out]; omega)]; exact HCl.out
  have hspX : splice cur 0 X = X := by
    unfold splice; rw [HXl.out, List.drop_eq_nil_of_le (by rw [HCl.out]; omega)]; simp
  have HG3 : Hid (w2.heap[w.heap.size]? = some (.cells X.toArray 5 (0, 0))) := by have := HG2.out; rw [hspX] at this; exact this
  have hcX : ∀ j, j < len → w2.cell? ⟨w.heap.size, j, none⟩ = some (.int .u8 (zs.getD j 0)) := by
    intro j hj
    rw [cell_of_row w2 w.heap.size j _ 5 (0, 0) HG3.out, HX.out]; simp [hj, List.getD, show j < zs.length by omega]
  have hfX : ∀ j, w2.frozen? ⟨w.heap.size, j, none⟩ = false := by
    intro j; simp [World.frozen?, show w2.heap[w.heap.size]? = _ from HG3.out]
  clear hspl hspX HG2
  have HcX : Hid (∀ j, j < len → w2.cell? ⟨w.heap.size, j, none⟩ = some (.int .u8 (zs.getD j 0))) := hcX
  have HfX : Hid (∀ j, w2.frozen? ⟨w.heap.size, j, none⟩ = false) := hfX
  clear hcX hfX
  go_wp2_with fail
  refine (close_any _ _ _ _ _ _ (by omega) (by omega) h1 (by omega) (by omega) (HcX.out _ (by omega)) (HfX.out _)).mono ?_
  rintro e w3 ⟨rfl, rfl⟩
  have hW : ∃ W, W = w2.setCell ⟨w.heap.size, (1 + s % (len : Int)).toNat - 1, none⟩ (.int .u8 (((len : Int) - (1 + s % (len : Int))) % 256)) := ⟨_, rfl⟩
  obtain ⟨W, hW⟩ := hW
  rw [← hW]
  have HR : Hid (∀ j : Nat, j < len → W.cell? ⟨w.heap.size, j, none⟩ = some (.int .u8 (if (j : Int) = s % (len : Int) then ((len : Int) - (1 + s % (len : Int))) % 256 else zs.getD j 0))) := by
    intro j hj
    rw [hW]
    by_cases hjm : (j : Int) = s % (len : Int)
    · have : (1 + s % (len : Int)).toNat - 1 = j := by omega
      rw [this, if_pos hjm, World.cell?_setCell_same _ _ _ (HcX.out j hj)]
    · rw [if_neg hjm, World.cell?_setCell_other _ _ _ _ (by intro h; have := congrArg Addr.off h; simp at this; omega)]
      exact HcX.out j hj
  have HB3 : Hid (Below w.heap.size w W) := by rw [hW]; exact hB2.setCell (Nat.le_refl _) _
  clear hW HcX HfX hB2 HG3 HC HCl HB0 HX HXl HXc HX1
  go_wp2
  go_loopw [12] (fun i wr => ∃ k : Nat, k ≤ len ∧ i = .int .i64 k ∧ ∃ nq, wr = W.drewN nq) (fun i _ => len - (intOf i).toNat)
  case atStart => exact ⟨0, Nat.zero_le _, rfl, 0, rfl⟩
  case round =>
    obtain ⟨k, hk, rfl, nq, rfl⟩ := hrel
    by_cases hlt : k < len
    · have hr := HR.out k hlt
      have hd : W.cell? ⟨b, off + k, none⟩ = _ := (HB3.out.cell (by exact hb)).trans (hc k hlt)
      by_cases hkm : (k : Int) = s % (len : Int)
      · rw [if_pos hkm] at hr
        have hkb : ((k : Int) == s % (len : Int)) = true := by simp [hkm]
        have HK : Hid ((k : Int) = s % (len : Int)) := hkm
        clear hkm
        go_wp2
        go_roundw
        case rel => exact ⟨k + 1, by omega, by go_num, nq, rfl⟩
        case measure => simp [intOf]; omega
      · rw [if_neg hkm] at hr
        have hkb : ((k : Int) == s % (len : Int)) = false := by simp [hkm]
        clear hkm
        go_wp2
        go_quiet (fail)
        go_wp2
        go_roundw
        case rel => exact ⟨k + 1, by omega, by go_num, _, rfl⟩
        case measure => simp [intOf]; omega
    · go_wp2
      go_ret
      exact ⟨rfl, HB3.out.trans ⟨rfl, rfl, rfl, Nat.le_refl _, fun _ _ => rfl⟩⟩

/-- a nil slice, an empty one -/
theorem walkA_empty (a : Option Addr) (cap : Nat) (s x : Int) (w : World) :
    Calls Ybaf.prog 3 #[.slice a 0 cap, .int .u16 s, .int .u8 x] w fun e w' => e = .returned (.bool true) ∧ Below w.heap.size w w' := by
  go_enter Ybaf.func3, Ybaf.ntmps3
  go_wp2
  go_ret
  exact ⟨rfl, Below.refl _ _⟩

theorem walkA_long (a : Option Addr) (len cap : Nat) (s x : Int) (w : World) (h : 1024 < len) :
    Calls Ybaf.prog 3 #[.slice a len cap, .int .u16 s, .int .u8 x] w fun e w' => e = .returned (.bool true) ∧ Below w.heap.size w w' := by
  have hgt : (1024 : Int) < (len : Int) := by omega
  go_enter Ybaf.func3, Ybaf.ntmps3
  go_wp2
  go_ret
  exact ⟨rfl, Below.refl _ _⟩

/-- a slice of integers that came in: nil, or a row of 'cap' cells -/
def IsRow (k : IntKind) (w : World) (a : Option Addr) (len cap : Nat) (zs : List Int) : Prop :=
  (a = none ∧ len = 0 ∧ cap = 0 ∧ zs = []) ∨
  ∃ x, a = some x ∧ len ≤ cap ∧ cap ≤ maxLen ∧ zs.length = cap ∧ (∀ i, i < zs.length → w.cell? (x.add i) = some (.int k (zs.getD i 0))) ∧ ∀ n ∈ zs, (Lit.int k n).wf = true

theorem walkA (a0 : Option Addr) (len0 cap0 : Nat) (z0 : List Int) (s x : Int) (w : World) (w0 : IsRow .u8 w a0 len0 cap0 z0) (hs0 : 0 ≤ s) (hs1 : s ≤ 65535) (hx0 : 0 ≤ x) (hx1 : x ≤ 255) :
    Calls Ybaf.prog 3 #[.slice a0 len0 cap0, .int .u16 s, .int .u8 x] w fun e w' => e = .returned (.bool true) ∧ Below w.heap.size w w' := by
  rcases w0 with ⟨rfl, rfl, rfl, rfl⟩ | ⟨ad, rfl, hl, hm, hz, hcell, hwz⟩
  · exact walkA_empty none 0 s x w
  · by_cases h0 : len0 = 0
    · subst h0; exact walkA_empty _ _ s x w
    · by_cases h1 : 1024 < len0
      · exact walkA_long _ _ _ s x w h1
      · obtain ⟨b, off, spot⟩ := ad
        have hc := hcell 0 (by omega)
        have hspot : spot = none := by simpa [Addr.add] using World.cell?_spot hc
        subst hspot
        refine walkA_main b off len0 cap0 z0 s x w hz hl (by omega) (by omega) (World.block_lt_of_cell? w _ hc) ?_ hs0 hs1 hx0 hx1
        intro t ht
        have := hcell t (by omega)
        rwa [Addr.add_lit] at this

end Go.Proofs.YbulkiqmFmt
