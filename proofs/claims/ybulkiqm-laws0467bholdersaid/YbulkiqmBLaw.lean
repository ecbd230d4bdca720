import Derived.Test.YbulkiqmBSt
namespace Go.Proofs.Ybulkiqm
open Go.RowKit
set_option linter.unusedVariables false

set_option maxRecDepth 100000 in
set_option maxHeartbeats 4000000 in
theorem lawB (n8 k8 side mode res : Int) (w : World) (a0 : 0 ≤ n8) (a1 : n8 ≤ 255) (b0 : 0 ≤ k8) (b1 : k8 ≤ 255)
    (hs : 0 ≤ side) (hm : 0 ≤ mode) (hr : 0 ≤ res) (hs' : side ≤ 255) (hm' : mode ≤ 255) (hr' : res ≤ 255) :
    Calls Yba.prog 3 #[.int .u8 n8, .int .u8 k8, .int .u8 side, .int .u8 mode, .int .u8 res] w fun e w' => e = .returned (.bool true) ∧ Below w.heap.size w w' := by
  obtain ⟨i0, hi, hz0, hz1, hz2⟩ := info_parts Yba.info54
  obtain ⟨n, hn⟩ : ∃ n : Nat, (n : Int) = 1 + n8 % 8 := ⟨(1 + n8 % 8).toNat, by omega⟩
  have hn1 : 1 ≤ n := by omega
  have hn2 : n ≤ 8 := by omega
  have k0 : 0 ≤ k8 % (1 + n8 % 8) := Int.emod_nonneg _ (by omega)
  have k1 : k8 % (1 + n8 % 8) < 1 + n8 % 8 := Int.emod_lt_of_pos _ (by omega)
  have HN : Hid ((n : Int) = 1 + n8 % 8) := hn
  clear hn
  go_enter Yba.func3, Yba.ntmps3
  go_wp2_with (at_make; refine wpList_make_full _ rfl _ _ 23 rfl w.heap.size 54 i0 (.agg #[.pointer none, .pointer none]) 2 Yba.underlying23 hi hz0 hz1 _ _ _ _ n rfl rfl HN.out.symm HN.out.symm ?b2 ?b3 (Nat.le_refl _) ?_)
  case b2 => first | omega | (rw [hz2]; omega)
  case b3 => unfold maxLen; omega
  intro w0 hown0 hgrow0
  obtain ⟨hA, hF, hlt, hP⟩ := made_access hown0
  have HB0 : Hid (Below w.heap.size w w0) := (Below.refl _ _).grown hgrow0 (Nat.le_refl _) (fun k h => by cases h)
  clear hown0 hgrow0
  obtain ⟨q, hq⟩ : ∃ q : Nat, k8 % (1 + n8 % 8) = q := ⟨(k8 % (1 + n8 % 8)).toNat, by omega⟩
  have hqn : q < n := by have := HN.out; omega
  rw [hq, ← HN.out]
  have hA1 := hA (q * 2) (by omega)
  have hA2 := hA (q * 2 + 1) (by omega)
  have HP : Hid (PlainAt w0 w.heap.size) := hP
  clear hP hA hF hq k0 k1 a0 a1 b0 b1 
  go_upto_block 0 with fail
  go_cut [17] (fun l wx => ∃ o, (o = 11 ∨ o = 19 ∨ o = 27) ∧ l = .pointer (some ⟨w0.heap.size + 1 + 1, o, none⟩) ∧ St w wx w.heap.size w0.heap.size (w0.heap.size + 1) (w0.heap.size + 1 + 1) n q)
  case first =>
    rcases (show side % 3 = 0 ∨ side % 3 = 1 ∨ side % 3 = 2 by omega) with s0 | s0 | s0
    · go_wp2_with fail
      go_meet
      case rel => exact ⟨11, by simp, rfl, st_start _ _ _ _ _ _ HB0.out hlt hA1 hA2 HP.out rfl rfl rfl rfl rfl rfl rfl rfl rfl⟩
    · go_wp2_with fail
      go_meet
      case rel => exact ⟨19, by simp, rfl, st_start _ _ _ _ _ _ HB0.out hlt hA1 hA2 HP.out rfl rfl rfl rfl rfl rfl rfl rfl rfl⟩
    · go_wp2_with fail
      go_meet
      case rel => exact ⟨27, by simp, rfl, st_start _ _ _ _ _ _ HB0.out hlt hA1 hA2 HP.out rfl rfl rfl rfl rfl rfl rfl rfl rfl⟩
  case rest =>
    obtain ⟨o, ho, rfl, hst⟩ := hcut
    clear hA1 hA2 HP hs hs'
    go_upto_block 1 with fail
    have hU : w.heap.size < w0.heap.size := hlt
    clear HB0 hlt
    generalize w0.heap.size = U at *
    obtain ⟨f1, f2⟩ := hst.at ho
    have f3 := frozen_of_plain hst.base.pV o
    have f4 := frozen_of_plain hst.base.pV (o + 1)
    have hV := hst.base.hV
    have hn' : 0 < n := by omega
    go_cut [18] (fun want wx => ∃ L, want = .pointer L ∧ (L = none ∨ L = some ⟨U + 1 + 1, o, none⟩) ∧ Base w wx w.heap.size U (U + 1) (U + 1 + 1) n q ∧ LegOut wx w.heap.size (U + 1 + 1) n q L)
    case first =>
      have Hst : Hid (St w wc w.heap.size U (U + 1) (U + 1 + 1) n q) := hst
      have Hho : Hid (o = 11 ∨ o = 19 ∨ o = 27) := ho
      clear hst ho
      rcases (show mode % 3 = 0 ∨ mode % 3 = 1 ∨ mode % 3 = 2 by omega) with s0 | s0 | s0
      · go_wp2_with fail
        go_meet
        case rel =>
          exact ⟨_, rfl, .inr rfl, Hst.out.base.leg _ _, legout_hit (Hst.out.base.leg _ _) hn' Hho.out (leg_others Hst.out Hho.out) (leg_cells f1 f2).1 (leg_cells f1 f2).2⟩
      · go_wp2_with fail
        go_meet
        case rel =>
          exact ⟨_, rfl, .inl rfl, Hst.out.base.leg _ _, legout_channel (Hst.out.base.leg _ _) hn' Hho.out (leg_others Hst.out Hho.out) (leg_cells f1 f2).1 (leg_cells f1 f2).2⟩
      · have t0 : (mode % 3 == 0) = false := by simp; omega
        have t1 : (mode % 3 == 1) = false := by simp; omega
        clear s0
        go_wp2_with (at_make; refine wpList_make_full _ rfl _ _ 23 rfl w.heap.size 54 i0 (.agg #[.pointer none, .pointer none]) 2 Yba.underlying23 hi hz0 hz1 _ _ _ _ n rfl rfl rfl rfl ?b2x ?b3x ?b4x ?_)
        case b2x => first | omega | (rw [hz2]; omega)
        case b3x => unfold maxLen; omega
        case b4x => exact Hst.out.base.below.size
        intro w2 hown2 hgrow2
        obtain ⟨hA, hF, hlt2, hP2⟩ := made_access hown2
        have HB2 : Hid (Below wc.heap.size wc w2) := (Below.refl _ _).grown hgrow2 (Nat.le_refl _) (fun k h => by cases h)
        have HP2 : Hid (PlainAt w2 wc.heap.size) := hP2
        have g1 := (HB2.out.cell (p := ⟨U + 1 + 1, o, none⟩) hV).trans f1
        have g2 := (HB2.out.cell (p := ⟨U + 1 + 1, o + 1, none⟩) hV).trans f2
        have g3 := (HB2.out.frozen (p := ⟨U + 1 + 1, o, none⟩) hV).trans f3
        have g4 := (HB2.out.frozen (p := ⟨U + 1 + 1, o + 1, none⟩) hV).trans f4
        have g5 : U + 1 + 1 < w2.heap.size := by omega
        have g6 : U + 1 + 1 < w2.heap.size + 1 := by omega
        clear hown2 hgrow2 hA hF hP2
        go_wp2_with fail
        go_meet
        case rel =>
          have := leg_other_access wc.heap.size #[.string ⟨#[111]⟩, .slice (some ⟨wc.heap.size, 0, none⟩) n n, .pointer none, .pointer none, .int .i64 0] 27 (Hst.out.more HB2.out) hn' Hho.out hlt2 (by have := Hst.out.base.hAU; omega) HP2.out rfl
          exact ⟨none, rfl, .inl rfl, this.1, this.2⟩
    case rest =>
      obtain ⟨L, rfl, hL, hB, HLo⟩ := hcut
      clear f1 f2 f3 f4 hV hi hz0 hz1 hz2 hm hm' hst ho HN
      have HB : Hid (Base w wc w.heap.size U (U + 1) (U + 1 + 1) n q) := hB
      have HL : Hid (LegOut wc w.heap.size (U + 1 + 1) n q L) := HLo
      have f1 := hB.a0
      have f2 := hB.a1
      have f3 := frozen_of_plain hB.pA (q * 2)
      have f4 := frozen_of_plain hB.pA (q * 2 + 1)
      have f5 : w.heap.size < wc.heap.size := by have := hB.hAU; have := hB.hV; omega
      have hE1 : ∀ w', (binOp .eql 28 (.pointer (some ⟨U + 1 + 1, 0, none⟩)) (.pointer (some ⟨U + 1 + 1, 0, none⟩))).run Yba.prog w' = .ok (.bool true) w' := fun w' => eql_ptr_same w' 28 51 _ Yba.underlying28 (info_ex Yba.size51)
      clear hB HLo
      rcases (show res % 3 = 0 ∨ res % 3 = 1 ∨ res % 3 = 2 by omega) with s0 | s0 | s0
      · go_wp2_with fail
        refine (holder0 HB.out hqn hn2 HL.out).mono ?_
        rintro e w5 ⟨rfl, hb5⟩
        rcases hL with rfl | rfl
        · go_wp2_with fail
          go_ret
          exact ⟨rfl, ((HB.out.below.setCell (Nat.le_refl _) _).setCell (Nat.le_refl _) _).trans (hb5.mono (by omega))⟩
        · have hE2 : ∀ w', (binOp .eql 52 (.pointer (some ⟨U + 1 + 1, o, none⟩)) (.pointer (some ⟨U + 1 + 1, o, none⟩))).run Yba.prog w' = .ok (.bool true) w' := fun w' => eql_ptr_same w' 52 45 _ Yba.underlying52 (info_ex Yba.size45)
          go_wp2_with fail
          go_ret
          exact ⟨rfl, ((HB.out.below.setCell (Nat.le_refl _) _).setCell (Nat.le_refl _) _).trans (hb5.mono (by omega))⟩
      · go_wp2_with fail
        refine (holder1 _ _ HB.out hqn hn2).mono ?_
        rintro e w5 ⟨rfl, hb5⟩
        go_wp2_with fail
        go_ret
        exact ⟨rfl, (((HB.out.below.setCell (Nat.le_refl _) _).setCell (Nat.le_refl _) _).alloc (by simp; omega) _).trans (hb5.mono (by omega))⟩
      · go_wp2_with fail
        refine (holder2 HB.out hqn hn2).mono ?_
        rintro e w5 ⟨rfl, hb5⟩
        go_wp2_with fail
        go_ret
        exact ⟨rfl, (HB.out.below.setCell (Nat.le_refl _) _).trans (hb5.mono (by omega))⟩
end Go.Proofs.Ybulkiqm
