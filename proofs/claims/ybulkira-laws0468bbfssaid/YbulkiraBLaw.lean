import Derived.Test.YbulkiraBSt
namespace Go.Proofs.Ybulkira
open Go.RowKit Go.Proofs.Ybulkira.Bfs
set_option linter.unusedVariables false

theorem wf_small (v : Nat) (h : v < 1000) : (Lit.int .i64 (v : Int)).wf = true := by
  exact WalkArith.wf_i64 (by omega)

set_option maxRecDepth 100000 in
theorem bfs_long (n s : Int) (a : Option Addr) (len cap : Nat) (limit mask : Int) (w : World) (hl : 1024 < len) :
    Calls Yba.prog 3 #[.int .u8 n, .int .u8 s, .slice a len cap, .int .i64 limit, .int .u32 mask] w fun e w' => e = .returned (.bool true) ∧ Below w.heap.size w w' := by
  have hl' : (1024 : Int) < (len : Int) := by omega
  go_enter Yba.func3, Yba.ntmps3
  go_wp2_with fail
  go_ret
  exact ⟨rfl, (Below.refl _ _).alloc (Nat.le_refl _) _⟩

set_option maxRecDepth 100000 in
set_option maxHeartbeats 8000000 in
theorem bfs_main (n s : Int) (a : Option Addr) (len cap : Nat) (F T : Nat → Int) (limit mask : Int) (w : World) (hl : len ≤ 1024) (n0 : 0 ≤ n) (n1 : n ≤ 255) (s0 : 0 ≤ s) (s1 : s ≤ 255) (m0 : 0 ≤ mask) (m1 : mask ≤ 4294967295)
    (hF : ∀ i, i < len → 0 ≤ F i ∧ F i ≤ 255) (hT : ∀ i, i < len → 0 ≤ T i ∧ T i ≤ 255) (hE : Pairs w a len F T) :
    Calls Yba.prog 3 #[.int .u8 n, .int .u8 s, .slice a len cap, .int .i64 limit, .int .u32 mask] w fun e w' => e = .returned (.bool true) ∧ Below w.heap.size w w' := by
  have hl' : ¬ (1024 : Int) < (len : Int) := by omega
  obtain ⟨i0, hi, hz0, hz1, hz2⟩ := info_parts Yba.info25
  obtain ⟨i3, h3, h30, h31, h32⟩ := info_parts Yba.info3
  obtain ⟨i4, h4, h40, h41, h42⟩ := info_parts Yba.info4
  have HF : Hid (∀ i, i < len → 0 ≤ F i ∧ F i ≤ 255) := hF
  have HT : Hid (∀ i, i < len → 0 ≤ T i ∧ T i ≤ 255) := hT
  have HE : Hid (Pairs w a len F T) := hE
  obtain ⟨nn, hnn⟩ : ∃ nn : Nat, 1 + n % 16 = (nn : Int) := ⟨(1 + n % 16).toNat, by omega⟩
  have hn1 : 1 ≤ nn := by omega
  have hn2 : nn ≤ 16 := by omega
  obtain ⟨src, hsrc⟩ : ∃ src : Nat, s % (nn : Int) = (src : Int) := ⟨(s % (nn : Int)).toNat, by have := Int.emod_nonneg s (show (nn : Int) ≠ 0 by omega); omega⟩
  have hsn : src < nn := by have := Int.emod_lt_of_pos s (show (0 : Int) < nn by omega); omega
  have hnz : ((nn : Int) == 0) = false := by simp; omega
  clear hF hT hE
  go_enter Yba.func3, Yba.ntmps3
  go_wp2_with (at_make; refine wpList_make_full _ rfl _ _ 24 rfl w.heap.size 25 i0 (.map none) 1 Yba.underlying24 hi hz0 hz1 _ _ _ _ nn rfl rfl rfl rfl ?b2 ?b3 ?b4 ?_)
  case b2 => first | omega | (rw [hz2]; omega)
  case b3 => unfold maxLen; omega
  case b4 => omega
  intro w0 hown0 hgrow0
  have HENV : Hid (Env w w0 mask nn) := by
    have hgz := hgrow0.size
    simp at hgz
    refine ⟨(((Below.refl _ _).alloc (Nat.le_refl _) _).alloc (by simp) _).grown hgrow0 (by simp; omega) (fun k h => by cases h), ?_, ?_, hgz⟩
    · refine cell_kept ((cell_past _ _ _ _ (by simp)).trans ?_) hgrow0 (by simp)
      exact cell_new w _ _ _
    · refine cell_kept ?_ hgrow0 (by simp)
      have h5 := cell_new (w.alloc (.cells #[.int .u32 mask] 23)) #[.int .i64 (nn : Int)] 3 0
      rw [show (w.alloc (.cells #[.int .u32 mask] 23)).heap.size = w.heap.size + 1 by simp] at h5
      exact h5
  have HMADE : Hid (Made w0 (w.heap.size + 1 + 1) nn 0 (fun _ => 0)) := made_start hown0
  clear hown0 hgrow0 hnn hsrc
  have hmm := @run_makeMap Yba.prog
  go_wp2
  go_loopw [14] (fun iv wr => ∃ (k : Nat) (mb : Nat → Nat), k ≤ nn ∧ iv = .int .i64 k ∧ Env w wr mask nn ∧ Made wr (w.heap.size + 1 + 1) nn k mb) (fun iv _ => nn - (intOf iv).toNat)
  case atStart => exact ⟨0, _, Nat.zero_le _, rfl, HENV.out, HMADE.out⟩
  case round =>
    obtain ⟨k, mb, hk, rfl, henv, hmade⟩ := hrel
    have HEN : Hid (Env w wr mask nn) := henv
    have HMA : Hid (Made wr (w.heap.size + 1 + 1) nn k mb) := hmade
    have cN := henv.cN
    clear henv hmade HENV HMADE w0
    by_cases hlt : k < nn
    · obtain ⟨v0, hv0⟩ := HMA.out.room k hlt
      have fz := frozen_of_plain HMA.out.plain k
      have hEl := HMA.out.plain.lt
      go_wp2
      go_roundw
      case rel =>
        exact ⟨k + 1, _, by omega, by go_num, (HEN.out.kept (grown_set _ _ _) (fun j hj => by cases hj; exact Nat.le_refl _)).kept (World.grownBy_alloc _ _ none) (fun j hj => by cases hj), HMA.out.step hlt⟩
      case measure => simp [intOf]; omega
    · obtain rfl : nn = k := by omega
      have HG0 : Hid (GraphE wr (w.heap.size + 1 + 1) nn mb (fun _ => .map []) 0 []) := HMA.out.graph
      have HEN0 : Hid (Env w wr mask nn) := HEN.out
      clear HMA hmm HEN
      go_wp2
      clear cN
      generalize wr = w1 at *
      go_loopw [61] (fun iv wr => ∃ (k : Nat) (Dm : Nat → DataW Unit), k ≤ len ∧ iv = .int .i64 k ∧ Env w wr mask nn ∧ GraphE wr (w.heap.size + 1 + 1) nn mb Dm k (edges nn k F T)) (fun iv _ => len - (intOf iv).toNat)
      case atStart => exact ⟨0, _, Nat.zero_le _, rfl, HEN0.out, HG0.out⟩
      case round =>
        obtain ⟨k, Dm, hk, rfl, henv, hgr⟩ := hrel
        have HEN : Hid (Env w wr mask nn) := henv
        have HG : Hid (GraphE wr (w.heap.size + 1 + 1) nn mb Dm k (edges nn k F T)) := hgr
        have cN := henv.cN
        have hsz := henv.size
        clear henv hgr HG0 HEN0 w1
        by_cases hlt : k < len
        · obtain ⟨b, off, rfl, hbl, hcs⟩ := (HE.out.more HEN.out.below) (by omega)
          obtain ⟨cF, cT⟩ := hcs k hlt
          clear hcs
          have bF := HF.out k hlt
          have bT := HT.out k hlt
          obtain ⟨aN, hA⟩ : ∃ aN : Nat, F k % (nn : Int) = (aN : Int) := ⟨(F k % (nn : Int)).toNat, by have := Int.emod_nonneg (F k) (show (nn : Int) ≠ 0 by omega); omega⟩
          obtain ⟨bN, hB⟩ : ∃ bN : Nat, T k % (nn : Int) = (bN : Int) := ⟨(T k % (nn : Int)).toNat, by have := Int.emod_nonneg (T k) (show (nn : Int) ≠ 0 by omega); omega⟩
          have hAn : aN < nn := by have := Int.emod_lt_of_pos (F k) (show (0 : Int) < nn by omega); omega
          have hBn : bN < nn := by have := Int.emod_lt_of_pos (T k) (show (0 : Int) < nn by omega); omega
          have hAn' : (aN : Int) < nn := by omega
          have hed : Hid (edgeAt nn F T k = (aN, bN)) := by show edgeAt nn F T k = (aN, bN); unfold edgeAt; rw [hA, hB]; simp
          have cE := HG.out.cell aN hAn
          have l1 : w.heap.size + 1 < wr.heap.size := by omega
          have l2 : w.heap.size + 1 + 1 < wr.heap.size := HG.out.plain.lt
          go_wp2_with (at_mapUpdate; refine wpList_mapUpdate_own _ rfl _ _ _ 25 rfl 3 30 law3 Yba.underlying25 labelR (mb aN) k (Dm aN) rfl ((HG.out.owns aN hAn).alloc _) ?cm (.int .i64 (T k % (nn : Int))) _ (.int .i64 (bN : Int)) rfl rfl ?ck (.agg []) [] (labelR_mk _ _ _ _) ?_)
          case cm => unfold maxLen; omega
          case ck => first | exact Maps.keyOf_int_mk Yba.underlying3 (wf_small bN (by omega)) | (rw [hB]; exact Maps.keyOf_int_mk Yba.underlying3 (wf_small bN (by omega)))
          intro w2 ho2 hg2
          have HG2 : Hid (GraphE w2 (w.heap.size + 1 + 1) nn mb (upd Dm aN ((Dm aN).put (.int .i64 (bN : Int)) (.agg []))) (k + 1) (edges nn (k + 1) F T)) := by
            have := (HG.out.new (World.grownBy_alloc wr (.cells #[.int .u8 (F k), .int .u8 (T k)] 27) none)).put hAn hBn ho2 hg2
            rw [edges_next, hed.out]
            exact this
          have HE2 : Hid (Env w w2 mask nn) := by
            refine (HEN.out.kept (World.grownBy_alloc wr (.cells #[.int .u8 (F k), .int .u8 (T k)] 27) none) (fun j hj => by cases hj)).kept hg2 (fun j hj => ?_)
            cases hj
            have := HG.out.low aN hAn
            omega
          clear ho2 hg2
          go_wp2
          go_roundw
          case rel => exact ⟨k + 1, _, by omega, by go_num, HE2.out, HG2.out⟩
          case measure => simp [intOf]; omega
        · obtain rfl : len = k := by omega
          go_wp2_with (at_make; refine wpList_make_full _ rfl _ _ 33 rfl w.heap.size 3 i3 (.int .i64 0) 1 Yba.underlying33 h3 h30 h31 _ _ _ _ nn rfl rfl rfl rfl ?d2 ?d3 ?d4 ?_)
          case d2 => first | omega | (rw [h32]; omega)
          case d3 => unfold maxLen; omega
          case d4 => omega
          intro w2 hown2 hgrow2
          have HR2 : Hid (IntRow w2 wr.heap.size nn (fillTo 0)) := introw_made hown2
          have HE2 : Hid (Env w w2 mask nn) := HEN.out.kept hgrow2 (fun j hj => by cases hj)
          have HG2 : Hid (GraphE w2 (w.heap.size + 1 + 1) nn mb Dm len (edges nn len F T)) := HG.out.new hgrow2
          have hDB : w.heap.size + 1 + 1 < wr.heap.size := HG.out.plain.lt
          have HDBm : Hid (∀ i, i < nn → mb i < wr.heap.size) := fun i hi => (HG.out.owns i hi).lt
          clear hown2 hgrow2 HG HEN cN hsz
          generalize wr.heap.size = DB at *
          clear wr
          go_wp2
          go_loopw [21] (fun iv wr => ∃ (k : Nat), k ≤ nn ∧ iv = .int .i64 k ∧ Env w wr mask nn ∧ GraphE wr (w.heap.size + 1 + 1) nn mb Dm len (edges nn len F T) ∧ IntRow wr DB nn (fillTo k)) (fun iv _ => nn - (intOf iv).toNat)
          case atStart => exact ⟨0, Nat.zero_le _, rfl, HE2.out, HG2.out, HR2.out⟩
          case round =>
            obtain ⟨k, hk, rfl, henv, hgr, hrow⟩ := hrel
            have HEN : Hid (Env w wr mask nn) := henv
            have HG : Hid (GraphE wr (w.heap.size + 1 + 1) nn mb Dm len (edges nn len F T)) := hgr
            have HR : Hid (IntRow wr DB nn (fillTo k)) := hrow
            have cN := henv.cN
            clear henv hgr hrow HE2 HG2 HR2 w2
            by_cases hlt : k < nn
            · have ck := HR.out.cell k hlt
              have fk := frozen_of_plain HR.out.plain k
              go_wp2
              go_roundw
              case rel =>
                have hg := grown_set wr ⟨DB, k, none⟩ (.int .i64 (-1))
                refine ⟨k + 1, by omega, by go_num, HEN.out.kept hg (fun j hj => by cases hj; show w.heap.size + 2 ≤ DB; omega), HG.out.kept hg (by simp; omega) (fun i hi => by simp; have := HDBm.out i hi; omega), ?_⟩
                rw [← fill_step]
                exact HR.out.set hlt (-1)
              case measure => simp [intOf]; omega
            · obtain rfl : nn = k := by omega
              go_wp2_with fail
              have hal := fun o => World.grownBy_alloc wr o none
              have hc : ∀ o, Calls Yba.prog 7 #[.pointer (some ⟨wr.heap.size, 0, none⟩), .int .i64 (src : Int), .slice (some ⟨w.heap.size + 1 + 1, 0, none⟩) nn nn, .int .i64 limit, .func (.func 5) #[] #[.pointer (some ⟨w.heap.size + 1, 0, none⟩), .pointer (some ⟨w.heap.size, 0, none⟩)], .slice (some ⟨DB, 0, none⟩) nn nn] (wr.alloc o)
                  fun e w' => ∃ D q v, e = .returned v ∧ Bfs.Found (mkInp nn src len F T mask limit hsn) D q ∧ IntRow w' DB nn D ∧ w'.ownsRow (wr.alloc o).heap.size 3 1 v q.length (q.map vI) ∧ (wr.alloc o).grownBy w' (some DB) := by
                intro o
                exact dist_any (mkInp nn src len F T mask limit hsn) mask wr.heap.size (w.heap.size + 1 + 1) DB (w.heap.size + 1) w.heap.size len mb Dm (wr.alloc o) rfl hn2 m0 m1 (HG.out.new (hal o)).graph
                  ((HR.out.kept (hal o) (by simp)).congr (fun i hi => by unfold fillTo; rw [if_pos hi])) (HEN.out.kept (hal o) (fun j hj => by cases hj)).cN (HEN.out.kept (hal o) (fun j hj => by cases hj)).cM (by omega) (by omega) (by omega)
              refine (hc _).mono ?_
              rintro e w4 ⟨D, q, v, rfl, hfound, hrow, hown, hgr⟩
              have HFO : Hid (Bfs.Found (mkInp nn src len F T mask limit hsn) D q) := hfound
              have hq0 : 0 < q.length := (List.getElem?_eq_some_iff.1 hfound.inv.head).1
              have hq1 : q.length ≤ nn := hfound.len
              obtain ⟨gq, capq, rfl, hgq, hcapq, hqc⟩ := owns_slice hown hq0
              simp only [World.size_alloc] at hgq
              have hDBw : DB < wr.heap.size := HR.out.plain.lt
              have hgq4 : gq < w4.heap.size := (hown.lt gq rfl).2
              have HAF : Hid (After w w4 mask nn DB gq D q) := by
                refine ⟨(HEN.out.kept (hal _) (fun j hj => by cases hj)).kept hgr (fun j hj => by cases hj; omega), hrow, ?_, by omega, by omega⟩
                intro j t hj
                exact hqc j (vI t) (by simp [hj])
              clear hc hal hfound hrow hown hgr hqc HG HR HEN cN HDBm
              have cN := HAF.out.env.cN
              have hsz4 := HAF.out.env.size
              go_wp2_with (at_make; refine wpList_make_full _ rfl _ _ 33 rfl w.heap.size 3 i3 (.int .i64 0) 1 Yba.underlying33 h3 h30 h31 _ _ _ _ nn rfl rfl rfl rfl ?f2 ?f3 ?f4 ?_)
              case f2 => first | omega | (rw [h32]; omega)
              case f3 => unfold maxLen; omega
              case f4 => omega
              intro w5 hown5 hgrow5
              have HR5 : Hid (IntRow w5 w4.heap.size nn (fillTo 0)) := introw_made hown5
              have HA5 : Hid (After w w5 mask nn DB gq D q) := HAF.out.kept hgrow5 (fun j hj => by cases hj)
              clear hown5 hgrow5 HAF cN hsz4 hDBw hgq hDB
              generalize w4.heap.size = WB at *
              generalize wr.heap.size = gg at *
              clear w4 wr
              have cN := HA5.out.env.cN
              go_wp2
              clear cN
              go_loopw [25] (fun iv wr => ∃ (k : Nat), k ≤ nn ∧ iv = .int .i64 k ∧ After w wr mask nn DB gq D q ∧ IntRow wr WB nn (fillTo k)) (fun iv _ => nn - (intOf iv).toNat)
              case atStart => exact ⟨0, Nat.zero_le _, rfl, HA5.out, HR5.out⟩
              case round =>
                obtain ⟨k, hk, rfl, haf, hrow⟩ := hrel
                have HA : Hid (After w wr mask nn DB gq D q) := haf
                have HR : Hid (IntRow wr WB nn (fillTo k)) := hrow
                have cN := haf.env.cN
                clear haf hrow HA5 HR5 w5
                by_cases hlt : k < nn
                · have ck := HR.out.cell k hlt
                  have fk := frozen_of_plain HR.out.plain k
                  go_wp2
                  go_roundw
                  case rel =>
                    have hg := grown_set wr ⟨WB, k, none⟩ (.int .i64 (-1))
                    refine ⟨k + 1, by omega, by go_num, HA.out.kept hg (fun j hj => by cases hj; exact hgq4), ?_⟩
                    rw [← fill_step]
                    exact HR.out.set hlt (-1)
                  case measure => simp [intOf]; omega
                · obtain rfl : nn = k := by omega
                  have cs := HR.out.cell src hsn
                  have fs := frozen_of_plain HR.out.plain src
                  have hsn' : (src : Int) < nn := by omega
                  have HA6 : Hid (After w (wr.setCell ⟨WB, src, none⟩ (.int .i64 0)) mask nn DB gq D q) := HA.out.kept (grown_set _ _ _) (fun j hj => by cases hj; exact hgq4)
                  have HW6 : Hid (IntRow (wr.setCell ⟨WB, src, none⟩ (.int .i64 0)) WB nn (upd (fun _ => -1) src 0)) := ((HR.out.congr (fun i hi => by unfold fillTo; rw [if_pos hi])).set hsn 0)
                  go_wp2
                  clear cs fs HR HA cN
                  generalize (wr.setCell ⟨WB, src, none⟩ (.int .i64 0)) = w6 at *
                  clear wr
                  go_loopw [26] (fun iv wr => ∃ (r : Nat) (want : Nat → Int), r ≤ nn ∧ iv = .int .i64 r ∧ After w wr mask nn DB gq D q ∧ IntRow wr WB nn want ∧ Rec (mkInp nn src len F T mask limit hsn) D want r 0) (fun iv _ => nn - (intOf iv).toNat)
                  case atStart => exact ⟨0, _, Nat.zero_le _, rfl, HA6.out, HW6.out, rec_start HFO.out⟩
                  case round =>
                    obtain ⟨r, want, hr, rfl, haf, hrow, hrec⟩ := hrel
                    have HA0 : Hid (After w wr mask nn DB gq D q) := haf
                    have HW0 : Hid (IntRow wr WB nn want) := hrow
                    have HRC0 : Hid (Rec (mkInp nn src len F T mask limit hsn) D want r 0) := hrec
                    have cN := haf.env.cN
                    clear haf hrow hrec HA6 HW6 w6
                    by_cases hlt : r < nn
                    · go_wp2
                      clear cN
                      generalize wr = w7 at *
                      go_loopw [122] (fun iv wr => ∃ (k : Nat) (want : Nat → Int), k ≤ len ∧ iv = .int .i64 k ∧ After w wr mask nn DB gq D q ∧ IntRow wr WB nn want ∧ Rec (mkInp nn src len F T mask limit hsn) D want r k) (fun iv _ => len - (intOf iv).toNat)
                      case atStart => exact ⟨0, _, Nat.zero_le _, rfl, HA0.out, HW0.out, HRC0.out⟩
                      case round =>
                        clear HA0 HW0 HRC0 w7 want
                        obtain ⟨k, want, hk, rfl, haf, hrow, hrec⟩ := hrel
                        have HA : Hid (After w wr mask nn DB gq D q) := haf
                        have HW : Hid (IntRow wr WB nn want) := hrow
                        have HRC : Hid (Rec (mkInp nn src len F T mask limit hsn) D want r k) := hrec
                        clear haf hrow hrec
                        by_cases hlt : k < len
                        · obtain ⟨b, off, rfl, hbl, hcs⟩ := (HE.out.more HA.out.env.below) (by omega)
                          obtain ⟨cF, cT⟩ := hcs k hlt
                          clear hcs
                          have bF := HF.out k hlt
                          have bT := HT.out k hlt
                          obtain ⟨aN, hAe⟩ : ∃ aN : Nat, F k % (nn : Int) = (aN : Int) := ⟨(F k % (nn : Int)).toNat, by have := Int.emod_nonneg (F k) (show (nn : Int) ≠ 0 by omega); omega⟩
                          obtain ⟨bN, hBe⟩ : ∃ bN : Nat, T k % (nn : Int) = (bN : Int) := ⟨(T k % (nn : Int)).toNat, by have := Int.emod_nonneg (T k) (show (nn : Int) ≠ 0 by omega); omega⟩
                          have hAn : aN < nn := by have := Int.emod_lt_of_pos (F k) (show (0 : Int) < nn by omega); omega
                          have hBn : bN < nn := by have := Int.emod_lt_of_pos (T k) (show (0 : Int) < nn by omega); omega
                          have hAn' : (aN : Int) < nn := by omega
                          have hBn' : (bN : Int) < nn := by omega
                          have HEK : Hid ((mkInp nn src len F T mask limit hsn).E[k]? = some (aN, bN)) := by
                            show (edges nn len F T)[k]? = some (aN, bN)
                            rw [edges_get hlt]; unfold edgeAt; rw [hAe, hBe]; simp
                          have l1 : w.heap.size + 1 < wr.heap.size := by have := HA.out.env.size; omega
                          have l0 : w.heap.size < wr.heap.size := by omega
                          have l2 : WB < wr.heap.size := HW.out.plain.lt
                          have cN := HA.out.env.cN
                          have cM := HA.out.env.cM
                          have cA := HW.out.cell aN hAn
                          have cB := HW.out.cell bN hBn
                          have fB := frozen_of_plain HW.out.plain bN
                          have gA := HRC.out.bd aN hAn
                          have gB := HRC.out.bd bN hBn
                          have nA : -1 ≤ want aN := by rcases HRC.out.bf.neg aN hAn with h | h <;> omega
                          have nB : -1 ≤ want bN := by rcases HRC.out.bf.neg bN hBn with h | h <;> omega
                          have HA1 : Hid (∀ o, After w (wr.alloc o) mask nn DB gq D q) := fun o => HA.out.kept (World.grownBy_alloc wr o none) (fun j hj => by cases hj)
                          have HW1 : Hid (∀ o, IntRow (wr.alloc o) WB nn want) := fun o => HW.out.kept (World.grownBy_alloc wr o none) (by simp)
                          by_cases hbs : bN = src
                          · have tb : ((bN : Int) == (src : Int)) = true := by simp [hbs]
                            go_wp2_with fail
                            go_roundw
                            case rel => exact ⟨k + 1, want, by omega, by go_num, HA1.out _, HW1.out _, HRC.out.same (pass_src HRC.out.up HRC.out.pass HEK.out (.inl hbs))⟩
                            case measure => simp [intOf]; omega
                          · have tb : ((bN : Int) == (src : Int)) = false := by simp; omega
                            by_cases ha0 : want aN < 0
                            · go_wp2_with fail
                              go_roundw
                              case rel => exact ⟨k + 1, want, by omega, by go_num, HA1.out _, HW1.out _, HRC.out.same (pass_src HRC.out.up HRC.out.pass HEK.out (.inr ha0))⟩
                              case measure => simp [intOf]; omega
                            · by_cases hlm : 0 ≤ limit ∧ limit ≤ want aN
                              · obtain ⟨hlm0, hlm1⟩ := hlm
                                go_wp2_with fail
                                go_roundw
                                case rel => exact ⟨k + 1, want, by omega, by go_num, HA1.out _, HW1.out _, HRC.out.same (pass_lim HRC.out.up HRC.out.pass HEK.out hlm0 hlm1)⟩
                                case measure => simp [intOf]; omega
                              · have HMY : Hid (may (mkInp nn src len F T mask limit hsn) (want aN)) := by
                                  show limit < 0 ∨ want aN < limit
                                  omega
                                have hlm' : Hid (¬ (0 ≤ limit ∧ limit ≤ want aN)) := hlm
                                clear hlm
                                go_upto_region 40 with fail
                                go_cut [29, 30, 155] (fun x y t wx => x = .int .i64 (aN : Int) ∧ y = .int .i64 (bN : Int) ∧ t = .bool false ∧ wx = (wr.alloc (.cells #[.int .u8 (F k), .int .u8 (T k)] 27)))
                                case first =>
                                  by_cases hl0 : limit < 0
                                  · go_wp2_with fail
                                    go_meet
                                    case rel => exact ⟨by first | rfl | rw [hAe], by first | rfl | rw [hBe], by first | rfl | (simp; omega), rfl⟩
                                  · have hl0' : 0 ≤ limit := by omega
                                    have hl1 : want aN < limit := by have := hlm'.out; omega
                                    go_wp2_with fail
                                    go_meet
                                    case rel => exact ⟨by first | rfl | rw [hAe], by first | rfl | rw [hBe], by first | rfl | (simp; omega), rfl⟩
                                case rest =>
                                  obtain ⟨rfl, rfl, rfl, rfl⟩ := hcut
                                  have cM1 := (HA1.out (.cells #[.int .u8 (F k), .int .u8 (T k)] 27)).env.cM
                                  have cA1 := (HW1.out (.cells #[.int .u8 (F k), .int .u8 (T k)] 27)).cell aN hAn
                                  have cB1 := (HW1.out (.cells #[.int .u8 (F k), .int .u8 (T k)] 27)).cell bN hBn
                                  have fB1 := frozen_of_plain (HW1.out (.cells #[.int .u8 (F k), .int .u8 (T k)] 27)).plain bN
                                  have HA2 : Hid (After w (wr.alloc (.cells #[.int .u8 (F k), .int .u8 (T k)] 27)) mask nn DB gq D q) := HA1.out _
                                  have HW2 : Hid (IntRow (wr.alloc (.cells #[.int .u8 (F k), .int .u8 (T k)] 27)) WB nn want) := HW1.out _
                                  clear hlm' HA1 HW1 HA HW cN cM cA cB fB cF cT hAe hBe
                                  generalize (wr.alloc (.cells #[.int .u8 (F k), .int .u8 (T k)] 27)) = w8 at *
                                  cases hmv : binB mask bN with
                                  | false =>
                                    go_wp2_with (go_at_call 6; refine (bin_any mask bN _ (by omega) m0 m1).mono ?_; rintro e w9 ⟨rfl, rfl⟩)
                                    go_roundw
                                    case rel => exact ⟨k + 1, want, by omega, by go_num, HA2.out, HW2.out, HRC.out.same (pass_mem HRC.out.pass HEK.out hmv)⟩
                                    case measure => simp [intOf]; omega
                                  | true =>
                                    have HMV : Hid (binB mask bN = true) := hmv
                                    by_cases hb0 : want bN < 0
                                    · have db : decide (want bN < 0) = true := by simpa using hb0
                                      go_wp2_with (go_at_call 6; refine (bin_any mask bN _ (by omega) m0 m1).mono ?_; rintro e w9 ⟨rfl, rfl⟩)
                                      go_quiet (fail)
                                      go_wp2
                                      go_roundw
                                      case rel =>
                                        refine ⟨k + 1, upd want bN (want aN + 1), by omega, by go_num, ?_, ?_, HRC.out.set HFO.out HEK.out hbs (by omega) HMY.out HMV.out (.inl hb0)⟩
                                        · exact (HA2.out.kept (grown_set w8 ⟨WB, bN, none⟩ (.int .i64 (want aN + 1))) (fun j hj => by cases hj; exact hgq4)).kept (grown_drewN _ _ none) (fun j hj => by cases hj)
                                        · exact (HW2.out.set hBn (want aN + 1)).kept (grown_drewN _ _ none) (by simp)
                                      case measure => simp [intOf]; omega
                                    · have db : decide (want bN < 0) = false := by simpa using hb0
                                      by_cases hb1 : want aN + 1 < want bN
                                      · have db1 : decide (want aN + 1 < want bN) = true := by simpa using hb1
                                        go_wp2_with (go_at_call 6; refine (bin_any mask bN _ (by omega) m0 m1).mono ?_; rintro e w9 ⟨rfl, rfl⟩)
                                        go_quiet (fail)
                                        go_wp2
                                        go_roundw
                                        case rel =>
                                          refine ⟨k + 1, upd want bN (want aN + 1), by omega, by go_num, ?_, ?_, HRC.out.set HFO.out HEK.out hbs (by omega) HMY.out HMV.out (.inr hb1)⟩
                                          · exact (HA2.out.kept (grown_set w8 ⟨WB, bN, none⟩ (.int .i64 (want aN + 1))) (fun j hj => by cases hj; exact hgq4)).kept (grown_drewN _ _ none) (fun j hj => by cases hj)
                                          · exact (HW2.out.set hBn (want aN + 1)).kept (grown_drewN _ _ none) (by simp)
                                        case measure => simp [intOf]; omega
                                      · have db1 : decide (want aN + 1 < want bN) = false := by simpa using hb1
                                        go_wp2_with (go_at_call 6; refine (bin_any mask bN _ (by omega) m0 m1).mono ?_; rintro e w9 ⟨rfl, rfl⟩)
                                        go_quiet (fail)
                                        go_wp2
                                        go_roundw
                                        case rel => exact ⟨k + 1, want, by omega, by go_num, HA2.out.kept (grown_drewN _ _ none) (fun j hj => by cases hj), HW2.out.kept (grown_drewN _ _ none) (by simp), HRC.out.same (pass_keep HRC.out.up HRC.out.pass HEK.out (by omega) (by omega))⟩
                                        case measure => simp [intOf]; omega
                        · obtain rfl : len = k := by omega
                          go_wp2
                          go_roundw
                          case rel => exact ⟨r + 1, want, by omega, by go_num, HA.out, HW.out, HRC.out.next HFO.out (by show (edges nn len F T).length ≤ len; simp [edges]) hl⟩
                          case measure => simp [intOf]; omega
                    · obtain rfl : nn = r := by omega
                      have HWD : Hid (IntRow wr WB nn D) := HW0.out.congr (fun i hi => (want_eq HFO.out HRC0.out.bf HRC0.out.up i hi).symm)
                      have hcl : cnt D nn = q.length := cnt_len HFO.out
                      have HCL : Hid (cnt D nn = q.length) := hcl
                      clear hcl HRC0 HW0
                      go_wp2
                      clear cN
                      generalize wr = w7 at *
                      go_loopw [31, 32] (fun cv iv wr => ∃ (k : Nat), k ≤ nn ∧ iv = .int .i64 k ∧ cv = .int .i64 (cnt D k : Nat) ∧ After w wr mask nn DB gq D q ∧ IntRow wr WB nn D) (fun _ iv _ => nn - (intOf iv).toNat)
                      case atStart => exact ⟨0, Nat.zero_le _, rfl, rfl, HA0.out, HWD.out⟩
                      case round =>
                        obtain ⟨k, hk, rfl, rfl, haf, hrow⟩ := hrel
                        have HA : Hid (After w wr mask nn DB gq D q) := haf
                        have HW : Hid (IntRow wr WB nn D) := hrow
                        have cN := haf.env.cN
                        have hcb := cnt_le D k
                        clear haf hrow HA0 HWD w7
                        by_cases hlt : k < nn
                        · have cD := HA.out.dist.cell k hlt
                          have cW := HW.out.cell k hlt
                          have hlt' : (k : Int) < nn := by omega
                          have hdd : (D k != D k) = false := by simp
                          by_cases h0 : 0 ≤ D k
                          · have HCN : Hid (cnt D (k + 1) = cnt D k + 1) := cnt_yes h0
                            go_wp2_with fail
                            go_quiet (fail)
                            go_wp2
                            go_roundw
                            case rel => exact ⟨k + 1, by omega, by go_num, by rw [HCN.out]; go_num, HA.out.kept (grown_drewN _ _ none) (fun j hj => by cases hj), HW.out.kept (grown_drewN _ _ none) (by simp)⟩
                            case measure => simp [intOf]; omega
                          · have HCN : Hid (cnt D (k + 1) = cnt D k) := cnt_no h0
                            go_wp2_with fail
                            go_quiet (fail)
                            go_wp2
                            go_roundw
                            case rel => exact ⟨k + 1, by omega, by go_num, by rw [HCN.out], HA.out.kept (grown_drewN _ _ none) (fun j hj => by cases hj), HW.out.kept (grown_drewN _ _ none) (by simp)⟩
                            case measure => simp [intOf]; omega
                        · obtain rfl : nn = k := by omega
                          rw [HCL.out]
                          clear hcb
                          have cq0 := HA.out.queue 0 src HFO.out.inv.head
                          have hq0' : (0 : Int) < q.length := by omega
                          have hqz : ((q.length : Int) == 0) = false := beq_eq_false_iff_ne.2 (by omega)
                          have hss : ((src : Int) != (src : Int)) = false := by simp
                          have hsz := HA.out.env.size
                          go_wp2_with (at_make; refine wpList_make_full _ rfl _ _ 41 rfl w.heap.size 4 i4 (.bool false) 1 Yba.underlying41 h4 h40 h41 _ _ _ _ nn rfl rfl rfl rfl ?g2 ?g3 ?g4 ?_)
                          case g2 => first | omega | (rw [h42]; omega)
                          case g3 => unfold maxLen; omega
                          case g4 => omega
                          intro w8 hown8 hgrow8
                          have HB8 : Hid (BoolRow w8 wr.heap.size nn (Bfs.seen q 0)) := by
                            have := boolrow_made hown8
                            exact ⟨this.plain, fun i hi => by rw [this.cell i hi, seen_zero]⟩
                          have HA8 : Hid (After w w8 mask nn DB gq D q) := HA.out.kept hgrow8 (fun j hj => by cases hj)
                          have hgqs : gq < wr.heap.size := by
                            exact cell_lt (HA.out.queue 0 src HFO.out.inv.head)
                          clear hown8 hgrow8 HA HW cN cq0 hsz
                          generalize wr.heap.size = SB at *
                          clear wr
                          go_wp2
                          go_loopw [34, 227] (fun pv iv wr => ∃ (k : Nat), k ≤ q.length ∧ iv = .int .i64 k ∧ pv = .int .i64 (prev D q k) ∧ After w wr mask nn DB gq D q ∧ BoolRow wr SB nn (Bfs.seen q k)) (fun _ iv _ => q.length - (intOf iv).toNat)
                          case atStart => exact ⟨0, Nat.zero_le _, rfl, rfl, HA8.out, HB8.out⟩
                          case round =>
                            obtain ⟨k, hk, rfl, rfl, haf, hrow⟩ := hrel
                            have HA : Hid (After w wr mask nn DB gq D q) := haf
                            have HB : Hid (BoolRow wr SB nn (Bfs.seen q k)) := hrow
                            have cN := haf.env.cN
                            clear haf hrow HA8 HB8 w8
                            by_cases hlt : k < q.length
                            · obtain ⟨t, ht⟩ : ∃ t, q[k]? = some t := ⟨q[k], by simp [hlt]⟩
                              have htn : t < nn := HFO.out.inv.lt t (List.mem_of_getElem? ht)
                              have htn' : (t : Int) < nn := by omega
                              have ht0 : ¬ (t : Int) < 0 := by omega
                              have cq := HA.out.queue k t ht
                              have cS := HB.out.cell t htn
                              rw [seen_new HFO.out.inv.nodup ht] at cS
                              have fS := frozen_of_plain HB.out.plain t
                              have cD := HA.out.dist.cell t htn
                              have hpv := prev_le HFO.out ht
                              have HT1 : Hid (q[k]? = some t) := ht
                              have hDS : DB ≠ SB := by have := HA.out.hgq; omega
                              clear ht
                              go_wp2
                              go_roundw
                              case rel =>
                                refine ⟨k + 1, by omega, by go_num, by rw [prev_next HT1.out], HA.out.kept (grown_set _ _ _) (fun j hj => by cases hj; exact hgqs), ?_⟩
                                rw [seen_next HT1.out]
                                exact HB.out.set htn true
                              case measure => simp [intOf]; omega
                            · go_wp2
                              go_ret
                              exact ⟨rfl, HA.out.env.below⟩
end Go.Proofs.Ybulkira
