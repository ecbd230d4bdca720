import Derived.Test.YbulkiraRView
namespace Go.Proofs.Ybulkira
open Go.RowKit
set_option linter.unusedVariables false
set_option linter.unusedSimpArgs false
attribute [local go_sem ↓] Go.wp_at_zero Go.wp_at_succ

theorem del_nil (p : Nat) (f : Bool) : del p f [] = [] := by cases f <;> rfl

theorem bytes_append (a b : ByteArray) : (a ++ b).toList = a.toList ++ b.toList := by
  rw [ByteArray.toList_eq, ByteArray.toList_eq, ByteArray.toList_eq]
  simp

set_option maxRecDepth 100000 in
set_option maxHeartbeats 8000000 in
theorem law_walk (c q s : Nat) (a3 : Bool) (hc : c < 65536) (hq : q < 65536) (hs : s < 256) (w : World) :
    Calls Yba.prog 4 #[.int .u16 (c : Int), .int .u16 (q : Int), .int .u8 (s : Int), .bool a3] w fun e w' => e = .returned (.bool true) ∧ Below w.heap.size w w' := by
  obtain ⟨i0, hi0, hz0, hz1, hz2⟩ := info_parts Yba.info57
  obtain ⟨n, hn⟩ : ∃ n : Nat, (c : Int) % 8 * 50 + (c : Int) / 8 % 50 = (n : Int) := ⟨c % 8 * 50 + c / 8 % 50, by omega⟩
  have hn4 : n < 400 := by omega
  obtain ⟨ix, hix⟩ : ∃ ix : Nat, ((q : Int) * 37 + (s : Int)) % ((n : Int) + 1) = (ix : Int) := ⟨(q * 37 + s) % (n + 1), by push_cast; rfl⟩
  have hixn : ix ≤ n := by
    have h1 := Int.emod_lt_of_pos ((q : Int) * 37 + (s : Int)) (show (0 : Int) < (n : Int) + 1 by omega)
    omega
  have HN : Hid ((c : Int) % 8 * 50 + (c : Int) / 8 % 50 = (n : Int)) := hn
  have HIX : Hid (((q : Int) * 37 + (s : Int)) % ((n : Int) + 1) = (ix : Int)) := hix
  clear hn hix
  by_cases hab : 32768 ≤ q
  · have hab' : (32768 : Int) ≤ (q : Int) := by omega
    go_enter Yba.func4, Yba.ntmps4
    go_wp2_with fail
    simp only [HN.out]
    simp only [HIX.out]
    refine (key_any ix w (by omega)).mono ?_
    rintro e w1 ⟨rfl, hb1⟩
    have HB1 : Hid (Below w.heap.size w w1) := hb1
    clear hb1
    go_wp2_with fail
    obtain ⟨kv, hkv⟩ : ∃ kv, kv = keyB ix ++ (⟨#[120]⟩ : ByteArray) := ⟨_, rfl⟩
    have HKEY : Hid (KeyIs kv (ix + 1) false) := keyIs_x ix (by omega) kv (by rw [hkv, bytes_append, keyB_toList, ByteArray.toList_eq])
    have HDEL : Hid (del (ix + 1) false (List.range n) = del ix false (List.range n)) := rfl
    simp only [← hkv]
    clear hkv
    clear hab hab' hq hs hc
    refine (build_any n _ w1 hn4).mono ?_
    rintro e w2 ⟨b, rfl, hb2, hT2⟩
    have HT2 : Hid (Tree w2 w1.heap.size 1 b (List.range n) ∧ Below w.heap.size w w2) := ⟨hT2, HB1.out.trans (hb2.mono HB1.out.size)⟩
    have hw01 : w.heap.size ≤ w1.heap.size := HB1.out.size
    clear hb2 hT2
    have hlen : (List.range n).length < 400 := by simp; omega
    go_wp2_with fail
    refine (view_check w2 b (List.range n) HT2.out.1.view hlen).mono ?_
    rintro e w3 ⟨z, rfl, m, rfl⟩
    have hz : ¬ (z : Int) < 0 := by omega
    have HT3 : Hid (Tree (w2.drewN m) w1.heap.size 1 b (List.range n) ∧ Below w.heap.size w (w2.drewN m)) := ⟨tree_below HT2.out.1 (below_drewN (Below.refl _ _) m), below_drewN HT2.out.2 m⟩
    clear HT2
    generalize w2.drewN m = W3 at *
    go_wp2_with fail
    refine (view_walk W3 b (List.range n) HT3.out.1.view hlen).mono ?_
    rintro e w4 ⟨v4, rfl, hI4, hb4⟩
    have HT4 : Hid (Tree w4 w1.heap.size 1 b (List.range n) ∧ Below w.heap.size w w4 ∧ Items w4 v4 (List.range n)) := ⟨tree_below HT3.out.1 hb4, HT3.out.2.trans (hb4.mono HT3.out.2.size), hI4⟩
    have hw04 : w.heap.size ≤ w4.heap.size := HT4.out.2.1.size
    clear hI4 hb4 HT3 hz
    go_upto_if 67 with fail
    go_cut [19] (fun rv wx => ∃ b5 : Nat, rv = .pointer (some ⟨b5, 0, none⟩) ∧ Hid ((∃ B' G', TreeN wx B' G' b5 (del (ix + 1) false (List.range n))) ∧ Below w.heap.size w wx ∧ (a3 = true → Below w4.heap.size w4 wx)))
    case first =>
      cases a3
      · go_wp2_with fail
        refine (remove_tree w4 w1.heap.size 1 b (List.range n) (ix + 1) false kv HT4.out.1 HKEY.out (rising_range n (by omega)) hlen).mono ?_
        rintro e w6 ⟨⟨v6, rfl⟩, hb6, hN6⟩
        have HR : Hid ((∃ B' G', TreeN w6 B' G' b (del (ix + 1) false (List.range n))) ∧ Below w.heap.size w w6 ∧ (false = true → Below w4.heap.size w4 w6)) := ⟨⟨_, _, hN6⟩, HT4.out.2.1.trans (hb6.mono hw01), fun h => by cases h⟩
        clear hb6 hN6
        go_wp2_with fail
        go_meet
        case rel => exact ⟨b, rfl, HR⟩
      · go_wp2_with fail
        refine (own_tree w4 w1.heap.size b (List.range n) HT4.out.1 hlen).mono ?_
        rintro e w5 ⟨b5, rfl, hT5, hb5⟩
        have HT5 : Hid (Tree w5 w4.heap.size 2 b5 (List.range n) ∧ Below w4.heap.size w4 w5) := ⟨hT5, hb5⟩
        clear hT5 hb5
        go_wp2_with fail
        refine (remove_tree w5 w4.heap.size 2 b5 (List.range n) (ix + 1) false kv HT5.out.1 HKEY.out (rising_range n (by omega)) hlen).mono ?_
        rintro e w6 ⟨⟨v6, rfl⟩, hb6, hN6⟩
        have HR : Hid ((∃ B' G', TreeN w6 B' G' b5 (del (ix + 1) false (List.range n))) ∧ Below w.heap.size w w6 ∧ (true = true → Below w4.heap.size w4 w6)) := ⟨⟨_, _, hN6⟩, HT4.out.2.1.trans ((HT5.out.2.trans hb6).mono hw04), fun _ => HT5.out.2.trans hb6⟩
        clear hb6 hN6
        go_wp2_with fail
        go_meet
        case rel => exact ⟨b5, rfl, HR⟩
    case rest =>
      obtain ⟨b5, rfl, HC⟩ := hcut
      generalize wc = W6 at *
      obtain ⟨b6, bb, hview, hlead⟩ := lead_of HC.out.1.choose_spec.choose_spec
      have HVW : Hid (ViewT W6 b6 (del (ix + 1) false (List.range n))) := hview
      have HLD : Hid (Lead W6 b5 b6 bb) := hlead
      clear hview hlead
      go_upto_region 20 with fail
      go_cut [88] (fun tv wx => tv = .bool bb ∧ wx = W6)
      case first =>
        rcases HLD.out with ⟨rfl, a, c', gu, M, cu, d0, d1, hM, d2⟩ | ⟨rfl, rfl, ⟨a, c', d0, d1⟩ | ⟨a, N, c', hN0, d0⟩⟩
        · have kq : ∀ w : World, (binOp .neq 53 (.slice (some ⟨gu, 0, none⟩) M cu) (.slice none 0 0)).run Yba.prog w = .ok (.bool true) w := fun w => by kernel_rfl
          go_wp2_with fail
          go_meet
          case rel => exact ⟨rfl, rfl⟩
        · have kq := Yba.nilne53
          go_wp2_with fail
          go_meet
          case rel => exact ⟨rfl, rfl⟩
        · have hN1 : ¬ ((N : Int) = 0) := by omega
          have hN2 : ¬ (N = 0) := by omega
          go_wp2_with fail
          go_meet
          case rel => exact ⟨rfl, rfl⟩
      case rest =>
        obtain ⟨rfl, hw⟩ := hcut
        rw [hw]
        clear hw
        go_upto_if 88 with fail
        go_cut [19] (fun rv wx => rv = .pointer (some ⟨b6, 0, none⟩) ∧ wx = W6)
        case first =>
          rcases HLD.out with ⟨rfl, a, c', gu, M, cu, d0, d1, hM, d2⟩ | ⟨rfl, rfl, _⟩
          · have hM' : (0 : Int) < (M : Int) := by omega
            go_wp2_with fail
            go_meet
            case rel => exact ⟨rfl, rfl⟩
          · go_wp2_with fail
            go_meet
            case rel => exact ⟨rfl, rfl⟩
        case rest =>
          obtain ⟨rfl, hw⟩ := hcut
          rw [hw]
          clear hw
          have hdl := del_length (ix + 1) false (rising_range n (by omega)).less
          have hylen : (del (ix + 1) false (List.range n)).length < 400 := by omega
          clear hdl
          go_wp2_with fail
          refine (view_check W6 b6 _ HVW.out hylen).mono ?_
          rintro e w7 ⟨z', rfl, m', rfl⟩
          have hz' : ¬ (z' : Int) < 0 := by omega
          have HV7 : Hid (ViewT (W6.drewN m') b6 (del (ix + 1) false (List.range n)) ∧ Below w.heap.size w (W6.drewN m') ∧ (a3 = true → Below w4.heap.size w4 (W6.drewN m'))) := ⟨view_below HVW.out (below_drewN (Below.refl _ _) m'), below_drewN HC.out.2.1 m', fun h => below_drewN (HC.out.2.2 h) m'⟩
          clear HVW HLD HC
          generalize W6.drewN m' = W7 at *
          go_wp2_with fail
          go_loopw [20, 21] (fun ov jv wr => ∃ j : Nat, j ≤ n ∧ jv = .int .i64 (j : Int) ∧ Hid (Out wr W7.heap.size ov (del ix false (List.range j)) ∧ Below W7.heap.size W7 wr)) (fun ov jv _ => n - (intOf jv).toNat)
          case atStart => exact ⟨0, by omega, rfl, by rw [List.range_zero, del_nil]; exact World.ownsRow_nil _ _ _ _, Below.refl _ _⟩
          case round =>
            obtain ⟨j, hj, rfl, hrel⟩ := hrel
            obtain ⟨oa, oc, hov⟩ := own_form hrel.out.1
            have hdj := (del_length ix false (rising_range j (by omega)).less).2
            rw [List.length_range] at hdj
            obtain ⟨L, hL⟩ : ∃ L, (del ix false (List.range j)).length = L := ⟨_, rfl⟩
            rw [hL] at hov hdj
            subst hov
            have HL : Hid ((del ix false (List.range j)).length = L) := hL
            clear hL
            by_cases hlt : j < n
            · have hlt' : (j : Int) < (n : Int) := by omega
              have hLm : L + 1 ≤ maxLen := by unfold maxLen; omega
              go_wp2_with fail
              refine (key_any j wr (by omega)).mono ?_
              rintro e w8 ⟨rfl, hb8⟩
              have HBW : Hid (Below W7.heap.size W7 w8) := hrel.out.2.trans (hb8.mono hrel.out.2.size)
              have hD8 : W7.heap.size ≤ w8.heap.size := HBW.out.size
              have HOR : Hid ((w8.alloc (.cells #[.string (keyB j), .int .i64 (j : Int)] 57)).ownsRow W7.heap.size 57 2 (.slice oa L oc) L (itemCells (del ix false (List.range j)))) := by
                have h1 : w8.ownsRow W7.heap.size 57 2 (.slice oa L oc) (del ix false (List.range j)).length (itemCells (del ix false (List.range j))) := own_kept hrel.out.1 (Chg.of_below hb8) (fun _ _ h => h)
                have h2 := World.ownsRow.alloc h1 (.cells #[.string (keyB j), .int .i64 (j : Int)] 57)
                rw [HL.out] at h2
                exact h2
              clear hb8 hrel
              go_wp2_with (at_builtin; refine wpList_append_lies _ rfl _ _ 49 rfl W7.heap.size 57 i0 (.agg #[.string ⟨#[]⟩, .int .i64 0]) 2 24 Yba.underlying49 hi0 hz0 hz1 hz2 rfl (by decide) _ _ _ rfl HOR.out ⟨w8.heap.size, 0, none⟩ 1 1 [.string (keyB j), .int .i64 (j : Int)] rfl rfl ?c1 ?c2 (by decide) hLm ?c3 (by simp; omega) _ rfl ?_)
              case c1 => exact World.news_of_block (cs := #[.string (keyB j), .int .i64 (j : Int)]) (t := 57) (fr := (0, 0)) (heap_alloc_new w8 _)
              case c2 => intro u hu; simp at hu; rcases hu with rfl | rfl <;> rfl
              case c3 => omega
              intro g9 cap9 w9 hown9 hgrow9 hat9 hlt9
              have HO9 : Hid (Out w9 W7.heap.size (.slice (some ⟨g9, 0, none⟩) (L + 1) cap9) (del ix false (List.range (j + 1))) ∧ Below W7.heap.size W7 w9) := by
                constructor
                · rw [del_range_succ, if_neg (by simp)]
                  refine Out.step (w := w9) (v := .slice none 0 0) ?_
                  rw [HL.out]
                  exact hown9
                · exact (HBW.out.alloc hD8 _).grown hgrow9 (by simp; omega) (fun k hk => (HOR.out.lt k hk).1)
              clear hown9 hgrow9 hat9 hlt9 HOR
              go_wp2
              go_roundw
              case rel => exact ⟨j + 1, hlt, by go_num, HO9⟩
              case measure => simp [intOf]; omega
            · have hlt' : ¬ (j : Int) < (n : Int) := by omega
              obtain rfl : j = n := by omega
              have HV8 : Hid (ViewT wr b6 (del (ix + 1) false (List.range j)) ∧ Items wr (.slice oa L oc) (del (ix + 1) false (List.range j)) ∧ Below w.heap.size w wr ∧ (a3 = true → Below w4.heap.size w4 wr)) := by
                have hs7 := HV7.out.2.1.size
                refine ⟨view_below HV7.out.1 hrel.out.2, ?_, HV7.out.2.1.trans (hrel.out.2.mono hs7), fun h => (HV7.out.2.2 h).trans (hrel.out.2.mono (HV7.out.2.2 h).size)⟩
                rw [HDEL.out]
                exact hrel.out.1.items
              clear hrel HV7
              go_wp2_with fail
              refine (view_walk wr b6 _ HV8.out.1 hylen).mono ?_
              rintro e w8 ⟨v8, rfl, hI8, hb8⟩
              have HV9 : Hid (Items w8 v8 (del (ix + 1) false (List.range j)) ∧ Items w8 (.slice oa L oc) (del (ix + 1) false (List.range j)) ∧ Below w.heap.size w w8 ∧ (a3 = true → Below w4.heap.size w4 w8)) := ⟨hI8, items_below HV8.out.2.1 hb8, HV8.out.2.2.1.trans (hb8.mono HV8.out.2.2.1.size), fun h => (HV8.out.2.2.2 h).trans (hb8.mono (HV8.out.2.2.2 h).size)⟩
              clear hI8 hb8 HV8
              go_wp2_with fail
              refine (same_eq w8 v8 (.slice oa L oc) _ HV9.out.1 HV9.out.2.1 (by omega)).mono ?_
              rintro e w9 ⟨rfl, m9, rfl⟩
              have HV10 : Hid (Below w.heap.size w (w8.drewN m9) ∧ (a3 = true → Below w4.heap.size w4 (w8.drewN m9))) := ⟨below_drewN HV9.out.2.2.1 m9, fun h => below_drewN (HV9.out.2.2.2 h) m9⟩
              clear HV9
              generalize w8.drewN m9 = W9 at *
              cases a3
              · go_wp2
                go_ret
                exact ⟨rfl, HV10.out.1⟩
              · have HB10 : Hid (Below w4.heap.size w4 W9) := HV10.out.2 rfl
                have HVB : Hid (ViewT W9 b (List.range j) ∧ Items W9 v4 (List.range j)) := ⟨view_below HT4.out.1.view HB10.out, items_below HT4.out.2.2 HB10.out⟩
                go_wp2_with fail
                refine (view_walk W9 b _ HVB.out.1 hlen).mono ?_
                rintro e w10 ⟨v10, rfl, hI10, hb10⟩
                have HVC : Hid (Items w10 v10 (List.range j) ∧ Items w10 v4 (List.range j) ∧ Below w.heap.size w w10) := ⟨hI10, items_below HVB.out.2 hb10, HV10.out.1.trans (hb10.mono HV10.out.1.size)⟩
                clear hI10 hb10
                go_wp2_with fail
                refine (same_eq w10 v10 v4 _ HVC.out.1 HVC.out.2.1 (by omega)).mono ?_
                rintro e w11 ⟨rfl, m11, rfl⟩
                have HBF : Hid (Below w.heap.size w (w10.drewN m11)) := below_drewN HVC.out.2.2 m11
                generalize w10.drewN m11 = W11 at *
                go_wp2
                go_ret
                exact ⟨rfl, HBF.out⟩
  · have hab' : ¬ (32768 : Int) ≤ (q : Int) := by omega
    go_enter Yba.func4, Yba.ntmps4
    go_wp2_with fail
    simp only [HN.out]
    simp only [HIX.out]
    refine (key_any ix w (by omega)).mono ?_
    rintro e w1 ⟨rfl, hb1⟩
    have HB1 : Hid (Below w.heap.size w w1) := hb1
    clear hb1
    go_wp2_with fail
    obtain ⟨kv, hkv⟩ : ∃ kv, kv = keyB ix := ⟨_, rfl⟩
    have HKEY : Hid (KeyIs kv ix true) := by rw [hkv]; exact keyIs_key ix (by omega)
    obtain ⟨pr, hpr⟩ : ∃ pr, pr = decide (ix < n) := ⟨_, rfl⟩
    have HDEL : Hid (del ix true (List.range n) = del ix pr (List.range n)) := by
      show _ = _
      rw [hpr]
      by_cases h1 : ix < n
      · rw [decide_eq_true h1]
      · rw [decide_eq_false h1, del_none (fun _ hm => h1 (List.mem_range.1 hm))]
        rfl
    simp only [← hkv]
    generalize hpr' : decide (ix < n) = pr' at *
    obtain rfl : pr = pr' := by rw [hpr]
    clear hpr'
    clear hkv hpr
    clear hab hab' hq hs hc
    refine (build_any n _ w1 hn4).mono ?_
    rintro e w2 ⟨b, rfl, hb2, hT2⟩
    have HT2 : Hid (Tree w2 w1.heap.size 1 b (List.range n) ∧ Below w.heap.size w w2) := ⟨hT2, HB1.out.trans (hb2.mono HB1.out.size)⟩
    have hw01 : w.heap.size ≤ w1.heap.size := HB1.out.size
    clear hb2 hT2
    have hlen : (List.range n).length < 400 := by simp; omega
    go_wp2_with fail
    refine (view_check w2 b (List.range n) HT2.out.1.view hlen).mono ?_
    rintro e w3 ⟨z, rfl, m, rfl⟩
    have hz : ¬ (z : Int) < 0 := by omega
    have HT3 : Hid (Tree (w2.drewN m) w1.heap.size 1 b (List.range n) ∧ Below w.heap.size w (w2.drewN m)) := ⟨tree_below HT2.out.1 (below_drewN (Below.refl _ _) m), below_drewN HT2.out.2 m⟩
    clear HT2
    generalize w2.drewN m = W3 at *
    go_wp2_with fail
    refine (view_walk W3 b (List.range n) HT3.out.1.view hlen).mono ?_
    rintro e w4 ⟨v4, rfl, hI4, hb4⟩
    have HT4 : Hid (Tree w4 w1.heap.size 1 b (List.range n) ∧ Below w.heap.size w w4 ∧ Items w4 v4 (List.range n)) := ⟨tree_below HT3.out.1 hb4, HT3.out.2.trans (hb4.mono HT3.out.2.size), hI4⟩
    have hw04 : w.heap.size ≤ w4.heap.size := HT4.out.2.1.size
    clear hI4 hb4 HT3 hz
    go_upto_if 67 with fail
    go_cut [19] (fun rv wx => ∃ b5 : Nat, rv = .pointer (some ⟨b5, 0, none⟩) ∧ Hid ((∃ B' G', TreeN wx B' G' b5 (del ix true (List.range n))) ∧ Below w.heap.size w wx ∧ (a3 = true → Below w4.heap.size w4 wx)))
    case first =>
      cases a3
      · go_wp2_with fail
        refine (remove_tree w4 w1.heap.size 1 b (List.range n) ix true kv HT4.out.1 HKEY.out (rising_range n (by omega)) hlen).mono ?_
        rintro e w6 ⟨⟨v6, rfl⟩, hb6, hN6⟩
        have HR : Hid ((∃ B' G', TreeN w6 B' G' b (del ix true (List.range n))) ∧ Below w.heap.size w w6 ∧ (false = true → Below w4.heap.size w4 w6)) := ⟨⟨_, _, hN6⟩, HT4.out.2.1.trans (hb6.mono hw01), fun h => by cases h⟩
        clear hb6 hN6
        go_wp2_with fail
        go_meet
        case rel => exact ⟨b, rfl, HR⟩
      · go_wp2_with fail
        refine (own_tree w4 w1.heap.size b (List.range n) HT4.out.1 hlen).mono ?_
        rintro e w5 ⟨b5, rfl, hT5, hb5⟩
        have HT5 : Hid (Tree w5 w4.heap.size 2 b5 (List.range n) ∧ Below w4.heap.size w4 w5) := ⟨hT5, hb5⟩
        clear hT5 hb5
        go_wp2_with fail
        refine (remove_tree w5 w4.heap.size 2 b5 (List.range n) ix true kv HT5.out.1 HKEY.out (rising_range n (by omega)) hlen).mono ?_
        rintro e w6 ⟨⟨v6, rfl⟩, hb6, hN6⟩
        have HR : Hid ((∃ B' G', TreeN w6 B' G' b5 (del ix true (List.range n))) ∧ Below w.heap.size w w6 ∧ (true = true → Below w4.heap.size w4 w6)) := ⟨⟨_, _, hN6⟩, HT4.out.2.1.trans ((HT5.out.2.trans hb6).mono hw04), fun _ => HT5.out.2.trans hb6⟩
        clear hb6 hN6
        go_wp2_with fail
        go_meet
        case rel => exact ⟨b5, rfl, HR⟩
    case rest =>
      obtain ⟨b5, rfl, HC⟩ := hcut
      generalize wc = W6 at *
      obtain ⟨b6, bb, hview, hlead⟩ := lead_of HC.out.1.choose_spec.choose_spec
      have HVW : Hid (ViewT W6 b6 (del ix true (List.range n))) := hview
      have HLD : Hid (Lead W6 b5 b6 bb) := hlead
      clear hview hlead
      go_upto_region 20 with fail
      go_cut [88] (fun tv wx => tv = .bool bb ∧ wx = W6)
      case first =>
        rcases HLD.out with ⟨rfl, a, c', gu, M, cu, d0, d1, hM, d2⟩ | ⟨rfl, rfl, ⟨a, c', d0, d1⟩ | ⟨a, N, c', hN0, d0⟩⟩
        · have kq : ∀ w : World, (binOp .neq 53 (.slice (some ⟨gu, 0, none⟩) M cu) (.slice none 0 0)).run Yba.prog w = .ok (.bool true) w := fun w => by kernel_rfl
          go_wp2_with fail
          go_meet
          case rel => exact ⟨rfl, rfl⟩
        · have kq := Yba.nilne53
          go_wp2_with fail
          go_meet
          case rel => exact ⟨rfl, rfl⟩
        · have hN1 : ¬ ((N : Int) = 0) := by omega
          have hN2 : ¬ (N = 0) := by omega
          go_wp2_with fail
          go_meet
          case rel => exact ⟨rfl, rfl⟩
      case rest =>
        obtain ⟨rfl, hw⟩ := hcut
        rw [hw]
        clear hw
        go_upto_if 88 with fail
        go_cut [19] (fun rv wx => rv = .pointer (some ⟨b6, 0, none⟩) ∧ wx = W6)
        case first =>
          rcases HLD.out with ⟨rfl, a, c', gu, M, cu, d0, d1, hM, d2⟩ | ⟨rfl, rfl, _⟩
          · have hM' : (0 : Int) < (M : Int) := by omega
            go_wp2_with fail
            go_meet
            case rel => exact ⟨rfl, rfl⟩
          · go_wp2_with fail
            go_meet
            case rel => exact ⟨rfl, rfl⟩
        case rest =>
          obtain ⟨rfl, hw⟩ := hcut
          rw [hw]
          clear hw
          have hdl := del_length ix true (rising_range n (by omega)).less
          have hylen : (del ix true (List.range n)).length < 400 := by omega
          clear hdl
          go_wp2_with fail
          refine (view_check W6 b6 _ HVW.out hylen).mono ?_
          rintro e w7 ⟨z', rfl, m', rfl⟩
          have hz' : ¬ (z' : Int) < 0 := by omega
          have HV7 : Hid (ViewT (W6.drewN m') b6 (del ix true (List.range n)) ∧ Below w.heap.size w (W6.drewN m') ∧ (a3 = true → Below w4.heap.size w4 (W6.drewN m'))) := ⟨view_below HVW.out (below_drewN (Below.refl _ _) m'), below_drewN HC.out.2.1 m', fun h => below_drewN (HC.out.2.2 h) m'⟩
          clear HVW HLD HC
          generalize W6.drewN m' = W7 at *
          go_wp2_with fail
          go_loopw [20, 21] (fun ov jv wr => ∃ j : Nat, j ≤ n ∧ jv = .int .i64 (j : Int) ∧ Hid (Out wr W7.heap.size ov (del ix pr (List.range j)) ∧ Below W7.heap.size W7 wr)) (fun ov jv _ => n - (intOf jv).toNat)
          case atStart => exact ⟨0, by omega, rfl, by rw [List.range_zero, del_nil]; exact World.ownsRow_nil _ _ _ _, Below.refl _ _⟩
          case round =>
            obtain ⟨j, hj, rfl, hrel⟩ := hrel
            obtain ⟨oa, oc, hov⟩ := own_form hrel.out.1
            have hdj := (del_length ix pr (rising_range j (by omega)).less).2
            rw [List.length_range] at hdj
            obtain ⟨L, hL⟩ : ∃ L, (del ix pr (List.range j)).length = L := ⟨_, rfl⟩
            rw [hL] at hov hdj
            subst hov
            have HL : Hid ((del ix pr (List.range j)).length = L) := hL
            clear hL
            by_cases hlt : j < n
            · have hlt' : (j : Int) < (n : Int) := by omega
              have hLm : L + 1 ≤ maxLen := by unfold maxLen; omega
              cases pr
              · go_wp2_with fail
                refine (key_any j wr (by omega)).mono ?_
                rintro e w8 ⟨rfl, hb8⟩
                have HBW : Hid (Below W7.heap.size W7 w8) := hrel.out.2.trans (hb8.mono hrel.out.2.size)
                have hD8 : W7.heap.size ≤ w8.heap.size := HBW.out.size
                have HOR : Hid ((w8.alloc (.cells #[.string (keyB j), .int .i64 (j : Int)] 57)).ownsRow W7.heap.size 57 2 (.slice oa L oc) L (itemCells (del ix false (List.range j)))) := by
                  have h1 : w8.ownsRow W7.heap.size 57 2 (.slice oa L oc) (del ix false (List.range j)).length (itemCells (del ix false (List.range j))) := own_kept hrel.out.1 (Chg.of_below hb8) (fun _ _ h => h)
                  have h2 := World.ownsRow.alloc h1 (.cells #[.string (keyB j), .int .i64 (j : Int)] 57)
                  rw [HL.out] at h2
                  exact h2
                clear hb8 hrel
                go_wp2_with (at_builtin; refine wpList_append_lies _ rfl _ _ 49 rfl W7.heap.size 57 i0 (.agg #[.string ⟨#[]⟩, .int .i64 0]) 2 24 Yba.underlying49 hi0 hz0 hz1 hz2 rfl (by decide) _ _ _ rfl HOR.out ⟨w8.heap.size, 0, none⟩ 1 1 [.string (keyB j), .int .i64 (j : Int)] rfl rfl ?c1 ?c2 (by decide) hLm ?c3 (by simp; omega) _ rfl ?_)
                case c1 => exact World.news_of_block (cs := #[.string (keyB j), .int .i64 (j : Int)]) (t := 57) (fr := (0, 0)) (heap_alloc_new w8 _)
                case c2 => intro u hu; simp at hu; rcases hu with rfl | rfl <;> rfl
                case c3 => omega
                intro g9 cap9 w9 hown9 hgrow9 hat9 hlt9
                have HO9 : Hid (Out w9 W7.heap.size (.slice (some ⟨g9, 0, none⟩) (L + 1) cap9) (del ix false (List.range (j + 1))) ∧ Below W7.heap.size W7 w9) := by
                  constructor
                  · rw [del_range_succ, if_neg (by simp)]
                    refine Out.step (w := w9) (v := .slice none 0 0) ?_
                    rw [HL.out]
                    exact hown9
                  · exact (HBW.out.alloc hD8 _).grown hgrow9 (by simp; omega) (fun k hk => (HOR.out.lt k hk).1)
                clear hown9 hgrow9 hat9 hlt9 HOR
                go_wp2
                go_roundw
                case rel => exact ⟨j + 1, hlt, by go_num, HO9⟩
                case measure => simp [intOf]; omega
              · by_cases hji : j = ix
                · subst hji
                  have HO9 : Hid (Out wr W7.heap.size (.slice oa L oc) (del j true (List.range (j + 1))) ∧ Below W7.heap.size W7 wr) := by
                    rw [del_range_succ, if_pos ⟨rfl, rfl⟩, List.append_nil]
                    exact hrel.out
                  clear hrel
                  go_wp2
                  go_roundw
                  case rel => exact ⟨j + 1, hlt, by go_num, HO9⟩
                  case measure => simp [intOf]; omega
                · have hji' : ¬ (j : Int) = (ix : Int) := by omega
                  go_wp2_with fail
                  refine (key_any j wr (by omega)).mono ?_
                  rintro e w8 ⟨rfl, hb8⟩
                  have HBW : Hid (Below W7.heap.size W7 w8) := hrel.out.2.trans (hb8.mono hrel.out.2.size)
                  have hD8 : W7.heap.size ≤ w8.heap.size := HBW.out.size
                  have HOR : Hid ((w8.alloc (.cells #[.string (keyB j), .int .i64 (j : Int)] 57)).ownsRow W7.heap.size 57 2 (.slice oa L oc) L (itemCells (del ix true (List.range j)))) := by
                    have h1 : w8.ownsRow W7.heap.size 57 2 (.slice oa L oc) (del ix true (List.range j)).length (itemCells (del ix true (List.range j))) := own_kept hrel.out.1 (Chg.of_below hb8) (fun _ _ h => h)
                    have h2 := World.ownsRow.alloc h1 (.cells #[.string (keyB j), .int .i64 (j : Int)] 57)
                    rw [HL.out] at h2
                    exact h2
                  clear hb8 hrel
                  go_wp2_with (at_builtin; refine wpList_append_lies _ rfl _ _ 49 rfl W7.heap.size 57 i0 (.agg #[.string ⟨#[]⟩, .int .i64 0]) 2 24 Yba.underlying49 hi0 hz0 hz1 hz2 rfl (by decide) _ _ _ rfl HOR.out ⟨w8.heap.size, 0, none⟩ 1 1 [.string (keyB j), .int .i64 (j : Int)] rfl rfl ?c1 ?c2 (by decide) hLm ?c3 (by simp; omega) _ rfl ?_)
                  case c1 => exact World.news_of_block (cs := #[.string (keyB j), .int .i64 (j : Int)]) (t := 57) (fr := (0, 0)) (heap_alloc_new w8 _)
                  case c2 => intro u hu; simp at hu; rcases hu with rfl | rfl <;> rfl
                  case c3 => omega
                  intro g9 cap9 w9 hown9 hgrow9 hat9 hlt9
                  have HO9 : Hid (Out w9 W7.heap.size (.slice (some ⟨g9, 0, none⟩) (L + 1) cap9) (del ix true (List.range (j + 1))) ∧ Below W7.heap.size W7 w9) := by
                    constructor
                    · rw [del_range_succ, if_neg (by simpa using hji)]
                      refine Out.step (w := w9) (v := .slice none 0 0) ?_
                      rw [HL.out]
                      exact hown9
                    · exact (HBW.out.alloc hD8 _).grown hgrow9 (by simp; omega) (fun k hk => (HOR.out.lt k hk).1)
                  clear hown9 hgrow9 hat9 hlt9 HOR
                  go_wp2
                  go_roundw
                  case rel => exact ⟨j + 1, hlt, by go_num, HO9⟩
                  case measure => simp [intOf]; omega
            · have hlt' : ¬ (j : Int) < (n : Int) := by omega
              obtain rfl : j = n := by omega
              have HV8 : Hid (ViewT wr b6 (del ix true (List.range j)) ∧ Items wr (.slice oa L oc) (del ix true (List.range j)) ∧ Below w.heap.size w wr ∧ (a3 = true → Below w4.heap.size w4 wr)) := by
                have hs7 := HV7.out.2.1.size
                refine ⟨view_below HV7.out.1 hrel.out.2, ?_, HV7.out.2.1.trans (hrel.out.2.mono hs7), fun h => (HV7.out.2.2 h).trans (hrel.out.2.mono (HV7.out.2.2 h).size)⟩
                rw [HDEL.out]
                exact hrel.out.1.items
              clear hrel HV7
              go_wp2_with fail
              refine (view_walk wr b6 _ HV8.out.1 hylen).mono ?_
              rintro e w8 ⟨v8, rfl, hI8, hb8⟩
              have HV9 : Hid (Items w8 v8 (del ix true (List.range j)) ∧ Items w8 (.slice oa L oc) (del ix true (List.range j)) ∧ Below w.heap.size w w8 ∧ (a3 = true → Below w4.heap.size w4 w8)) := ⟨hI8, items_below HV8.out.2.1 hb8, HV8.out.2.2.1.trans (hb8.mono HV8.out.2.2.1.size), fun h => (HV8.out.2.2.2 h).trans (hb8.mono (HV8.out.2.2.2 h).size)⟩
              clear hI8 hb8 HV8
              go_wp2_with fail
              refine (same_eq w8 v8 (.slice oa L oc) _ HV9.out.1 HV9.out.2.1 (by omega)).mono ?_
              rintro e w9 ⟨rfl, m9, rfl⟩
              have HV10 : Hid (Below w.heap.size w (w8.drewN m9) ∧ (a3 = true → Below w4.heap.size w4 (w8.drewN m9))) := ⟨below_drewN HV9.out.2.2.1 m9, fun h => below_drewN (HV9.out.2.2.2 h) m9⟩
              clear HV9
              generalize w8.drewN m9 = W9 at *
              cases a3
              · go_wp2
                go_ret
                exact ⟨rfl, HV10.out.1⟩
              · have HB10 : Hid (Below w4.heap.size w4 W9) := HV10.out.2 rfl
                have HVB : Hid (ViewT W9 b (List.range j) ∧ Items W9 v4 (List.range j)) := ⟨view_below HT4.out.1.view HB10.out, items_below HT4.out.2.2 HB10.out⟩
                go_wp2_with fail
                refine (view_walk W9 b _ HVB.out.1 hlen).mono ?_
                rintro e w10 ⟨v10, rfl, hI10, hb10⟩
                have HVC : Hid (Items w10 v10 (List.range j) ∧ Items w10 v4 (List.range j) ∧ Below w.heap.size w w10) := ⟨hI10, items_below HVB.out.2 hb10, HV10.out.1.trans (hb10.mono HV10.out.1.size)⟩
                clear hI10 hb10
                go_wp2_with fail
                refine (same_eq w10 v10 v4 _ HVC.out.1 HVC.out.2.1 (by omega)).mono ?_
                rintro e w11 ⟨rfl, m11, rfl⟩
                have HBF : Hid (Below w.heap.size w (w10.drewN m11)) := below_drewN HVC.out.2.2 m11
                generalize w10.drewN m11 = W11 at *
                go_wp2
                go_ret
                exact ⟨rfl, HBF.out⟩
end Go.Proofs.Ybulkira
