import Derived.Test.YbulkiraRRemP
namespace Go.Proofs.Ybulkira
open Go.RowKit
set_option linter.unusedVariables false
set_option linter.unusedSimpArgs false
attribute [local go_sem ↓] Go.wp_at_zero Go.wp_at_succ

/-- what remove leaves of a root -/
def Removed (w w' : World) (B G : Nat) (r : Rt) (p : Nat) (f : Bool) : Prop :=
  Below B w w' ∧ ∃ r', RootAt w' B G r' ∧ r'.b = r.b ∧ Good r'.ss (r'.ks.map Nd.xs) ∧ flat r'.ss (r'.ks.map Nd.xs) = del p f (flat r.ss (r.ks.map Nd.xs))

theorem rising_len : ∀ (xs : List Nat) (b : Nat), xs.Pairwise (· < ·) → (∀ x ∈ xs, b ≤ x ∧ x < 1000) → xs.length + b ≤ max b 1000
  | [], b, _, _ => by simp; omega
  | x :: xs, b, hp, hs => by
    rw [List.pairwise_cons] at hp
    have h1 := hs x (by simp)
    have ih := rising_len xs (x + 1) hp.2 (fun y hy => ⟨hp.1 y hy, (hs y (by simp [hy])).2⟩)
    simp
    omega

theorem rising_length {xs : List Nat} (h : Rising xs) : xs.length ≤ 1000 := by
  have := rising_len xs 0 h.less (fun x hx => ⟨Nat.zero_le _, h.small x hx⟩)
  omega

/-- the end of a removal: key p is taken out of child j -/
theorem rem_end {w w3 w4 : World} {B G : Nat} {r r2 : Rt} {j p : Nat} {f : Bool} {l2 l3 l4 : Nd} {ys : List Nat} (hb : Below B w w3) (hR3 : RootAt w3 B G { r2 with ks := r2.ks.set j l3 }) (eb : r2.b = r.b) (hg : Good r2.ss (r2.ks.map Nd.xs))
    (hk : r2.ks[j]? = some l2) (h31 : 31 ≤ ys.length) (h63 : ys.length ≤ 63) (hg3 : l3.gen = G) (hu : LeafUpd w3 w4 l3 l4) (hx4 : l4.xs = ys)
    (hfl : flat r2.ss ((r2.ks.map Nd.xs).set j ys) = del p f (flat r.ss (r.ks.map Nd.xs))) : Removed w w4 B G r p f := by
  have hjl : j < r2.ks.length := (List.getElem?_eq_some_iff.1 hk).1
  have hi : ({ r2 with ks := r2.ks.set j l3 } : Rt).ks[j]? = some l3 := List.getElem?_set_self hjl
  have h1 := hR3.setKid hi hu hg3 (by rw [hx4]; omega)
  simp only [List.set_set] at h1
  refine ⟨hb.trans h1.2, _, h1.1, eb, ?_, ?_⟩
  · show Good r2.ss ((r2.ks.set j l4).map Nd.xs)
    rw [List.map_set, hx4]
    exact good_set hg j _ h31 h63
  · show flat r2.ss ((r2.ks.set j l4).map Nd.xs) = _
    rw [List.map_set, hx4]
    exact hfl

set_option maxRecDepth 100000 in
set_option maxHeartbeats 4000000 in
theorem remove_nf (w : World) (B G : Nat) (r : Rt) (i p : Nat) (f : Bool) (k : ByteArray) (h : RootAt w B G r) (hg : Good r.ss (r.ks.map Nd.xs)) (hkey : KeyIs k p f) (hr : Rising (flat r.ss (r.ks.map Nd.xs))) (hpos : 0 < r.ss.length) (hn : r.ss.length < 800)
    (hlb : lb r.ss p = i) (hnf : f = true → r.ss[i]? ≠ some p) :
    Calls Yba.prog 13 #[.pointer (some ⟨r.b, 0, none⟩), .string k, .int .u64 (G : Int)] w fun e w' => (∃ v, e = .returned v) ∧ Removed w w' B G r p f := by
  have hsub := flat_seps_sub r.ss (r.ks.map Nd.xs) hg.len
  have hkl : r.ks.length = r.ss.length + 1 := by simpa using hg.len
  have hle := lb_le r.ss p
  rw [hlb] at hle
  obtain ⟨l, hl⟩ : ∃ l, r.ks[i]? = some l := ⟨_, List.getElem?_eq_getElem (by omega)⟩
  have HIN : Hid (f = true → p ∈ flat r.ss (r.ks.map Nd.xs) → p ∈ l.xs) := fun hf hp =>
    kid_holds p r.ss _ hg.len hr.less (not_found (hr.less.sublist hsub) (by rw [hlb]; exact hnf hf)) hp _ (by rw [hlb]; exact kx_get hl)
  obtain ⟨gu, cu, hu⟩ := h.kidForm (by omega)
  obtain ⟨gs, cs, hv⟩ := h.itemForm (by omega)
  obtain ⟨c0, c1, _, _, _, hlt⟩ := heap_node h.node
  have HH : Hid (RootAt w B G r) := h
  have HG : Hid (Good r.ss (r.ks.map Nd.xs)) := hg
  have HR : Hid (Rising (flat r.ss (r.ks.map Nd.xs))) := hr
  have HS : Hid (Rising r.ss) := hr.sub hsub
  have HL : Hid (r.ks[i]? = some l) := hl
  have HLB : Hid (lb r.ss p = i) := hlb
  have HNF : Hid (f = true → r.ss[i]? ≠ some p) := hnf
  have HV0 : Hid (r.v = .slice (some ⟨gs, 0, none⟩) r.ss.length cs) := hv
  obtain ⟨M, hM⟩ : ∃ M, r.ks.length = M := ⟨_, rfl⟩
  obtain ⟨N, hN⟩ : ∃ N, r.ss.length = N := ⟨_, rfl⟩
  rw [hM] at hu hkl
  rw [hN] at hv hle hpos hn hkl
  rw [hu] at c1
  have HU : Hid (r.u = .slice (some ⟨gu, 0, none⟩) M cu) := hu
  have HV : Hid (r.v = .slice (some ⟨gs, 0, none⟩) N cs) := hv
  have HM : Hid (r.ks.length = M) := hM
  have HN : Hid (r.ss.length = N) := hN
  have kq : ∀ w : World, (binOp .eql 53 (.slice (some ⟨gu, 0, none⟩) M cu) (.slice none 0 0)).run Yba.prog w = .ok (.bool false) w := fun w => by kernel_rfl
  clear h hg hr hl hlb hnf hv hu hM hN hsub hkl
  go_enter Yba.func13, Yba.ntmps13
  go_wp2_with fail
  refine (search16 r.b r.v r.ss p f k w c0 hkey HS.out.small HS.out.less (by have := HN.out; omega) HH.out.row).mono ?_
  rintro e w1 ⟨rfl, hb1⟩
  have HR1 : Hid (RootAt w1 B G r ∧ Below B w w1) := ⟨root_below HH.out hb1, hb1.mono HH.out.base⟩
  have d0 := (hb1.cell (p := ⟨r.b, 0, none⟩) hlt).trans c0
  have d1 := (hb1.cell (p := ⟨r.b, 1, none⟩) hlt).trans c1
  rw [HV.out] at d0
  rw [HLB.out]
  clear hb1 c0 c1
  by_cases h0 : i < N
  · obtain ⟨y, hy⟩ : ∃ y, r.ss[i]? = some y := ⟨_, List.getElem?_eq_getElem (by rw [HN.out]; exact h0)⟩
    have cy := (HR1.out.1.itemCell HV.out hy).2.1
    have hys := hkey.same y (HS.out.small y (List.mem_of_getElem? hy))
    rw [← keyB_toList] at hys
    have hff : (f && decide (y = p)) = false := by
      cases f
      · rfl
      · have h1 := HNF.out rfl
        rw [hy] at h1
        simp
        rintro rfl
        exact h1 rfl
    rw [hff] at hys
    have h0' : (i : Int) < (N : Int) := by omega
    clear hff hy
    go_wp2_with fail
    refine (fill_any w1 B G r i l HR1.out.1 HG.out HL.out (by have := HN.out; omega) (by have := HN.out; omega)).mono ?_
    rintro e w2 ⟨j, r2, l2, rfl, hF⟩
    have HF : Hid (Filled w1 w2 B G r l j r2 l2) := hF
    have HKL : Hid (r2.ks.length < 1000 ∧ l2.xs.length < 1000) := by
      have h1 := flat_length r2.ss _ hF.good.len hF.good.low
      have h2 := hF.good.len
      have h3 := hF.good.high _ (List.mem_of_getElem? (kx_get hF.kid))
      have h4 := hF.same
      have h5 := (HR.out.less)
      have h6 : r2.ss.Sublist (flat r.ss (r.ks.map Nd.xs)) := by rw [← h4]; exact flat_seps_sub r2.ss _ h2
      have h7 : r2.ss.length ≤ 998 := by
        have h8 := rising_length (HR.out.sub h6)
        have h9 := rising_length HR.out
        rw [← h4] at h9
        omega
      rw [List.length_map] at h2
      exact ⟨by omega, by omega⟩
    clear hF d0 d1
    go_wp2_with fail
    rw [← HF.out.hb]
    refine (child_any w2 B G r2 j l2 HF.out.root HF.out.kid HKL.out.1 HKL.out.2).mono ?_
    rintro e w3 ⟨l3, rfl, hx3, hg3, hR3, hB3, _⟩
    have HR3 : Hid (RootAt w3 B G { r2 with ks := r2.ks.set j l3 } ∧ Below B w w3 ∧ l3.xs = l2.xs ∧ l3.gen = G) := ⟨hR3, (HR1.out.2.trans HF.out.below).trans hB3, hx3, hg3⟩
    have HL3 : Hid (LeafAt w3 l3) := hR3.leaf l3 (List.mem_of_getElem? (i := j) (List.getElem?_set_self (List.getElem?_eq_some_iff.1 HF.out.kid).1))
    have HRS : Hid (Rising l3.xs) := by
      rw [hx3]
      refine HR.out.sub ?_
      rw [← HF.out.same]
      exact flat_kid_sub r2.ss _ HF.out.good.len _ (List.mem_of_getElem? (kx_get HF.out.kid))
    clear hx3 hg3 hR3 hB3
    go_wp2_with fail
    refine (remove_leaf l3 p f k G w3 HL3.out hkey HRS.out.small HRS.out.less (by rw [HR3.out.2.2.1]; exact HKL.out.2)).mono ?_
    rintro e w4 ⟨⟨v4, rfl⟩, l4, hx4, hu4⟩
    have HU4 : Hid (l4.xs = del p f l3.xs ∧ LeafUpd w3 w4 l3 l4) := ⟨hx4, hu4⟩
    clear hx4 hu4
    go_wp2
    refine bodyPost_ret (v := .tuple #[]) (by simp [results, Yba.results13, go_sem]) rfl ⟨⟨_, rfl⟩, ?_⟩
    have hls := HRS.out.less
    have hx4 := HU4.out.1
    rw [HR3.out.2.2.1] at hls hx4
    have hdl := del_length p f hls
    have hrich := HF.out.rich
    have hhi := HF.out.good.high _ (List.mem_of_getElem? (kx_get HF.out.kid))
    refine rem_end HR3.out.2.1 HR3.out.1 HF.out.hb HF.out.good HF.out.kid (by omega) (by omega) HR3.out.2.2.2 HU4.out.2 hx4 ?_
    rw [← HF.out.same]
    refine del_flat HF.out.good.len (kx_get HF.out.kid) (by rw [HF.out.same]; exact HR.out.less) (fun hf hp => HF.out.sub p (HIN.out hf ?_))
    rw [← HF.out.same]
    exact hp
  · have h0' : ¬ (i : Int) < (N : Int) := by omega
    go_wp2_with fail
    refine (fill_any w1 B G r i l HR1.out.1 HG.out HL.out (by have := HN.out; omega) (by have := HN.out; omega)).mono ?_
    rintro e w2 ⟨j, r2, l2, rfl, hF⟩
    have HF : Hid (Filled w1 w2 B G r l j r2 l2) := hF
    have HKL : Hid (r2.ks.length < 1000 ∧ l2.xs.length < 1000) := by
      have h1 := flat_length r2.ss _ hF.good.len hF.good.low
      have h2 := hF.good.len
      have h3 := hF.good.high _ (List.mem_of_getElem? (kx_get hF.kid))
      have h4 := hF.same
      have h5 := (HR.out.less)
      have h6 : r2.ss.Sublist (flat r.ss (r.ks.map Nd.xs)) := by rw [← h4]; exact flat_seps_sub r2.ss _ h2
      have h7 : r2.ss.length ≤ 998 := by
        have h8 := rising_length (HR.out.sub h6)
        have h9 := rising_length HR.out
        rw [← h4] at h9
        omega
      rw [List.length_map] at h2
      exact ⟨by omega, by omega⟩
    clear hF d0 d1
    go_wp2_with fail
    rw [← HF.out.hb]
    refine (child_any w2 B G r2 j l2 HF.out.root HF.out.kid HKL.out.1 HKL.out.2).mono ?_
    rintro e w3 ⟨l3, rfl, hx3, hg3, hR3, hB3, _⟩
    have HR3 : Hid (RootAt w3 B G { r2 with ks := r2.ks.set j l3 } ∧ Below B w w3 ∧ l3.xs = l2.xs ∧ l3.gen = G) := ⟨hR3, (HR1.out.2.trans HF.out.below).trans hB3, hx3, hg3⟩
    have HL3 : Hid (LeafAt w3 l3) := hR3.leaf l3 (List.mem_of_getElem? (i := j) (List.getElem?_set_self (List.getElem?_eq_some_iff.1 HF.out.kid).1))
    have HRS : Hid (Rising l3.xs) := by
      rw [hx3]
      refine HR.out.sub ?_
      rw [← HF.out.same]
      exact flat_kid_sub r2.ss _ HF.out.good.len _ (List.mem_of_getElem? (kx_get HF.out.kid))
    clear hx3 hg3 hR3 hB3
    go_wp2_with fail
    refine (remove_leaf l3 p f k G w3 HL3.out hkey HRS.out.small HRS.out.less (by rw [HR3.out.2.2.1]; exact HKL.out.2)).mono ?_
    rintro e w4 ⟨⟨v4, rfl⟩, l4, hx4, hu4⟩
    have HU4 : Hid (l4.xs = del p f l3.xs ∧ LeafUpd w3 w4 l3 l4) := ⟨hx4, hu4⟩
    clear hx4 hu4
    go_wp2
    refine bodyPost_ret (v := .tuple #[]) (by simp [results, Yba.results13, go_sem]) rfl ⟨⟨_, rfl⟩, ?_⟩
    have hls := HRS.out.less
    have hx4 := HU4.out.1
    rw [HR3.out.2.2.1] at hls hx4
    have hdl := del_length p f hls
    have hrich := HF.out.rich
    have hhi := HF.out.good.high _ (List.mem_of_getElem? (kx_get HF.out.kid))
    refine rem_end HR3.out.2.1 HR3.out.1 HF.out.hb HF.out.good HF.out.kid (by omega) (by omega) HR3.out.2.2.2 HU4.out.2 hx4 ?_
    rw [← HF.out.same]
    refine del_flat HF.out.good.len (kx_get HF.out.kid) (by rw [HF.out.same]; exact HR.out.less) (fun hf hp => HF.out.sub p (HIN.out hf ?_))
    rw [← HF.out.same]
    exact hp
end Go.Proofs.Ybulkira
