import Derived.Test.YbulkiroFmtHAccept
import Derived.LaidEqlPtr
namespace Go.Proofs.YbulkiroFmt
open Go.RowKit
set_option linter.unusedVariables false

/-- two blocks: one fresh, the other whatever it be, but not empty -/
theorem same_other {P : Program} (w : World) {a b : Addr} {ca cb : Array Value} {ta tb : TypeId} {fr : Nat × Nat} (hne : a.block ≠ b.block) (ha : w.heap[a.block]? = some (.cells ca ta (0, 0))) (hb : w.heap[b.block]? = some (.cells cb tb fr)) (hcb : cb.size ≠ 0) :
    (sameAddr a b).run P w = .ok false w := by
  obtain ⟨k, hk⟩ : ∃ k, cb.size = k + 1 := ⟨cb.size - 1, by omega⟩
  simp [sameAddr, hne, World.frozen?, ha, hb, noView, viewAt, World.shape?, mayBeOne, stringish, hk]

theorem neq_other {P : Program} (w : World) (tp te : TypeId) {a b : Addr} {ca cb : Array Value} {ta tb : TypeId} {fr : Nat × Nat} (hp : P.underlying tp = some (.pointer te)) (hte : ∃ j, P.info? te = some j ∧ j.size ≠ 0) (hne : a.block ≠ b.block) (ha : w.heap[a.block]? = some (.cells ca ta (0, 0))) (hb : w.heap[b.block]? = some (.cells cb tb fr)) (hcb : cb.size ≠ 0) :
    (binOp .neq tp (.pointer (some a)) (.pointer (some b))).run P w = .ok (.bool true) w := by
  obtain ⟨j, hte, hsz⟩ := hte
  have h : ∀ d : Nat, (Op.equalIn (d + 1) tp (.pointer (some a)) (.pointer (some b))).run P w = .ok false w := fun d => by
    simp [Op.equalIn, run_underlying hp, sizeOf, typeInfo, hte, hsz, same_other w hne ha hb hcb]
  simp only [binOp]
  simp [Op.equal, Op.maxDepth, h 9999]

set_option maxHeartbeats 1000000 in
theorem fresh_big (a : Option Addr) (len cap : Nat) (w : World) (hl : ¬ len ≤ 1024) :
    Calls Ybaf.prog 4 #[.slice a len cap] w fun e w' => e = .returned (.bool true) ∧ Below w.heap.size w w' := by
  have h1 : (1024 : Int) < (len : Int) := by omega
  go_enter Ybaf.func4, Ybaf.ntmps4
  go_wp2
  go_ret
  exact ⟨rfl, Below.refl _ _⟩

set_option maxHeartbeats 1000000 in
theorem fresh_no (a : Option Addr) (len cap : Nat) (S : Nat → ByteArray) (w : World) (hl : len ≤ 1024) (h : Came w a len cap S) (hr : ¬ Rising S len) :
    Calls Ybaf.prog 4 #[.slice a len cap] w fun e w' => e = .returned (.bool true) ∧ Below w.heap.size w w' := by
  have h1 : ¬ (1024 : Int) < (len : Int) := by omega
  have k1 := Ybaf.ifneq
  have HC : Hid (Came w a len cap S) := h
  clear h
  go_enter Ybaf.func4, Ybaf.ntmps4
  go_wp2_with fail
  refine (hosts_no a len cap S w hl HC.out hr).mono ?_
  rintro e w1 ⟨p, rfl, hb1⟩
  have HB : Hid (Below w.heap.size w w1) := hb1
  have hs : w.heap.size ≤ w1.heap.size := hb1.size
  clear hb1
  go_wp2
  go_ret
  exact ⟨rfl, HB.out.alloc hs _⟩

set_option maxHeartbeats 1000000 in
theorem fresh_nil (S : Nat → ByteArray) (w : World) :
    Calls Ybaf.prog 4 #[.slice none 0 0] w fun e w' => e = .returned (.bool true) ∧ Below w.heap.size w w' := by
  have k1 := Ybaf.nilneq
  go_enter Ybaf.func4, Ybaf.ntmps4
  go_wp2_with fail
  refine (hosts_nil S w).mono ?_
  rintro e w1 ⟨rfl, hb1⟩
  have HB : Hid (Below w.heap.size w w1) := hb1
  have hs : w.heap.size ≤ w1.heap.size := hb1.size
  clear hb1
  go_wp2
  go_ret
  exact ⟨rfl, HB.out.alloc hs _⟩

theorem Ybaf.size9 : ∃ j, Ybaf.prog.info? 9 = some j ∧ j.size ≠ 0 := by
  obtain ⟨i0, hi, hz0, hz1, hz2⟩ := info_parts Ybaf.info9
  exact ⟨i0, hi, by omega⟩

set_option maxHeartbeats 1000000 in
theorem fresh_yes (b off len cap : Nat) (S : Nat → ByteArray) (w : World) (hl : len ≤ 1024) (hb : b < w.heap.size) (hc : ∀ t, t < len → w.cell? ⟨b, off + t, none⟩ = some (.string (S t))) (hr : Rising S len) (hbk : ∃ cs t fr, w.heap[b]? = some (.cells cs t fr)) :
    Calls Ybaf.prog 4 #[.slice (some ⟨b, off, none⟩) len cap] w fun e w' => e = .returned (.bool true) ∧ Below w.heap.size w w' := by
  have h1 : ¬ (1024 : Int) < (len : Int) := by omega
  have k1 := Ybaf.nilneq
  have HCC : Hid (∀ t, t < len → w.cell? ⟨b, off + t, none⟩ = some (.string (S t))) := hc
  have HBK : Hid (∃ cs t fr, w.heap[b]? = some (.cells cs t fr)) := hbk
  clear hc hbk
  go_enter Ybaf.func4, Ybaf.ntmps4
  go_wp2_with fail
  refine (hosts_yes b off len cap S w hl hb HCC.out hr).mono ?_
  rintro e w1 ⟨g, c, rfl, hb1⟩
  have HB : Hid (Copied w w1 g len S) := hb1
  have hs : w.heap.size ≤ w1.heap.size := hb1.below.size
  have hg1 : g < w1.heap.size := by
    obtain ⟨cs, t, h⟩ := hb1.block
    exact (Array.getElem?_eq_some_iff.1 h).1
  clear hb1
  by_cases h0 : len = 0
  · subst h0
    go_wp2
    go_ret
    exact ⟨rfl, HB.out.below.alloc hs _⟩
  · have h0' : ¬ ((len : Int) = 0) := by omega
    have h0'' : (0 : Int) < (len : Int) := by omega
    go_upto_region 4 with fail
    generalize hW : w1.alloc (.cells #[.slice (some ⟨g, 0, none⟩) len c] 24) = W2 at *
    have HB2 : Hid (Below w.heap.size w W2) := by rw [← hW]; exact HB.out.below.alloc hs _
    have hz2 : w1.heap.size < W2.heap.size := by rw [← hW]; simp
    have c2 : W2.cell? ⟨w1.heap.size, 0, none⟩ = some (.slice (some ⟨g, 0, none⟩) len c) := by rw [← hW]; exact cell_new w1 _ _ _
    have hN : ∀ n, (binOp .neq 30 (.pointer (some ⟨g, 0, none⟩)) (.pointer (some ⟨b, off, none⟩))).run Ybaf.prog (W2.drewN n) = .ok (.bool true) (W2.drewN n) := by
      intro n
      obtain ⟨cs, t, hg⟩ := HB.out.block
      obtain ⟨cb, tb, fr, hbb⟩ := HBK.out
      have hgn := HB.out.new
      have e1 : W2.heap[g]? = some (.cells cs t (0, 0)) := by rw [← hW]; exact (Below.heap_alloc _ _ _ hg1).trans hg
      have e2 : W2.heap[b]? = some (.cells cb tb fr) := (HB2.out.block b hb).trans hbb
      have e3 : cb.size ≠ 0 := by
        have := HCC.out 0 (by omega)
        rw [World.cell?, hbb] at this
        intro h
        have h' := (Array.getElem?_eq_some_iff.1 (by simpa using this)).1
        omega
      exact neq_other (W2.drewN n) 30 9 (a := ⟨g, 0, none⟩) (b := ⟨b, off, none⟩) Ybaf.underlying30 Ybaf.size9 (by simp; omega) e1 e2 e3
    clear hW HB
    go_wp2
    go_quiet (fail)
    go_wp2
    go_ret
    exact ⟨rfl, below_drewN HB2.out _⟩

theorem fresh_any (a : Option Addr) (len cap : Nat) (S : Nat → ByteArray) (w : World) (h : Came w a len cap S) (hbk : ∀ x, a = some x → ∃ cs t fr, w.heap[x.block]? = some (.cells cs t fr)) :
    Calls Ybaf.prog 4 #[.slice a len cap] w fun e w' => e = .returned (.bool true) ∧ Below w.heap.size w w' := by
  by_cases hl : len ≤ 1024
  · by_cases hr : Rising S len
    · rcases h with ⟨rfl, rfl, rfl⟩ | ⟨b, off, rfl, hb, hc⟩
      · exact fresh_nil S w
      · exact fresh_yes b off len cap S w hl hb hc hr (hbk _ rfl)
    · exact fresh_no a len cap S w hl h hr
  · exact fresh_big a len cap w hl

section
open Go.ChangeShapes Go.WideShapes Go.ChangeAt Go.RowKit Go.Kit
open Go.Extern.Stop Go.Stop Go.Extern
set_option maxRecDepth 100000 in
theorem fresh_lifted (os : Os) (started : os.Started) (H : Type) (enc : TypeId × Value → H) :
    ReturnsInTold none {} Ybaf.checked os 4 .any Input.okWide ((OpenSpec.ofChange Rows.lawS0469BFreshSpec).preRow enc Ybaf.prog Ybaf.f4 [] false [])
      (fun F => ((OpenSpec.ofChange Rows.lawS0469BFreshSpec).at F).post enc Ybaf.prog Ybaf.f4 false true false false) (aloneAtReturn Ybaf.prog) nothingAlways := by
  refine returnsInTold_of_row (C := Ybaf.checked) (s := OpenSpec.ofChange Rows.lawS0469BFreshSpec) (by kernel_rfl) Ybaf.own started (by kernel_rfl) Ybaf.func4
    (OpenSpec.witness_stopped (enc := enc) (C := Ybaf.checked) false ⟨#[], #[.slice none 0 0], []⟩ 8 (by kernel_rfl) (by kernel_rfl) (by kernel_rfl) (by kernel_rfl)) ?_
  intro F W base args ds gs before _ hF hval0 hW _ _ hsz _ _
  have hval : ∀ (j : Nat) t v, Ybaf.f4.params[j]? = some t → args[j]? = some v → Value.okWide Ybaf.prog W .any base t v := hval0
  have hW' := hW
  obtain ⟨p, q, hA0, hV, rfl, hfz, hnd⟩ := hW
  have hA : DataW.TrodAll enc Ybaf.prog W 0 (fun _ => true) true Ybaf.f4.params.toList args.toList ds p := hA0
  rw [Ybaf.params4] at hA hval
  obtain ⟨v0, vs0, d0, ds0, p0, q0, hargs, rfl, rfl, h0, r0⟩ := trodAll_cons hA
  obtain ⟨rfl, rfl, rfl⟩ := trodAll_nil r0
  obtain rfl : args = #[v0] := by cases args; simp_all
  obtain ⟨rfl, rfl⟩ := trodVars_none hV
  have hv0 := hval 0 22 v0 rfl rfl
  obtain ⟨a0, len0, cap0, rfl⟩ := okWide_slice Ybaf.underlying22 hv0
  have k0 := h0
  have lt0 : ∀ x ∈ p0, x.block < W.heap.size := by obtain ⟨m, hm⟩ := k0; exact DataW.trod_lt m _ _ _ hm
  obtain ⟨S, hS⟩ := came_of hv0 h0
  clear hA0 hval0
  refine (fresh_any a0 len0 cap0 S W hS (fun x hx => by subst hx; exact (slice_lies hv0).2)).mono fun e W' ⟨he, bel⟩ => ?_
  subst he
  exact ⟨_, rfl, _, _, _, [], _, [], hW', trodAll_mk1 (shut_bool Ybaf.underlying4 _), (trodAll_cons_mk (Below.trod Ybaf.laidOut (by kernel_rfl) (of_decide_eq_true (by kernel_rfl)) k0 bel lt0) trodAll_mk0), rfl, bel.frame _, fun h => by cases h⟩

theorem fresh_told : Rows.LawS0469BFreshToldSaid :=
  Claim7.holds_of_told_any 4 Ybaf.f4 "fmt.errorf" [] [] _ _ _ (by kernel_rfl) rfl rfl rfl Ybaf.laidOut (by kernel_rfl) rfl ⟨rfl, rfl, rfl, rfl, rfl, rfl, rfl⟩ rfl rfl (by kernel_rfl) (by kernel_rfl) Ybaf.func4 (by kernel_rfl)
    (of_decide_eq_true (by kernel_rfl)) (of_decide_eq_true (by kernel_rfl)) Ybaf.stops.symm rfl Ybaf.stopKnobs.symm (by kernel_rfl)
    (by kernel_rfl) (by kernel_rfl) (by kernel_rfl) (by kernel_rfl) (by kernel_rfl) (by kernel_rfl) (by kernel_rfl) (by kernel_rfl) (by kernel_rfl) rfl (by kernel_rfl) rfl rfl
    rfl rfl
    rfl (by kernel_rfl) (by kernel_rfl) (by kernel_rfl) (by decide) (by kernel_rfl)
    (OpenClaim.moreEntering_of (by kernel_rfl) (by kernel_rfl) (by kernel_rfl) (by kernel_rfl) (by kernel_rfl) (by kernel_rfl) (by kernel_rfl) (by kernel_rfl) (by kernel_rfl) (by kernel_rfl))
    ⟨_, WideRow.started_initial, Ybaf.quiet _⟩
    (fun os started _ H enc _ => fresh_lifted os started H enc)
end
end Go.Proofs.YbulkiroFmt
