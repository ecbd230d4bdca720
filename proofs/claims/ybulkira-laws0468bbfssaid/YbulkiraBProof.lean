import Derived.Test.YbulkiraBLaw
import Derived.ChangeOld
import Derived.Below
import Derived.WalkKit
import Derived.ProofKit
import Derived.OpenShut
import Derived.ShutString
import Derived.Deep.SlicePairs
namespace Go.Proofs.Ybulkira
namespace ProofBfs
open Go.ChangeShapes Go.WideShapes Go.ChangeAt Go.RowKit
set_option linter.unusedVariables false

theorem own : ownKnob Yba.prog.godebug = none := by kernel_rfl
theorem laidOut : laidOutB Yba.prog = true := by kernel_rfl

theorem walk (n s : Int) (a : Option Addr) (len cap : Nat) (F T : Nat → Int) (limit mask : Int) (w : World) (n0 : 0 ≤ n) (n1 : n ≤ 255) (s0 : 0 ≤ s) (s1 : s ≤ 255) (m0 : 0 ≤ mask) (m1 : mask ≤ 4294967295)
    (hF : ∀ i, i < len → 0 ≤ F i ∧ F i ≤ 255) (hT : ∀ i, i < len → 0 ≤ T i ∧ T i ≤ 255) (hE : Pairs w a len F T) :
    Calls Yba.prog 3 #[.int .u8 n, .int .u8 s, .slice a len cap, .int .i64 limit, .int .u32 mask] w fun e w' => e = .returned (.bool true) ∧ Below w.heap.size w w' := by
  by_cases h : 1024 < len
  · exact bfs_long n s a len cap limit mask w h
  · exact bfs_main n s a len cap F T limit mask w (by omega) n0 n1 s0 s1 m0 m1 hF hT hE

set_option maxRecDepth 100000 in
theorem lifted (os : Os) (started : os.Started) (H : Type) (enc : TypeId × Value → H) :
    ReturnsInHanded {} Yba.checked os 3 .any (Rows.lawS0468BBfsSpec.pre6 enc Yba.prog Yba.f3 Rows.lawS0468BBfsRow.domain false) (Rows.lawS0468BBfsSpec.post enc Yba.prog Yba.f3 false true false false) := by
  refine returnsInHanded_of_change (C := Yba.checked) own started (by kernel_rfl) Yba.func3
    (ChangeSpec.witness6 (enc := enc) (C := Yba.checked) false ⟨#[], #[.int .u8 0, .int .u8 0, .slice none 0 0, .int .i64 0, .int .u32 0], []⟩ 8 (by kernel_rfl) (by kernel_rfl) (by kernel_rfl) (by kernel_rfl)) ?_
  intro W base args ds gs before hval0 hW hcnd _
  have hval : ∀ (j : Nat) t v, Yba.f3.params[j]? = some t → args[j]? = some v → Value.okWide Yba.prog W .any base t v := hval0
  have hW' := hW
  obtain ⟨p, q, hA0, hV, rfl, hfz, hnd⟩ := hW
  have hA : DataW.TrodAll enc Yba.prog W 0 (fun _ => true) true Yba.f3.params.toList args.toList ds p := hA0
  rw [Yba.params3] at hA hval
  obtain ⟨v0, vs0, d0, ds0, p0, q0, hargs, rfl, rfl, h0, r0⟩ := trodAll_cons hA
  obtain ⟨v1, vs1, d1, ds1, p1, q1, rfl, rfl, rfl, h1, r1⟩ := trodAll_cons r0
  obtain ⟨v2, vs2, d2, ds2, p2, q2, rfl, rfl, rfl, h2, r2⟩ := trodAll_cons r1
  obtain ⟨v3, vs3, d3, ds3, p3, q3, rfl, rfl, rfl, h3, r3⟩ := trodAll_cons r2
  obtain ⟨v4, vs4, d4, ds4, p4, q4, rfl, rfl, rfl, h4, r4⟩ := trodAll_cons r3
  obtain ⟨rfl, rfl, rfl⟩ := trodAll_nil r4
  obtain rfl : args = #[v0, v1, v2, v3, v4] := by cases args; simp_all
  obtain ⟨rfl, rfl⟩ := trodVars_none hV
  obtain ⟨a0, rfl, rfl, rfl, w0⟩ := open_int Yba.underlying5 (hval 0 5 v0 rfl rfl) h0
  obtain ⟨a1, rfl, rfl, rfl, w1⟩ := open_int Yba.underlying5 (hval 1 5 v1 rfl rfl) h1
  obtain ⟨a2, len2, cap2, rfl⟩ := okWide_slice Yba.underlying22 (hval 2 22 v2 rfl rfl)
  obtain ⟨a3, rfl, rfl, rfl, w3⟩ := open_int Yba.underlying3 (hval 3 3 v3 rfl rfl) h3
  obtain ⟨a4, rfl, rfl, rfl, w4⟩ := open_int Yba.underlying23 (hval 4 23 v4 rfl rfl) h4
  have k2 := h2
  have lt2 : ∀ x ∈ p2, x.block < W.heap.size := by obtain ⟨m, hm⟩ := k2; exact DataW.trod_lt m _ _ _ hm
  obtain ⟨F, T, hF, hT, hS⟩ : ∃ F T : Nat → Int, (∀ i, i < len2 → 0 ≤ F i ∧ F i ≤ 255) ∧ (∀ i, i < len2 → 0 ≤ T i ∧ T i ≤ 255) ∧ Pairs W a2 len2 F T := by
    obtain ⟨fuel, hf⟩ := h2
    rcases Go.Deep.open_slice_pairs Yba.underlying22 Yba.underlying27 (by kernel_rfl) rfl rfl (by kernel_rfl) (by kernel_rfl) hf with ⟨hcs, _⟩ | ⟨x, l, c, m, nf, V0, V1, D0, D1, P0, P1, hcs, _, hl, hm, hmm, _, hcell⟩
    · simp [Value.cells] at hcs
      obtain ⟨rfl, rfl, rfl⟩ := hcs
      exact ⟨fun _ => 0, fun _ => 0, fun i hi => absurd hi (by omega), fun i hi => absurd hi (by omega), fun h => absurd h (by omega)⟩
    · simp [Value.cells] at hcs
      obtain ⟨rfl, rfl, rfl⟩ := hcs
      have hmc : m = cap2 := by simpa using hmm
      have hnum : ∀ i, i < m → ∃ f t : Int, V0 i = .int .u8 f ∧ V1 i = .int .u8 t ∧ (Lit.int .u8 f).wf = true ∧ (Lit.int .u8 t).wf = true := by
        intro i hi
        obtain ⟨_, _, t0, t1⟩ := hcell i hi
        obtain ⟨f, e0, _, wf0⟩ := DataW.trod_int Yba.underlying5 t0
        obtain ⟨t, e1, _, wf1⟩ := DataW.trod_int Yba.underlying5 t1
        simp at e0 e1
        exact ⟨f, t, e0, e1, wf0, wf1⟩
      refine ⟨fun i => intOf (V0 i), fun i => intOf (V1 i), ?_, ?_, ?_⟩
      · intro i hi
        obtain ⟨f, t, e0, e1, wf0, wf1⟩ := hnum i (by omega)
        simp only [e0, intOf]
        exact bounds_u8 wf0
      · intro i hi
        obtain ⟨f, t, e0, e1, wf0, wf1⟩ := hnum i (by omega)
        simp only [e1, intOf]
        exact bounds_u8 wf1
      · intro h
        obtain ⟨b, off, spot⟩ := x
        have hc0 := (hcell 0 (by omega)).1
        have hspot : spot = none := by simpa [Addr.add] using World.cell?_spot hc0
        subst hspot
        refine ⟨b, off, rfl, World.block_lt_of_cell? W _ hc0, fun t ht => ?_⟩
        obtain ⟨f, t', e0, e1, wf0, wf1⟩ := hnum t (by omega)
        obtain ⟨g0, g1, _, _⟩ := hcell t (by omega)
        rw [Addr.add_lit] at g0 g1
        rw [e0] at g0
        rw [e1] at g1
        simp only [e0, e1, intOf]
        exact ⟨g0, by rw [Nat.add_assoc]; exact g1⟩
  clear hA0 hval0
  have x0 := bounds_u8 w0
  have x1 := bounds_u8 w1
  have x4 := bounds_u32 w4
  refine (walk a0 a1 a2 len2 cap2 F T a3 a4 W x0.1 x0.2 x1.1 x1.2 x4.1 x4.2 hF hT hS).mono fun e W' ⟨he, bel⟩ => ?_
  subst he
  exact ⟨_, rfl, _, _, _, [], _, [], hW', trodAll_mk1 (shut_bool Yba.underlying4 _), (trodAll_cons_mk (shut_int Yba.underlying5 w0) (trodAll_cons_mk (shut_int Yba.underlying5 w1) (trodAll_cons_mk (Below.trod laidOut (by kernel_rfl) (of_decide_eq_true (by kernel_rfl)) k2 bel lt2) (trodAll_cons_mk (shut_int Yba.underlying3 w3) (trodAll_cons_mk (shut_int Yba.underlying23 w4) trodAll_mk0))))), rfl, bel.frame _, fun h => by cases h⟩

theorem over : Rows.lawS0468BBfsRow.holds Yba.pinned (OpenSpec.ofChange Rows.lawS0468BBfsSpec) :=
  OpenClaim.holds_of_wide 3 Yba.f3 rfl rfl rfl rfl rfl rfl rfl ⟨rfl, rfl, rfl, rfl, rfl⟩ rfl rfl rfl rfl rfl (by kernel_rfl) Yba.func3 (by kernel_rfl)
    (of_decide_eq_true (by kernel_rfl)) (by unfold Func.isWrapper; first | (rw [if_pos (by decide +kernel)]; kernel_rfl) | (rw [if_neg (by decide +kernel)]; exact ⟨rfl, rfl⟩))
    (fun os started H enc _ => lifted os started H enc)
end ProofBfs

theorem bfs_proved : Rows.LawS0468BBfsSaid := ProofBfs.over
end Go.Proofs.Ybulkira
