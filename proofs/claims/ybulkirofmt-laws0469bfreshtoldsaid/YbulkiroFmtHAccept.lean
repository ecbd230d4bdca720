import Derived.Test.YbulkiroFmtCards
import Derived.Test.YbulkiroFmtHLaw
import Derived.ProofKit
import Derived.OpenShut
import Derived.ChangeSlices
import Derived.SliceStrings
import Derived.ChangeSame
import Derived.ChangeMaps5
import Derived.JoinedOf
import Derived.Carry
import Derived.Stop.JoinedAt
import Derived.Stop.Texts
import Derived.Stop.JoinedTold
import Derived.SizedLaws
import Derived.SevenToldRow
namespace Go.Proofs.YbulkiroFmt
open Go.ChangeShapes Go.WideShapes Go.ChangeAt Go.RowKit Go.Kit
open Go.Extern.Stop Go.Stop Go.Extern
set_option linter.unusedVariables false

theorem Ybaf.own : ownKnob Ybaf.prog.godebug = none := by kernel_rfl
theorem Ybaf.laidOut : laidOutB Ybaf.pinned.checked.prog = true := by kernel_rfl
theorem Ybaf.stops : Ybaf.pinned.checked.prog.stops = ["fmt.errorf"] := by kernel_rfl
theorem Ybaf.stopKnobs : Ybaf.pinned.checked.prog.stopKnobs = [] := by kernel_rfl
theorem Ybaf.quiet (os : Os) : Stop.quiet Ybaf.pinned.checked.prog os := by
  intro k hk
  rw [Ybaf.stopKnobs] at hk
  cases hk

/-- where a slice that came in lies, also one that holds nothing -/
theorem slice_lies {W : World} {base : Nat} {x : Addr} {len cap : Nat} (hv : Value.okWide Ybaf.prog W .any base 22 (.slice (some x) len cap)) :
    x.spot = none ∧ ∃ cs t fr, W.heap[x.block]? = some (.cells cs t fr) := by
  simp only [Value.okWide, Cell.okWide, Cell.ok, Ybaf.underlying22] at hv
  obtain ⟨_, _, _, hsp, row, cells, hsh, _⟩ := hv
  refine ⟨hsp, ?_⟩
  unfold World.shape? at hsh
  split at hsh
  · exact ⟨_, _, _, by assumption⟩
  · cases hsh

theorem came_of {H : Type} {enc : TypeId × Value → H} {W : World} {base : Nat} {a : Option Addr} {len cap : Nat} {d : DataW H} {ps : List MemPlace}
    (hv : Value.okWide Ybaf.prog W .any base 22 (.slice a len cap)) (h : DataW.Trod enc Ybaf.prog W 0 (fun _ => true) true 22 (.slice a len cap) d ps) :
    ∃ S, Came W a len cap S := by
  obtain ⟨fuel, hf⟩ := h
  rcases open_strings Ybaf.underlying22 Ybaf.underlying9 (by kernel_rfl) hf with ⟨hcs, _⟩ | ⟨x, l, c, ss, hcs, _, hl, hm, hz, _, hcell, _⟩
  · simp [Value.cells] at hcs
    obtain ⟨rfl, rfl, rfl⟩ := hcs
    exact ⟨fun _ => ByteArray.empty, .inl ⟨rfl, rfl, rfl⟩⟩
  · simp [Value.cells] at hcs
    obtain ⟨rfl, rfl, rfl⟩ := hcs
    refine ⟨fun i => ss.getD i ByteArray.empty, .inr ?_⟩
    obtain ⟨hsp, cs, t, fr, hb⟩ := slice_lies hv
    obtain ⟨b, off, spot⟩ := x
    have hz' : ss.length = cap := by simpa using hz
    have hspot : spot = none := hsp
    subst hspot
    refine ⟨b, off, rfl, (Array.getElem?_eq_some_iff.1 hb).1, fun t ht => ?_⟩
    have := hcell t (by omega)
    rwa [Addr.add_lit] at this

set_option maxRecDepth 100000 in
theorem accept_lifted (os : Os) (started : os.Started) (H : Type) (enc : TypeId × Value → H) :
    ReturnsInTold none {} Ybaf.checked os 3 .any Input.okWide ((OpenSpec.ofChange Rows.lawS0469BAcceptSpec).preRow enc Ybaf.prog Ybaf.f3 [] false [])
      (fun F => ((OpenSpec.ofChange Rows.lawS0469BAcceptSpec).at F).post enc Ybaf.prog Ybaf.f3 false true false false) (aloneAtReturn Ybaf.prog) nothingAlways := by
  refine returnsInTold_of_row (C := Ybaf.checked) (s := OpenSpec.ofChange Rows.lawS0469BAcceptSpec) (by kernel_rfl) Ybaf.own started (by kernel_rfl) Ybaf.func3
    (OpenSpec.witness_stopped (enc := enc) (C := Ybaf.checked) false ⟨#[], #[.slice none 0 0], []⟩ 8 (by kernel_rfl) (by kernel_rfl) (by kernel_rfl) (by kernel_rfl)) ?_
  intro F W base args ds gs before _ hF hval0 hW _ _ hsz _ _
  have hval : ∀ (j : Nat) t v, Ybaf.f3.params[j]? = some t → args[j]? = some v → Value.okWide Ybaf.prog W .any base t v := hval0
  have hW' := hW
  obtain ⟨p, q, hA0, hV, rfl, hfz, hnd⟩ := hW
  have hA : DataW.TrodAll enc Ybaf.prog W 0 (fun _ => true) true Ybaf.f3.params.toList args.toList ds p := hA0
  rw [Ybaf.params3] at hA hval
  obtain ⟨v0, vs0, d0, ds0, p0, q0, hargs, rfl, rfl, h0, r0⟩ := trodAll_cons hA
  obtain ⟨rfl, rfl, rfl⟩ := trodAll_nil r0
  obtain rfl : args = #[v0] := by cases args; simp_all
  obtain ⟨rfl, rfl⟩ := trodVars_none hV
  have hv0 := hval 0 22 v0 rfl rfl
  obtain ⟨a0, len0, cap0, rfl⟩ := okWide_slice Ybaf.underlying22 hv0
  have k0 := h0
  have lt0 : ∀ x ∈ p0, x.block < W.heap.size := by obtain ⟨m, hm⟩ := k0; exact DataW.trod_lt m _ _ _ hm
  obtain ⟨S, hS⟩ := came_of hv0 h0
  clear hA0 hval0
  refine (accept_any a0 len0 cap0 S W hS).mono fun e W' ⟨he, bel⟩ => ?_
  subst he
  exact ⟨_, rfl, _, _, _, [], _, [], hW', trodAll_mk1 (shut_bool Ybaf.underlying4 _), (trodAll_cons_mk (Below.trod Ybaf.laidOut (by kernel_rfl) (of_decide_eq_true (by kernel_rfl)) k0 bel lt0) trodAll_mk0), rfl, bel.frame _, fun h => by cases h⟩

theorem accept_told : Rows.LawS0469BAcceptToldSaid :=
  Claim7.holds_of_told_any 3 Ybaf.f3 "fmt.errorf" [] [] _ _ _ (by kernel_rfl) rfl rfl rfl Ybaf.laidOut (by kernel_rfl) rfl ⟨rfl, rfl, rfl, rfl, rfl, rfl, rfl⟩ rfl rfl (by kernel_rfl) (by kernel_rfl) Ybaf.func3 (by kernel_rfl)
    (of_decide_eq_true (by kernel_rfl)) (of_decide_eq_true (by kernel_rfl)) Ybaf.stops.symm rfl Ybaf.stopKnobs.symm (by kernel_rfl)
    (by kernel_rfl) (by kernel_rfl) (by kernel_rfl) (by kernel_rfl) (by kernel_rfl) (by kernel_rfl) (by kernel_rfl) (by kernel_rfl) (by kernel_rfl) rfl (by kernel_rfl) rfl rfl
    rfl rfl
    rfl (by kernel_rfl) (by kernel_rfl) (by kernel_rfl) (by decide) (by kernel_rfl)
    (OpenClaim.moreEntering_of (by kernel_rfl) (by kernel_rfl) (by kernel_rfl) (by kernel_rfl) (by kernel_rfl) (by kernel_rfl) (by kernel_rfl) (by kernel_rfl) (by kernel_rfl) (by kernel_rfl))
    ⟨_, WideRow.started_initial, Ybaf.quiet _⟩
    (fun os started _ H enc _ => accept_lifted os started H enc)

end Go.Proofs.YbulkiroFmt
