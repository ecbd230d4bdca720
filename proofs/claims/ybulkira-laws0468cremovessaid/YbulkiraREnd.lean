import Derived.Test.YbulkiraRFirst
namespace Go.Proofs.Ybulkira
open Go.RowKit
set_option linter.unusedVariables false

section
variable {P : Program} {ops : Array Oper} {Q : Exit → Act → World → Prop} {md : Region.Mode} {S : World → Prop} {E : Nat}

/-- Any order; S holds behind every operation but number E, which waits for all the others (the store at a statement's end). -/
def AnyE (P : Program) (md : Region.Mode) (ops : Array Oper) (Q : Exit → Act → World → Prop) (S : World → Prop) (E : Nat) : Nat → Array Bool → Act → World → Prop
  | 0, listed, a, w => Region.ready md ops listed = [] ∧ Q .normal a w
  | n + 1, listed, a, w => (Region.ready md ops listed = [] → Q .normal a w) ∧
      ∀ i ∈ Region.ready md ops listed, wpOp P ops Q i (fun a' w' => (i ≠ E → S w') ∧ AnyE P md ops Q S E n (listed.setIfInBounds i true) a' w') a w

theorem anyE_sound : ∀ (n : Nat) (listed : Array Bool) (a : Act) (w : World), AnyE P md ops Q S E n listed a w → wpAny P md ops Q n listed a w
  | 0, _, _, _, h => h
  | n + 1, _, _, _, h => ⟨h.1, fun i hi => wpOp_mono (fun a' w' k => anyE_sound n _ a' w' k.2) (h.2 i hi)⟩

theorem anyE_first {i : Nat} {oi : Oper} {v : Value} (hi : ops[i]? = some oi) (hsel : ∀ (j : Nat) (o : Oper) cs b, ops[j]? = some o → o.op ≠ .select cs b)
    (hQ : ∀ c a w, Q (.panic c) (a.put oi.dst v) w → Q (.panic c) a w) (hE : ∀ oe, ops[E]? = some oe → ∃ x ∈ oe.after, Region.binds md x = true ∧ x.on = i) :
    ∀ (n : Nat) (listed : Array Bool) (a : Act) (w : World),
      (∀ j oj, ops[j]? = some oj → j ≠ i → listed.getD j true = false → (∀ e ∈ oj.after, Region.binds md e = true → e.on ≠ i) → oi.apart ops oj = true) →
      i ∈ Region.ready md ops listed → YieldsIf P ops S oi v a → S w →
      AnyE P md ops Q S E n (listed.setIfInBounds i true) (a.put oi.dst v) w → AnyE P md ops Q S E (n + 1) listed a w
  | 0, listed, a, w, _, hr, hy, hS, H => by
    refine ⟨fun h => (by rw [h] at hr; cases hr), fun j hj => ?_⟩
    by_cases hji : j = i
    · subst hji
      exact hy.wpOp hi hS ⟨fun _ => hS, H⟩
    · have h1 := ready_mono hj hji
      rw [H.1] at h1
      cases h1
  | n + 1, listed, a, w, hfree, hr, hy, hS, H => by
    refine ⟨fun h => (by rw [h] at hr; cases hr), fun j hj => ?_⟩
    by_cases hji : j = i
    · subst hji
      exact hy.wpOp hi hS ⟨fun _ => hS, H⟩
    · have h1 := H.2 j (ready_mono hj hji)
      obtain ⟨hjun, oj, hoj, hall⟩ := mem_ready.1 hj
      have hnot : ∀ e ∈ oj.after, Region.binds md e = true → e.on ≠ i := by
        intro e he hb heq
        have k1 := hall e he hb
        have k0 := (mem_ready.1 hr).1
        rw [heq] at k1
        rcases Nat.lt_or_ge i listed.size with h' | h'
        · simp [h'] at k0 k1
          rw [k0] at k1
          cases k1
        · simp [Array.getElem?_eq_none h'] at k1
      have hjE : j ≠ E := by
        rintro rfl
        obtain ⟨x, hx, hb, hon⟩ := hE oj hoj
        exact hnot x hx hb hon
      have h2 := wpOp_putIf hoj (hfree j oj hoj hji hjun hnot) (fun cs b => hsel i oi cs b hi) (fun cs b => hsel j oj cs b hoj) hQ hy h1
      have hfree' : ∀ k ok, ops[k]? = some ok → k ≠ i → (listed.setIfInBounds j true).getD k true = false → (∀ e ∈ ok.after, Region.binds md e = true → e.on ≠ i) → oi.apart ops ok = true := by
        intro k ok hk hki hun hno
        refine hfree k ok hk hki ?_ hno
        by_cases hjk : j = k
        · subst hjk; exact hjun
        · rw [getD_set_ne true hjk] at hun; exact hun
      refine wpOp_mono (fun a' w' h3 => ⟨h3.2.1, anyE_first hi hsel hQ hE n (listed.setIfInBounds j true) a' w' hfree' (ready_mono hr (Ne.symm hji)) h3.1 (h3.2.1 hjE) ?_⟩) h2
      rw [Array.setIfInBounds_comm _ _ hji]
      exact h3.2.2

/-- the last one waits for number i -/
def waitsE (md : Region.Mode) (ops : Array Oper) (E i : Nat) : Bool :=
  match ops[E]? with
  | none => true
  | some oe => oe.after.any fun x => Region.binds md x && x.on == i

theorem waitsE_spec {i : Nat} (h : waitsE md ops E i = true) : ∀ oe, ops[E]? = some oe → ∃ x ∈ oe.after, Region.binds md x = true ∧ x.on = i := by
  intro oe ho
  unfold waitsE at h
  rw [ho] at h
  simp only [Array.any_eq_true'] at h
  obtain ⟨x, hx, hb⟩ := h
  simp only [Bool.and_eq_true, beq_iff_eq] at hb
  exact ⟨x, hx, hb.1, hb.2⟩

theorem anyE_take {i : Nat} {oi : Oper} {v : Value} {n : Nat} {listed : Array Bool} {a : Act} {w : World} (hi : ops[i]? = some oi) (hs : Region.noSelect ops = true) (hf : Region.free md ops listed i = true)
    (hr : (Region.ready md ops listed).contains i = true) (hE : waitsE md ops E i = true) (hQ : ∀ c a w, Q (.panic c) (a.put oi.dst v) w → Q (.panic c) a w) (hy : YieldsIf P ops S oi v a) (hS : S w)
    (h : AnyE P md ops Q S E n (listed.setIfInBounds i true) (a.put oi.dst v) w) : AnyE P md ops Q S E (n + 1) listed a w :=
  anyE_first hi (Region.noSelect_spec hs) hQ (waitsE_spec hE) n listed a w (Region.free_spec hi hf) (by simpa using hr) hy hS h

theorem anyE_step {i : Nat} {o : Oper} {n : Nat} {listed : Array Bool} {a : Act} {w : World} (ho : ops[i]? = some o) (hr : Region.ready md ops listed = [i])
    (h : ∀ K' : Act → World → Prop, Shut (∀ a w, (i ≠ E → S w) → AnyE P md ops Q S E n (listed.setIfInBounds i true) a w → K' a w) → if Region.wanted o (yielded ops a.tmps) = true then Oper.wp P o a w K' Q else K' (a.put o.dst undef) w) :
    AnyE P md ops Q S E (n + 1) listed a w := by
  refine ⟨fun h0 => (by rw [hr] at h0; cases h0), fun j hj => ?_⟩
  rw [hr] at hj
  obtain rfl : j = i := by simpa using hj
  exact wpOp_step ho (fun K' hK => h K' (fun a w hS hW => hK a w ⟨hS, hW⟩))

theorem anyE_done {listed : Array Bool} {a : Act} {w : World} (hr : Region.ready md ops listed = []) (h : Q .normal a w) : ∀ n, AnyE P md ops Q S E n listed a w
  | 0 => ⟨hr, h⟩
  | _ + 1 => ⟨fun _ => h, by rw [hr]; simp⟩

theorem region_anyE (S : World → Prop) (E : Nat) {id : Nat} {a : Act} {w : World} (hm : P.follows .mixedOrders = true) (h : AnyE P .any ops Q S E ops.size (Array.replicate ops.size false) a w.drew) : (Code.region id ops true).wp P Q a w :=
  wp_region_any hm (anyE_sound _ _ _ _ h)
end
end Go.Proofs.Ybulkira
