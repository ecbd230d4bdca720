import Derived.Test.YbulkiroFmtHFmt
import Derived.Deep.QuietTactic
import Derived.BigQuiet
import Derived.Deep.RegionWith
import Derived.Deep.RegionHeld3
import Derived.Deep.DeepCutAuto
import Derived.Deep.CutBlock
namespace Go.Proofs.YbulkiroFmt
open Go.RowKit
set_option linter.unusedVariables false

/-- the slice of strings that came in -/
def Strs (w : World) (a : Option Addr) (len : Nat) (S : Nat → ByteArray) : Prop :=
  0 < len → ∃ b off, a = some ⟨b, off, none⟩ ∧ b < w.heap.size ∧ ∀ t, t < len → w.cell? ⟨b, off + t, none⟩ = some (.string (S t))

theorem Strs.more {w w' : World} {a : Option Addr} {len : Nat} {S : Nat → ByteArray} (h : Strs w a len S) (hb : Below w.heap.size w w') : Strs w' a len S := by
  intro h0
  obtain ⟨b, off, rfl, hbl, hc⟩ := h h0
  exact ⟨b, off, rfl, Nat.lt_of_lt_of_le hbl hb.size, fun t ht => (hb.cell (p := ⟨b, off + t, none⟩) hbl).trans (hc t ht)⟩

theorem Ybaf.info9 : (Ybaf.prog.info? 9).map (fun i => (i.zero, i.size, i.bytes)) = some (some (.string ⟨#[]⟩), 1, 16) := by kernel_rfl

set_option maxHeartbeats 400000 in
theorem clone_nil (w : World) : Calls Ybaf.prog 10 #[.slice none 0 0] w fun e w' => e = .returned (.slice none 0 0) ∧ w = w' := by
  have k1 : ∀ w, (binOp .eql 22 (.slice none 0 0) (.slice none 0 0)).run Ybaf.prog w = .ok (.bool true) w := fun w => by kernel_rfl
  go_enter Ybaf.func10, Ybaf.ntmps10
  go_wp2
  go_ret
  exact ⟨rfl, rfl⟩

set_option maxHeartbeats 400000 in
theorem clone_any (b off len cap : Nat) (S : Nat → ByteArray) (w : World) (hl : len ≤ 1024) (hb : b < w.heap.size) (hc : ∀ t, t < len → w.cell? ⟨b, off + t, none⟩ = some (.string (S t))) :
    Calls Ybaf.prog 10 #[.slice (some ⟨b, off, none⟩) len cap] w fun e w' => ∃ g c, e = .returned (.slice (some ⟨g, 0, none⟩) len c) ∧ w.heap.size ≤ g ∧ (∃ cs t, w'.heap[g]? = some (.cells cs t (0, 0))) ∧ (∀ t, t < len → w'.cell? ⟨g, t, none⟩ = some (.string (S t))) ∧ Below w.heap.size w w' := by
  obtain ⟨i0, hi, hz0, hz1, hz2⟩ := info_parts Ybaf.info9
  have k1 : ∀ w, (binOp .eql 22 (.slice (some ⟨b, off, none⟩) len cap) (.slice none 0 0)).run Ybaf.prog w = .ok (.bool false) w := fun w => by kernel_rfl
  obtain ⟨X, hX⟩ : ∃ X : List Value, X = (List.range len).map (fun t => .string (S t)) := ⟨_, rfl⟩
  have HXl : Hid (X.length = len) := by show X.length = len; rw [hX]; simp
  have HXg : Hid (∀ t, t < len → X[t]? = some (.string (S t))) := by intro t ht; rw [hX]; simp [ht]
  have HX1 : Hid (∀ v ∈ X, v.oneCell' = true) := by
    intro v hv
    rw [hX] at hv
    obtain ⟨t, _, rfl⟩ := List.mem_map.1 hv
    rfl
  have HXc : Hid (∀ j v, X[j]? = some v → (w.alloc (.cells #[] 9)).cell? ((⟨b, off, none⟩ : Addr).add j) = some v) := by
    intro j v hv
    have hj : j < len := by rw [← HXl.out]; exact (List.getElem?_eq_some_iff.1 hv).1
    rw [HXg.out j hj] at hv
    cases hv
    rw [Addr.add_lit]
    exact (World.cell?_of_block (w := w) (a := ⟨b, off + j, none⟩) (Below.heap_alloc w _ b hb)).trans (hc j hj)
  have HO : Hid ((w.alloc (.cells #[] 9)).ownsRow w.heap.size 9 1 (.slice (some ⟨w.heap.size, 0, none⟩) 0 0) 0 []) := World.ownsRow_made w #[] 0 (Nat.le_refl _) (Nat.zero_le _) rfl
  clear hc hX
  go_enter Ybaf.func10, Ybaf.ntmps10
  go_wp2_with (at_builtin; refine wpList_append_own _ rfl _ _ 22 rfl w.heap.size 9 i0 (.string ⟨#[]⟩) 1 16 Ybaf.underlying22 hi hz0 hz1 hz2 rfl (by decide) _ _ _ rfl HO.out ⟨b, off, none⟩ len cap X rfl ?c0 HXc.out HX1.out ?c3 ?c4 ?c5 ?_)
  case c0 => rw [HXl.out]; omega
  case c3 => unfold maxLen; omega
  case c4 => omega
  case c5 => first | omega | (simp; done) | exact Nat.le_succ _
  intro v' w1 ho hg hn
  have hvn : v' ≠ .slice none 0 0 := hn
  have hex : ∃ g c, v' = .slice (some ⟨g, 0, none⟩) len c ∧ w.heap.size ≤ g ∧ (∃ cs t, w1.heap[g]? = some (.cells cs t (0, 0))) ∧ (∀ t, t < len → w1.cell? ⟨g, t, none⟩ = some (.string (S t))) := by
    rcases ho.2 with ⟨h', _⟩ | ⟨g, c, cur, h', hbg, hgg, _, _, _, _⟩
    · exact absurd h' hvn
    · refine ⟨g, c, h', hbg, ⟨cur, 9, hgg⟩, fun t ht => ?_⟩
      have := ho.cells (g := g) (by rw [h']; rfl) t _ (HXg.out t ht)
      rwa [Addr.add_lit, Nat.zero_add] at this
  have hbel : Below w.heap.size w w1 := ((Below.refl _ _).alloc (Nat.le_refl _) _).grown hg (by simp) (fun k hk => by cases hk; exact Nat.le_refl _)
  obtain ⟨g, c, hv, hrest⟩ := hex
  rw [hv]
  clear ho hg hn hvn hv HXl HXg HX1 HXc HO
  go_wp2
  go_ret
  exact ⟨g, c, rfl, hrest.1, hrest.2.1, hrest.2.2, hbel⟩

def lessB (a b : ByteArray) : Bool := Op.bytesLess a.toList b.toList

/-- each of the names is greater than the one before it -/
def Rising (S : Nat → ByteArray) (len : Nat) : Prop := ∀ j, j + 1 < len → lessB (S j) (S (j + 1)) = true

theorem below_drewN {B : Nat} {a w : World} (h : Below B a w) (n : Nat) : Below B a (w.drewN n) := h.trans ⟨rfl, rfl, rfl, Nat.le_refl _, fun _ _ => rfl⟩

theorem less_or_eq : ∀ x y : List UInt8, (Op.bytesLess x y || x == y) = !Op.bytesLess y x
  | [], [] => rfl
  | [], _ :: _ => rfl
  | _ :: _, [] => rfl
  | a :: x, b :: y => by
    have ih := less_or_eq x y
    simp only [Op.bytesLess, List.cons_beq_cons]
    by_cases h : a = b
    · subst h
      have h1 : ¬ a < a := by simp
      simp [h1, ih]
    · have hb : (a == b) = false := by simpa using h
      have hb' : (b == a) = false := by simpa using Ne.symm h
      have hn : a.toNat ≠ b.toNat := fun e => h (UInt8.toNat_inj.1 e)
      by_cases h2 : a < b
      · have h3 : ¬ b < a := by rw [UInt8.lt_iff_toNat_lt] at *; omega
        simp [h2, h3, hb']
      · have h3 : b < a := by rw [UInt8.lt_iff_toNat_lt] at *; omega
        simp [h2, h3, hb]

/-- what NewHosts gives -/
def HostsOut (a : Option Addr) (len : Nat) (S : Nat → ByteArray) (w : World) (e : Ending) (w' : World) : Prop :=
  Below w.heap.size w w' ∧
  ((Rising S len ∧ ∃ v, e = .returned (.tuple #[.agg #[v], .nilIface]) ∧
      ((a = none ∧ v = .slice none 0 0) ∨ ∃ g c, a ≠ none ∧ v = .slice (some ⟨g, 0, none⟩) len c ∧ w.heap.size ≤ g ∧ (∃ cs t, w'.heap[g]? = some (.cells cs t (0, 0))) ∧ ∀ t, t < len → w'.cell? ⟨g, t, none⟩ = some (.string (S t)))) ∨
   (¬ Rising S len ∧ ∃ p, e = .returned (.tuple #[.agg #[.slice none 0 0], .iface 66 (.pointer (some p))])))

/-- the result's own cell, not written yet -/
structure Res (w wr : World) : Prop where
  below : Below w.heap.size w wr
  lt : w.heap.size < wr.heap.size
  cell : wr.cell? ⟨w.heap.size, 0, none⟩ = some (.slice none 0 0)
  free : wr.frozen? ⟨w.heap.size, 0, none⟩ = false

theorem cell_new (w : World) (c : Array Value) (t : TypeId) (o : Nat) : (w.alloc (.cells c t)).cell? ⟨w.heap.size, o, none⟩ = c[o]? := by
  rw [cell_of_row _ w.heap.size o c t (0, 0) (heap_alloc_new w _)]

theorem cell_past (w : World) (o : Obj) (p : Addr) (hp : p.block < w.heap.size) : (w.alloc o).cell? p = w.cell? p :=
  World.cell?_of_block (w := w) (a := p) (Below.heap_alloc w _ p.block hp)

theorem cell_set_other (w : World) (a : Addr) (v : Value) (b o : Nat) (h : a.block ≠ b ∨ a.off ≠ o) : (w.setCell a v).cell? ⟨b, o, none⟩ = w.cell? ⟨b, o, none⟩ :=
  World.cell?_setCell_other _ _ _ _ (by intro e; subst e; simp at h)

theorem cell_set_same {w : World} {a : Addr} {v v0 : Value} (h : w.cell? a = some v0) : (w.setCell a v).cell? a = some v := World.cell?_setCell_same _ _ _ h

theorem grown_set (w : World) (a : Addr) (v : Value) : w.grownBy (w.setCell a v) (some a.block) :=
  ⟨rfl, rfl, rfl, by simp, fun k _ hk => Below.heap_setCell _ _ _ _ (fun e => hk (by rw [e]))⟩

theorem Res.drewN {w wr : World} (h : Res w wr) (n : Nat) : Res w (wr.drewN n) := ⟨below_drewN h.below n, h.lt, h.cell, h.free⟩

theorem res_start (w : World) : Res w (w.alloc (.cells #[.slice none 0 0] 24)) := by
  refine ⟨(Below.refl _ _).alloc (Nat.le_refl _) _, by simp, ?_, ?_⟩
  · rw [cell_of_row _ w.heap.size 0 #[.slice none 0 0] 24 (0, 0) (heap_alloc_new w _)]; rfl
  · have := heap_alloc_new w (.cells #[.slice none 0 0] 24)
    simp only [World.frozen?, this]; rfl

set_option maxHeartbeats 1000000 in
theorem hosts_any (a : Option Addr) (len cap : Nat) (S : Nat → ByteArray) (w : World) (hl : len ≤ 1024) (hc : Strs w a len S) (hnil : a = none → len = 0 ∧ cap = 0) (hsp : ∀ x, a = some x → ∃ b off, x = ⟨b, off, none⟩ ∧ b < w.heap.size ∧ ∀ t, t < len → w.cell? ⟨b, off + t, none⟩ = some (.string (S t))) :
    Calls Ybaf.prog 6 #[.slice a len cap] w fun e w' => HostsOut a len S w e w' := by
  have HC : Hid (Strs w a len S) := hc
  have HNIL : Hid (a = none → len = 0 ∧ cap = 0) := hnil
  have HSP : Hid (∀ x, a = some x → ∃ b off, x = ⟨b, off, none⟩ ∧ b < w.heap.size ∧ ∀ t, t < len → w.cell? ⟨b, off + t, none⟩ = some (.string (S t))) := hsp
  clear hc hnil hsp
  go_enter Ybaf.func6, Ybaf.ntmps6
  go_wp2
  go_loopw [4] (fun iv wr => ∃ m : Nat, (m + 1 ≤ len ∨ m = 0) ∧ iv = .int .i64 ((m : Int) + 1) ∧ Hid (∀ j, j < m → lessB (S j) (S (j + 1)) = true) ∧ Res w wr) (fun iv _ => len - (intOf iv).toNat)
  case atStart => exact ⟨0, .inr rfl, rfl, fun j hj => absurd hj (by omega), res_start w⟩
  case round =>
    obtain ⟨m, hk2, rfl, hno, hres⟩ := hrel
    have HRS : Hid (Res w wr) := hres
    clear hres
    by_cases hlt : m + 1 < len
    · obtain ⟨b, off, rfl, hbl, hcell⟩ := HC.out (by omega)
      have ck := (HRS.out.below.cell (p := ⟨b, off + (m + 1), none⟩) hbl).trans (hcell (m + 1) hlt)
      have cp := (HRS.out.below.cell (p := ⟨b, off + m, none⟩) hbl).trans (hcell m (by omega))
      clear hcell
      have hlt' : (m : Int) + 1 < len := by omega
      have hlt2 : (m : Int) < len := by omega
      by_cases hle : (Op.bytesLess (S (m + 1)).toList (S m).toList || (S (m + 1)).toList == (S m).toList) = true
      · have HNR : Hid (¬ Rising S len) := by
          intro hr
          have h1 := hr m (by omega)
          have h2 := less_or_eq (S (m + 1)).toList (S m).toList
          rw [hle] at h2
          have h3 : Op.bytesLess (S m).toList (S (m + 1)).toList = true := h1
          rw [h3] at h2
          cases h2
        go_wp2
        go_quiet (fail)
        go_wp2
        have HR5 : Hid (Res w (wr.drewN nq)) := HRS.out.drewN nq
        have ck5 : (wr.drewN nq).cell? ⟨b, off + (m + 1), none⟩ = some (.string (S (m + 1))) := ck
        have cp5 : (wr.drewN nq).cell? ⟨b, off + m, none⟩ = some (.string (S m)) := cp
        clear ck cp HRS
        generalize wr.drewN nq = W5 at *
        have r0 := HR5.out.cell
        have r1 := HR5.out.free
        have hs5 := HR5.out.lt
        have hb5 : b < W5.heap.size := by omega
        clear hle hno hk2
        have z1 : (0:Int) ≤ (m : Int) := by omega
        have z2 : (0:Int) ≤ (m : Int) + 1 := by omega
        have hbne : b ≠ w.heap.size := by omega
        have hwm : IntKind.i64.wrap ((m : Int)) = (m : Int) := by rw [IntKind.wrap_i64]; omega
        have hwm' : IntKind.i64.wrap ((m : Int) + 1 - 1) = (m : Int) := by rw [Int.add_sub_cancel]; first | exact hwm | (go_num; done)
        go_region_held3 (fun w' => w'.cell? ⟨b, off + (m + 1), none⟩ = some (.string (S (m + 1))) ∧ w'.cell? ⟨b, off + m, none⟩ = some (.string (S m))) (first | go_keep | (refine ⟨(cell_set_other _ _ _ _ _ (.inl (by simp; omega))).trans ?_, (cell_set_other _ _ _ _ _ (.inl (by simp; omega))).trans ?_⟩ <;> assumption)) ((go_at_call 9; go_loud (refine (errorf_any _ (S (m + 1)) (S m) _ ?_ ?_).mono ?_; exact cell_new W5 _ _ _; exact cell_new W5 _ _ _; rintro e w1 ⟨⟨p, rfl⟩, hb1⟩; have q1 := hb1.cell (p := ⟨w.heap.size, 0, none⟩) (by simp; omega); have q2 := hb1.frozen (p := ⟨w.heap.size, 0, none⟩) (by simp; omega); have q3 := (hb1.cell (p := ⟨b, off + (m + 1), none⟩) (by simp; omega)).trans ((cell_past W5 _ _ (by omega)).trans ck5); have q4 := (hb1.cell (p := ⟨b, off + m, none⟩) (by simp; omega)).trans ((cell_past W5 _ _ (by omega)).trans cp5))))
        go_wp2
        have q1' : w1.cell? ⟨w.heap.size, 0, none⟩ = some (.slice none 0 0) := q1.trans ((cell_past W5 _ _ hs5).trans r0)
        have hbw : Below w.heap.size w w1 := HR5.out.below.trans (((Below.refl w.heap.size W5).alloc (Nat.le_of_lt hs5) _).drew.trans (hb1.mono (B' := w.heap.size) (by simp; omega)))
        refine bodyPost_ret (v := .tuple #[.agg #[.slice none 0 0], .iface 66 (.pointer (some p))]) ?_ rfl ⟨?_, .inr ⟨HNR.out, p, rfl⟩⟩
        · simp [results, Ybaf.results6, go_sem, cell_set_same q1']
        · exact hbw.setCell (Nat.le_refl _) _
      · have hle' : (Op.bytesLess (S (m + 1)).toList (S m).toList || (S (m + 1)).toList == (S m).toList) = false := by simpa using hle
        have HLS : Hid (lessB (S m) (S (m + 1)) = true) := by
          have := less_or_eq (S (m + 1)).toList (S m).toList
          rw [hle'] at this
          show Op.bytesLess _ _ = true
          simpa using this.symm
        clear hle
        go_wp2
        go_quiet (fail)
        go_wp2
        go_roundw
        case rel =>
          refine ⟨m + 1, .inl (by omega), by go_num, fun j hj => ?_, HRS.out.drewN _⟩
          rcases Nat.lt_or_ge j m with h | h
          · exact hno.out j h
          · obtain rfl : j = m := by omega
            exact HLS.out
        case measure => simp [intOf]; omega
    · have HRI : Hid (Rising S len) := fun j hj => hno.out j (by omega)
      have hlt' : ¬ ((m : Int) + 1 < (len : Int)) := by omega
      go_wp2_with fail
      have r0 := HRS.out.cell
      have r1 := HRS.out.free
      have hs5 := HRS.out.lt
      cases ha : a with
      | none =>
        have hz := HNIL.out ha
        obtain ⟨hz1, hz2⟩ := hz
        subst hz1
        subst hz2
        refine (clone_nil _).mono ?_
        rintro e w1 ⟨rfl, rfl⟩
        go_wp2
        refine bodyPost_ret (v := .tuple #[.agg #[.slice none 0 0], .nilIface]) ?_ rfl ⟨?_, .inl ⟨HRI.out, _, rfl, .inl ⟨ha, rfl⟩⟩⟩
        · simp [results, Ybaf.results6, go_sem, cell_set_same r0]
        · exact HRS.out.below.setCell (Nat.le_refl _) _
      | some x =>
        obtain ⟨b, off, rfl, hbl, hcell⟩ := HSP.out x ha
        refine (clone_any b off len cap S _ hl ?_ ?_).mono ?_
        · omega
        · exact fun t ht => (HRS.out.below.cell (p := ⟨b, off + t, none⟩) hbl).trans (hcell t ht)
        · rintro e w1 ⟨g, c, rfl, hgs, hgc, hgt, hb1⟩
          have q1 := (hb1.cell (p := ⟨w.heap.size, 0, none⟩) hs5).trans r0
          have q2 := (hb1.frozen (p := ⟨w.heap.size, 0, none⟩) hs5).trans r1
          have hbw : Below w.heap.size w w1 := HRS.out.below.trans (hb1.mono (by omega))
          have HT : Hid (∀ t, t < len → w1.cell? ⟨g, t, none⟩ = some (.string (S t))) := hgt
          have HG : Hid (∃ cs t, w1.heap[g]? = some (.cells cs t (0, 0))) := hgc
          clear hgt hgc hcell
          go_wp2
          refine bodyPost_ret (v := .tuple #[.agg #[.slice (some ⟨g, 0, none⟩) len c], .nilIface]) ?_ rfl ⟨?_, .inl ⟨HRI.out, _, rfl, .inr ⟨g, c, (by rw [ha]; simp), rfl, by omega, ?_, ?_⟩⟩⟩
          · simp [results, Ybaf.results6, go_sem, cell_set_same q1]
          · exact hbw.setCell (Nat.le_refl _) _
          · obtain ⟨cs, t, h⟩ := HG.out
            exact ⟨cs, t, (Below.heap_setCell _ _ _ _ (by simp; omega)).trans h⟩
          · intro t ht
            exact (cell_set_other _ _ _ _ _ (.inl (by simp; omega))).trans (HT.out t ht)
end Go.Proofs.YbulkiroFmt
