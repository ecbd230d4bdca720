import Derived.Test.YbulkiraMem
namespace Go.Proofs.Ybulkira
open Go.RowKit Go.Proofs.Ybulkira.Bfs
set_option linter.unusedVariables false

theorem Yba.info3 : (Yba.prog.info? 3).map (fun i => (i.zero, i.size, i.bytes)) = some (some (.int .i64 0), 1, 8) := by kernel_rfl

def vI (v : Nat) : Value := .int .i64 (v : Int)

/-- the edges as they lie in memory: a row of maps -/
structure Graph (w : World) (EB : Nat) (I : Inp) (mb : Nat → Nat) (Dm : Nat → DataW Unit) (n : Nat) : Prop where
  cell : ∀ i, i < I.nn → w.cell? ⟨EB, i, none⟩ = some (.map (some (mb i)))
  owns : ∀ i, i < I.nn → w.ownsMap Yba.prog 3 labelR (mb i) n (Dm i)
  only : ∀ i, i < I.nn → ∀ kl, Maps.has (Dm i) kl = true → ∃ v : Nat, kl = .int .i64 v ∧ (i, v) ∈ I.E
  all : ∀ i v, (i, v) ∈ I.E → Maps.has (Dm i) (.int .i64 v) = true

theorem map_ne_plain {w : World} {k b n B : Nat} {R : Value → Option (DataW Unit × List MemPlace)} {D : DataW Unit} (h : w.ownsMap Yba.prog k R b n D) (hp : PlainAt w B) : b ≠ B := by
  obtain ⟨es, cl, hb, _⟩ := h
  obtain ⟨c, t, hc⟩ := hp
  intro e
  rw [e, hc] at hb
  cases hb

theorem Graph.kept {w w' : World} {EB B : Nat} {I : Inp} {mb : Nat → Nat} {Dm : Nat → DataW Unit} {n : Nat} (h : Graph w EB I mb Dm n) (hg : w.grownBy w' (some B)) (hne : EB ≠ B) (hp : PlainAt w B) : Graph w' EB I mb Dm n :=
  ⟨fun i hi => cell_kept (h.cell i hi) hg (by simpa using hne), fun i hi => (h.owns i hi).kept hg (by simpa using map_ne_plain (h.owns i hi) hp), h.only, h.all⟩

/-- where 'distances' stands -/
structure DSt (I : Inp) (w wr : World) (DB : Nat) (d : Nat → Int) (q : List Nat) (i : Nat) (rv : Value) : Prop where
  inv : QInv I d q
  done : Done I d q i
  dist : IntRow wr DB I.nn d
  owns : wr.ownsRow w.heap.size 3 1 rv q.length (q.map vI)
  grown : w.grownBy wr (some DB)

theorem owns_slice {w : World} {base e : Nat} {v : Value} {n : Nat} {xs : List Value} (h : w.ownsRow base e 1 v n xs) (hn : 0 < n) :
    ∃ g cap, v = .slice (some ⟨g, 0, none⟩) n cap ∧ base ≤ g ∧ n ≤ cap ∧ (∀ j u, xs[j]? = some u → w.cell? ⟨g, j, none⟩ = some u) := by
  rcases h.2 with ⟨_, h'⟩ | ⟨g, cap, cur, rfl, hb, hg, hnc, _, hs, ht⟩
  · omega
  · refine ⟨g, cap, rfl, hb, hnc, fun j u hj => ?_⟩
    have := h.cells (g := g) rfl j u hj
    rwa [Addr.add_lit, Nat.zero_add] at this

theorem dst_start {I : Inp} {w : World} {DB : Nat} (hD : IntRow w DB I.nn (fun _ => -1)) :
    DSt I w ((w.setCell ⟨DB, I.src, none⟩ (.int .i64 0)).alloc (.cells #[.int .i64 (I.src : Int)] 3)) DB (upd (fun _ => -1) I.src 0) [I.src] 0 (.slice (some ⟨w.heap.size, 0, none⟩) 1 1) := by
  have h1 := hD.set I.hsrc 0
  have hg1 := grown_set w ⟨DB, I.src, none⟩ (.int .i64 0)
  have hsz : (w.setCell ⟨DB, I.src, none⟩ (.int .i64 0)).heap.size = w.heap.size := by simp
  refine ⟨inv_start I, fun j _ hj => absurd hj (by omega), h1.kept (World.grownBy_alloc _ _ none) (by simp), ?_, grown_new hg1 (World.grownBy_alloc _ _ none) (fun j hj => by cases hj)⟩
  have := World.ownsRow_lit (base := w.heap.size) (e := 3) (size := 1) (w.setCell ⟨DB, I.src, none⟩ (.int .i64 0)) #[.int .i64 (I.src : Int)] 1 (by omega) (by unfold maxLen; omega) rfl
  rw [hsz] at this
  exact this

/-- inside the search's inner loop: going along t's edges -/
structure ISt (I : Inp) (w wr : World) (DB : Nat) (Dt : DataW Unit) (d : Nat → Int) (q : List Nat) (i t : Nat) (rv : Value) (left : Lit → Bool) : Prop where
  inv : QInv I d q
  done : Done I d q i
  near : Near d q t
  part : Part I d t (fun v => left (.int .i64 (v : Int)))
  here : q[i]? = some t
  goes : may I (d t)
  dist : IntRow wr DB I.nn d
  owns : wr.ownsRow w.heap.size 3 1 rv q.length (q.map vI)
  grown : w.grownBy wr (some DB)
  sub : ∀ kl, left kl = true → Maps.has Dt kl = true

theorem ISt.step {I : Inp} {w wr w1 : World} {DB r : Nat} {Dt : DataW Unit} {d : Nat → Int} {q : List Nat} {i t : Nat} {rv : Value} {left : Lit → Bool} (h : ISt I w wr DB Dt d q i t rv left) (hg : wr.grownBy w1 (some r)) (hr : w.heap.size ≤ r) (hDB : DB < w.heap.size)
    (hro : rv.ownBlock ≠ some r) : IntRow w1 DB I.nn d ∧ w1.ownsRow w.heap.size 3 1 rv q.length (q.map vI) ∧ w.grownBy w1 (some DB) :=
  ⟨h.dist.kept hg (by simp; omega), h.owns.kept hg (.inr hro), grown_new h.grown hg (fun j hj => by cases hj; exact hr)⟩

theorem nextV (key : Value) (kl : Lit) (h : keyOf Yba.prog 3 key = some kl) : ∃ x : Int, key = .int .i64 x := by
  obtain ⟨x, rfl, _⟩ := Maps.keyOf_int_inv Yba.underlying3 h
  exact ⟨x, rfl⟩

def mkLabel (c : (IntKind × Int) × (IntKind × Int)) : Value := .agg #[.int c.1.1 c.1.2, .int c.2.1 c.2.2]

theorem owns_ne_iter {w : World} {base e : Nat} {v : Value} {n : Nat} {xs : List Value} {b r m cnt : Nat} {D : DataW Unit} {left : Lit → Bool} (h : w.ownsRow base e 1 v n xs) (hr : w.ranges Yba.prog 3 labelR b r m D left cnt) : v.ownBlock ≠ some r := by
  obtain ⟨es, cl, since, seen, c0, _, _, _, _, hit, _⟩ := hr
  intro hv
  rcases h.2 with ⟨rfl, _⟩ | ⟨g, cap, cur, rfl, _, hg, _⟩
  · cases hv
  · obtain rfl : g = r := Option.some.inj hv
    rw [hg] at hit
    cases hit

theorem plain_ne_iter {w : World} {B b r m cnt : Nat} {D : DataW Unit} {left : Lit → Bool} (h : PlainAt w B) (hr : w.ranges Yba.prog 3 labelR b r m D left cnt) : B ≠ r := by
  obtain ⟨es, cl, since, seen, c0, _, _, _, _, hit, _⟩ := hr
  obtain ⟨c, t, h⟩ := h
  rintro rfl
  rw [h] at hit
  cases hit

theorem left_struck {left : Lit → Bool} {v : Nat} : ∀ u : Nat, (left (.int .i64 (u : Int)) && !(Lit.int .i64 (u : Int)).sameKey (.int .i64 (v : Int))) = false → u = v ∨ left (.int .i64 (u : Int)) = false := by
  intro u h
  by_cases e : u = v
  · exact .inl e
  · right
    have hne : (Lit.int .i64 (u : Int)) ≠ .int .i64 (v : Int) := by simp; omega
    rw [Maps.sameKey_ne hne] at h
    simpa using h

/-- the edge to v: v is there already, or is no member -/
theorem ISt.skip {I : Inp} {w wr w1 : World} {DB v : Nat} {Dt : DataW Unit} {d : Nat → Int} {q : List Nat} {i t : Nat} {rv : Value} {left : Lit → Bool} (h : ISt I w wr DB Dt d q i t rv left) (hv : v < I.nn) (hd : 0 ≤ d v ∨ I.mem v = false)
    (k : IntRow w1 DB I.nn d ∧ w1.ownsRow w.heap.size 3 1 rv q.length (q.map vI) ∧ w.grownBy w1 (some DB)) : ISt I w w1 DB Dt d q i t rv (fun z => left z && !z.sameKey (.int .i64 (v : Int))) :=
  ⟨h.inv, h.done, h.near, h.part.skip h.inv h.near hv hd left_struck, h.here, h.goes, k.1, k.2.1, k.2.2, fun kl hl => h.sub kl (by cases hh : left kl <;> simp_all)⟩

/-- the edge to v: v is new -/
theorem ISt.add {I : Inp} {w wr w3 : World} {DB v : Nat} {Dt : DataW Unit} {d : Nat → Int} {q : List Nat} {i t : Nat} {rv rv' : Value} {left : Lit → Bool} (h : ISt I w wr DB Dt d q i t rv left) (hv : v < I.nn) (hd : d v < 0) (hm : I.mem v = true) (he : (t, v) ∈ I.E)
    (hD : IntRow w3 DB I.nn (upd d v (d t + 1))) (ho : w3.ownsRow w.heap.size 3 1 rv' (q.length + 1) (q.map vI ++ [vI v])) (hg : w.grownBy w3 (some DB)) :
    ISt I w w3 DB Dt (upd d v (d t + 1)) (q ++ [v]) i t rv' (fun z => left z && !z.sameKey (.int .i64 (v : Int))) := by
  have htq : t ∈ q := List.mem_of_getElem? h.here
  have hi := (List.getElem?_eq_some_iff.1 h.here).1
  refine ⟨h.inv.add h.here h.near hv hd hm he h.goes, h.done.add h.inv (by omega) hv hd, Near.add h.inv htq h.near hv hd, Part.add h.inv htq h.part hv hd left_struck, ?_, ?_, hD, ?_, hg, fun kl hl => h.sub kl (by cases hh : left kl <;> simp_all)⟩
  · rw [List.getElem?_append_left hi]; exact h.here
  · have hne : t ≠ v := fun e => h.inv.notmem hv hd (e ▸ htq)
    rw [upd_other _ _ hne]; exact h.goes
  · simpa using ho

theorem owns_ne_map {w : World} {base e : Nat} {v : Value} {n : Nat} {xs : List Value} {b m : Nat} {D : DataW Unit} (h : w.ownsRow base e 1 v n xs) (hm : w.ownsMap Yba.prog 3 labelR b m D) : v.ownBlock ≠ some b := by
  obtain ⟨es, cl, hb, _⟩ := hm
  intro hv
  rcases h.2 with ⟨rfl, _⟩ | ⟨g, cap, cur, rfl, _, hg, _⟩
  · cases hv
  · obtain rfl : g = b := Option.some.inj hv
    rw [hg] at hb
    cases hb

/-- the store into the distances, the new cell, the append: what becomes of all -/
theorem added {I : Inp} {w w1 w3 : World} {DB r v b n cnt : Nat} {x : Int} {D : DataW Unit} {d : Nat → Int} {q : List Nat} {rv : Value} {left : Lit → Bool} (o : Obj) (hv : v < I.nn)
    (k : IntRow w1 DB I.nn d ∧ w1.ownsRow w.heap.size 3 1 rv q.length (q.map vI) ∧ w.grownBy w1 (some DB)) (hDB : DB < w.heap.size) (hr : w1.ranges Yba.prog 3 labelR b r n D left cnt)
    (hg : ((w1.setCell ⟨DB, v, none⟩ (.int .i64 x)).alloc o).grownBy w3 rv.ownBlock) :
    IntRow w3 DB I.nn (upd d v x) ∧ w.grownBy w3 (some DB) ∧ w3.ranges Yba.prog 3 labelR b r n D left cnt := by
  have hub : rv.ownBlock ≠ some DB := by
    intro hb
    have := k.2.1.lt DB hb
    omega
  have hs := grown_set w1 ⟨DB, v, none⟩ (.int .i64 x)
  have ha := World.grownBy_alloc (w1.setCell ⟨DB, v, none⟩ (.int .i64 x)) o none
  refine ⟨((k.1.set hv x).kept ha (by simp)).kept hg (Ne.symm hub), ?_, ?_⟩
  · refine grown_new (grown_new (grown_trans k.2.2 hs) ha (fun j hj => by cases hj)) hg (fun j hj => (k.2.1.lt j hj).1)
  · have hne1 := map_ne_plain hr.owns k.1.plain
    have hne2 := plain_ne_iter k.1.plain hr
    have h1 := hr.kept hs (by simpa using hne1) (by simpa using Ne.symm hne2)
    have h2 := h1.kept ha (by simp) (by simp)
    exact h2.kept hg (Ne.symm (owns_ne_map k.2.1 hr.owns)) (Ne.symm (owns_ne_iter k.2.1 hr))

set_option maxRecDepth 100000 in
set_option maxHeartbeats 4000000 in
theorem dist_any (I : Inp) (mask : Int) (g EB DB N M n : Nat) (mb : Nat → Nat) (Dm : Nat → DataW Unit) (w : World) (hmem : I.mem = fun u => binB mask u) (hnn : I.nn ≤ 16) (m0 : 0 ≤ mask) (m1 : mask ≤ 4294967295)
    (hG : Graph w EB I mb Dm n) (hD : IntRow w DB I.nn (fun _ => -1)) (hN : w.cell? ⟨N, 0, none⟩ = some (.int .i64 I.nn)) (hM : w.cell? ⟨M, 0, none⟩ = some (.int .u32 mask)) (e1 : EB ≠ DB) (e2 : N ≠ DB) (e3 : M ≠ DB) :
    Calls Yba.prog 7 #[.pointer (some ⟨g, 0, none⟩), .int .i64 I.src, .slice (some ⟨EB, 0, none⟩) I.nn I.nn, .int .i64 I.limit, .func (.func 5) #[] #[.pointer (some ⟨N, 0, none⟩), .pointer (some ⟨M, 0, none⟩)], .slice (some ⟨DB, 0, none⟩) I.nn I.nn] w
      fun e w' => ∃ D q v, e = .returned v ∧ Bfs.Found I D q ∧ IntRow w' DB I.nn D ∧ w'.ownsRow w.heap.size 3 1 v q.length (q.map vI) ∧ w.grownBy w' (some DB) := by
  obtain ⟨i0, hi, hz0, hz1, hz2⟩ := info_parts Yba.info3
  have HG : Hid (Graph w EB I mb Dm n) := hG
  have HD : Hid (IntRow w DB I.nn (fun _ => -1)) := hD
  have HN : Hid (w.cell? ⟨N, 0, none⟩ = some (.int .i64 I.nn)) := hN
  have HM : Hid (w.cell? ⟨M, 0, none⟩ = some (.int .u32 mask)) := hM
  have HMEM : Hid (I.mem = fun u => binB mask u) := hmem
  have hs := I.hsrc
  have hs1 : (I.src : Int) < I.nn := by omega
  have c0 := hD.cell I.src hs
  have f0 := frozen_of_plain hD.plain I.src
  clear hG hD hN hM hmem
  go_enter Yba.func7, Yba.ntmps7
  go_wp2
  go_loopw [13, 14] (fun rv iv wr => ∃ d q i, iv = .int .i64 (i : Nat) ∧ i ≤ q.length ∧ DSt I w wr DB d q i rv ∧ Hid (∀ t, q[i]? = some t → Near d q t)) (fun _ iv _ => 17 - (intOf iv).toNat)
  case atStart => exact ⟨_, _, 0, rfl, Nat.zero_le _, dst_start HD.out, near_start I⟩
  case round =>
    obtain ⟨d, q, i, rfl, hiq, hst, hnear⟩ := hrel
    have HS : Hid (DSt I w wr DB d q i u13) := hst
    clear hst c0 f0
    have hlen0 : 0 < q.length := (List.getElem?_eq_some_iff.1 HS.out.inv.head).1
    have hlenn : q.length ≤ I.nn := by
      have := List.Nodup.length_le_of_subset HS.out.inv.nodup (l₂ := List.range I.nn) (fun v hv => List.mem_range.2 (HS.out.inv.lt v hv))
      simpa using this
    obtain ⟨gq, cap, hrv, hgq, hcap, hcq⟩ := owns_slice HS.out.owns hlen0
    have HRV : Hid (u13 = .slice (some ⟨gq, 0, none⟩) q.length cap) := hrv
    rw [hrv]
    by_cases hlt : i < q.length
    · obtain ⟨t, ht⟩ : ∃ t, q[i]? = some t := ⟨q[i], by simp [hlt]⟩
      have htq : t ∈ q := List.mem_of_getElem? ht
      have htn : t < I.nn := HS.out.inv.lt t htq
      have cq : wr.cell? ⟨gq, i, none⟩ = some (.int .i64 (t : Int)) := hcq i _ (by simp [ht, vI])
      have cd := HS.out.dist.cell t htn
      have HT : Hid (q[i]? = some t) := ht
      have htn' : (t : Int) < I.nn := by omega
      clear hcq hrv ht
      have hdt0 : 0 ≤ d t := (HS.out.inv.mem t htn).1 htq
      by_cases hdl : d t = I.limit
      · have hb : (d t == I.limit) = true := by simp [hdl]
        have HDL : Hid (d t = I.limit) := hdl
        clear hdl
        go_wp2
        go_roundw
        case rel =>
          refine ⟨d, q, i + 1, by go_num, by omega, ⟨HS.out.inv, HS.out.done.next HT.out ?_, HS.out.dist, by rw [← HRV.out]; exact HS.out.owns, HS.out.grown⟩, Near.next HS.out.inv HT.out (hnear.out t HT.out)⟩
          intro hm
          have := HDL.out
          rcases hm with hm | hm <;> omega
        case measure => simp [intOf]; omega
      · have hb : (d t == I.limit) = false := by simpa using hdl
        have hmay : may I (d t) := by
          by_cases hl : I.limit < 0
          · exact .inl hl
          · have := HS.out.inv.lim t htq (by omega)
            exact .inr (by omega)
        have HMAY : Hid (may I (d t)) := hmay
        clear hdl hmay
        have HGr : Hid (Graph wr EB I mb Dm n) := HG.out.kept HS.out.grown e1 HD.out.plain
        have cE := HGr.out.cell t htn
        go_wp2_with (at_range; refine wpList_range_own _ rfl _ 25 rfl 3 30 law3 Yba.underlying25 labelR (mb t) n (Dm t) rfl (HGr.out.owns t htn) ?_)
        intro w0 hrg0 hg0 hs0
        have hgrow0 : Hid (w.grownBy w0 (some DB)) := grown_new HS.out.grown hg0 (fun j hj => by cases hj)
        have HIS : Hid (ISt I w w0 DB (Dm t) d q i t u13 (Maps.has (Dm t))) := by
          refine ⟨HS.out.inv, HS.out.done, hnear.out t HT.out, ?_, HT.out, HMAY.out, HS.out.dist.kept hg0 (by simp), HS.out.owns.kept hg0 (by cases hv : u13.ownBlock <;> simp), hgrow0.out, fun kl h => h⟩
          intro v he hl
          have h2 := HG.out.all t v he
          have hl' : Maps.has (Dm t) (.int .i64 (v : Int)) = false := hl
          rw [hl'] at h2
          cases h2
        have HRG : Hid (w0.ranges Yba.prog 3 labelR (mb t) wr.heap.size n (Dm t) (Maps.has (Dm t)) (Maps.size (Dm t))) := hrg0
        have hwr : w.heap.size ≤ wr.heap.size := HS.out.grown.size
        clear hrg0 hg0 hs0 cE cq cd hnear HS HGr
        rw [← HRV.out]
        clear HRV
        generalize wr.heap.size = r at *
        clear wr
        go_wp2
        go_loopw [13] (fun rv wr => ∃ d q left cnt, ISt I w wr DB (Dm t) d q i t rv left ∧ wr.ranges Yba.prog 3 labelR (mb t) r n (Dm t) left cnt) (fun _ wr => wr.rangeLeft (mb t) r)
        case atStart => exact ⟨d, q, _, _, HIS.out, HRG.out⟩
        case round =>
          clear HIS HRG hgrow0 w0 HMAY hdt0 hb
          obtain ⟨d1, q1, left, cnt, hist, hrg⟩ := hrel
          have HIS : Hid (ISt I w wr DB (Dm t) d1 q1 i t u13 left) := hist
          have HRG : Hid (wr.ranges Yba.prog 3 labelR (mb t) r n (Dm t) left cnt) := hrg
          clear hist hrg
          go_wp2_with (at_next; refine wpList_next_ranges _ rfl _ rfl 3 law3 labelR (Value.int .i64) mkLabel nextV (fun v y h => labelR_inv h) (mb t) r n (Dm t) left cnt rfl HRG.out ?_ ?_)
          · intro hc0 hl0
            have HL0 : Hid (∀ kl, left kl = false) := hl0
            clear hl0 hc0
            go_wp2
            go_roundw
            case rel =>
              have hh := HIS.out
              have hiq1 : i < q1.length := (List.getElem?_eq_some_iff.1 hh.here).1
              refine ⟨d1, q1, i + 1, by go_num, by omega, ⟨hh.inv, hh.done.next hh.here (fun _ => ?_), hh.dist, hh.owns, hh.grown⟩, Near.next hh.inv hh.here hh.near⟩
              intro v he _
              exact hh.part v he (HL0.out _)
            case measure => simp [intOf]; omega
          · intro x a b a1 b1 kl y1 y2 w1 cnt1 hkey hlk hv hat hrg1 hltc hg1 hs1 hen
            obtain ⟨x', ex, ekl, hwx⟩ := Maps.keyOf_int_inv Yba.underlying3 hkey
            cases ex
            subst ekl
            obtain ⟨v, ev, hE⟩ := HG.out.only t htn _ (HIS.out.sub _ hlk)
            obtain rfl : x = (v : Int) := by simpa using ev
            have hvn : v < I.nn := (I.hE _ hE).2
            have hvn' : (v : Int) < I.nn := by omega
            have hDBw : DB < w.heap.size := HD.out.plain.lt
            have hq1n : q1.length ≤ 16 := by
              have := List.Nodup.length_le_of_subset HIS.out.inv.nodup (l₂ := List.range I.nn) (fun v hv => List.mem_range.2 (HIS.out.inv.lt v hv))
              have h2 : q1.length ≤ I.nn := by simpa using this
              omega
            have hdt1 : d1 t ≤ 16 := by
              have := HIS.out.inv.pos i t HIS.out.here
              have := (List.getElem?_eq_some_iff.1 HIS.out.here).1
              omega
            have hdt0 : 0 ≤ d1 t := (HIS.out.inv.mem t htn).1 (List.mem_of_getElem? HIS.out.here)
            have hro : u13.ownBlock ≠ some r := owns_ne_iter HIS.out.owns HRG.out
            have HK := HIS.out.step hg1 hwr hDBw hro
            have HRG1 : Hid (w1.ranges Yba.prog 3 labelR (mb t) r n (Dm t) (fun z => left z && !z.sameKey (.int .i64 (v : Int))) cnt1) := hrg1
            have HLT : Hid (cnt1 < cnt) := hltc
            have HM1 : Hid (w1.cell? ⟨M, 0, none⟩ = some (.int .u32 mask)) := cell_kept HM.out HK.2.2 (by simpa using e3)
            have HN1 : Hid (w1.cell? ⟨N, 0, none⟩ = some (.int .i64 I.nn)) := cell_kept HN.out HK.2.2 (by simpa using e2)
            have HKK : Hid (IntRow w1 DB I.nn d1 ∧ w1.ownsRow w.heap.size 3 1 u13 q1.length (q1.map vI) ∧ w.grownBy w1 (some DB)) := HK
            have cv := HK.1.cell v hvn
            have ct := HK.1.cell t htn
            have fv := frozen_of_plain HK.1.plain v
            have HEE : Hid ((t, v) ∈ I.E) := hE
            clear hkey hlk hv hat hrg1 hltc hg1 hs1 hE ev hro HK hwx
            by_cases hd0 : 0 ≤ d1 v
            · have hd0' : ¬ d1 v < 0 := by omega
              have hdd : decide (d1 v < 0) = false := by simpa using hd0
              go_wp2_with fail
              go_roundw
              case rel => exact ⟨d1, q1, _, cnt1, HIS.out.skip hvn (.inl hd0) HKK.out, HRG1.out⟩
              case measure => rw [HRG1.out.left_eq, HRG.out.left_eq]; exact HLT.out
            · have hd0' : d1 v < 0 := by omega
              cases hmv : binB mask v with
              | false =>
                have hmI : I.mem v = false := by rw [HMEM.out]; exact hmv
                have HMI : Hid (I.mem v = false) := hmI
                clear hmI
                go_wp2_with (go_at_call 5; refine (member_any mask v I.nn N M _ hvn hnn m0 m1 HN1.out HM1.out).mono ?_; rintro e w2 ⟨rfl, rfl⟩)
                go_roundw
                case rel => exact ⟨d1, q1, _, cnt1, HIS.out.skip hvn (.inr HMI.out) HKK.out, HRG1.out⟩
                case measure => rw [HRG1.out.left_eq, HRG.out.left_eq]; exact HLT.out
              | true =>
                have hmI : I.mem v = true := by rw [HMEM.out]; exact hmv
                have HMI : Hid (I.mem v = true) := hmI
                clear hmI
                have hsetg := grown_set w1 ⟨DB, v, none⟩ (.int .i64 (d1 t + 1))
                have hub : u13.ownBlock ≠ some DB := by
                  intro hb
                  have := HKK.out.2.1.lt DB hb
                  omega
                have HO : Hid ((w1.setCell ⟨DB, v, none⟩ (.int .i64 (d1 t + 1))).ownsRow w.heap.size 3 1 u13 q1.length (q1.map vI)) := HKK.out.2.1.kept hsetg (.inr hub)
                have HSG : Hid (w1.grownBy (w1.setCell ⟨DB, v, none⟩ (.int .i64 (d1 t + 1))) (some DB)) := hsetg
                have HSZ : Hid (w.heap.size ≤ w1.heap.size) := HKK.out.2.2.size
                clear hsetg hub
                go_wp2_with (first
                  | (go_at_call 5; refine (member_any mask v I.nn N M _ hvn hnn m0 m1 HN1.out HM1.out).mono ?_; rintro e w2 ⟨rfl, rfl⟩)
                  | (at_builtin; refine wpList_append_own _ rfl _ _ 33 rfl w.heap.size 3 i0 (.int .i64 0) 1 8 Yba.underlying33 hi hz0 hz1 hz2 rfl (by decide) _ _ _ rfl (HO.out.alloc _) ⟨w1.heap.size, 0, none⟩ 1 1 [.int .i64 (v : Int)] rfl rfl ?c1 ?c2 ?c3 ?c4 ?c5 ?_))
                case c1 =>
                  intro j u hj
                  match j, hj with
                  | 0, hj =>
                    simp at hj
                    subst hj
                    have := cell_new (w1.setCell ⟨DB, v, none⟩ (.int .i64 (d1 t + 1))) #[.int .i64 (v : Int)] 3 0
                    simpa [Addr.add] using this
                case c2 => intro u hu; simp at hu; subst hu; rfl
                case c3 => unfold maxLen; omega
                case c4 => omega
                case c5 => simp; have := HSZ.out; omega
                intro v' w3 ho3 hg3 _
                have HA := added _ hvn HKK.out hDBw HRG1.out hg3
                have HO3 : Hid (w3.ownsRow w.heap.size 3 1 v' (q1.length + 1) (q1.map vI ++ [vI v])) := ho3
                have HAA : Hid (IntRow w3 DB I.nn (upd d1 v (d1 t + 1)) ∧ w.grownBy w3 (some DB) ∧ w3.ranges Yba.prog 3 labelR (mb t) r n (Dm t) (fun z => left z && !z.sameKey (.int .i64 (v : Int))) cnt1) := HA
                clear HA ho3 hg3 HO HSG HKK HM1 HN1 cv ct fv hen
                go_wp2
                go_roundw
                case rel => exact ⟨_, _, _, cnt1, HIS.out.add hvn hd0' HMI.out HEE.out HAA.out.1 HO3.out HAA.out.2.1, HAA.out.2.2⟩
                case measure => rw [HAA.out.2.2.left_eq, HRG.out.left_eq]; exact HLT.out
    · clear hcq hrv
      go_wp2
      go_ret
      exact ⟨d, q, u13, by rw [HRV.out]; rfl, fin_of HS.out.inv (by omega) HS.out.done, HS.out.dist, HS.out.owns, HS.out.grown⟩
end Go.Proofs.Ybulkira
