import Derived.Test.YbulkiraMem
import Derived.WalkKit
import Derived.Laws.IdiomStrings
namespace Go.Proofs.Ybulkira
open Go.RowKit
set_option linter.unusedVariables false

/-- the digits of a key, and the key -/
def keyL (i : Nat) : List UInt8 := [107, UInt8.ofNat (48 + i / 100 % 10), UInt8.ofNat (48 + i / 10 % 10), UInt8.ofNat (48 + i % 10)]
def keyB (i : Nat) : ByteArray := ⟨(keyL i).toArray⟩

theorem keyB_toList (i : Nat) : (keyB i).toList = keyL i := by
  rw [ByteArray.toList_eq]; simp [keyB]

theorem digit (d : Nat) (h : d < 10) : ((UInt8.ofNat (48 + d)).toNat : Int) = 48 + (d : Int) := by
  simp [UInt8.toNat_ofNat]
  omega

set_option maxHeartbeats 400000 in
theorem key_any (i : Nat) (w : World) (hi : i < 1000) : Calls Yba.prog 8 #[.int .i64 (i : Int)] w fun e w' => e = .returned (.string (keyB i)) ∧ Below w.heap.size w w' := by
  obtain ⟨c, hc⟩ : ∃ c : Array Value, c = #[Value.int IntKind.u8 107, Value.int IntKind.u8 (48 + ↑i / 100 % 10), Value.int IntKind.u8 (48 + ↑i / 10 % 10), Value.int IntKind.u8 (48 + ↑i % 10)] := ⟨_, rfl⟩
  have hcv : (convert 61 9 (.slice (some ⟨w.heap.size, 0, none⟩) 4 4)).run Yba.prog (w.alloc (.cells #[Value.int IntKind.u8 107, Value.int IntKind.u8 (48 + ↑i / 100 % 10), Value.int IntKind.u8 (48 + ↑i / 10 % 10), Value.int IntKind.u8 (48 + ↑i % 10)] 5)) = .ok (.string (keyB i)) (w.alloc (.cells #[Value.int IntKind.u8 107, Value.int IntKind.u8 (48 + ↑i / 100 % 10), Value.int IntKind.u8 (48 + ↑i / 10 % 10), Value.int IntKind.u8 (48 + ↑i % 10)] 5)) := by
    refine run_convert_bytes_back _ 61 9 5 ⟨w.heap.size, 0, none⟩ 4 (keyL i) Yba.underlying61 Yba.underlying5 Yba.underlying9 ?_
    intro j hj
    rw [Addr.add_lit, Nat.zero_add, cell_new]
    have h1 := digit (i / 100 % 10) (by omega)
    have h2 := digit (i / 10 % 10) (by omega)
    have h3 := digit (i % 10) (by omega)
    have hj4 : j < 4 := hj
    rcases (by omega : j = 0 ∨ j = 1 ∨ j = 2 ∨ j = 3) with rfl | rfl | rfl | rfl
    · rfl
    · show some (Value.int IntKind.u8 (48 + ↑i / 100 % 10)) = some (.int .u8 ((UInt8.ofNat (48 + i / 100 % 10)).toNat : Int))
      rw [h1]; rfl
    · show some (Value.int IntKind.u8 (48 + ↑i / 10 % 10)) = some (.int .u8 ((UInt8.ofNat (48 + i / 10 % 10)).toNat : Int))
      rw [h2]; rfl
    · show some (Value.int IntKind.u8 (48 + ↑i % 10)) = some (.int .u8 ((UInt8.ofNat (48 + i % 10)).toNat : Int))
      rw [h3]; rfl
  clear hc
  go_enter Yba.func8, Yba.ntmps8
  go_wp2
  go_ret
  exact ⟨rfl, (Below.refl _ _).alloc (Nat.le_refl _) _⟩

theorem ofNat_lt (a b : Nat) (ha : a < 10) (hb : b < 10) : (UInt8.ofNat (48 + a) < UInt8.ofNat (48 + b)) ↔ a < b := by
  rw [UInt8.lt_iff_toNat_lt]
  simp [UInt8.toNat_ofNat]
  omega

theorem ofNat_eq (a b : Nat) (ha : a < 10) (hb : b < 10) : (UInt8.ofNat (48 + a) = UInt8.ofNat (48 + b)) ↔ a = b := by
  rw [← UInt8.toNat_inj]
  simp [UInt8.toNat_ofNat]
  omega

/-- the keys are ordered as their numbers -/
theorem key_less (i j : Nat) (hi : i < 1000) (hj : j < 1000) : Op.bytesLess (keyL i) (keyL j) = decide (i < j) := by
  have h1 := ofNat_lt (i / 100 % 10) (j / 100 % 10) (by omega) (by omega)
  have h2 := ofNat_lt (i / 10 % 10) (j / 10 % 10) (by omega) (by omega)
  have h3 := ofNat_lt (i % 10) (j % 10) (by omega) (by omega)
  have e1 := ofNat_eq (i / 100 % 10) (j / 100 % 10) (by omega) (by omega)
  have e2 := ofNat_eq (i / 10 % 10) (j / 10 % 10) (by omega) (by omega)
  have e3 := ofNat_eq (i % 10) (j % 10) (by omega) (by omega)
  have e7 : (107 : UInt8) < 107 ↔ False := by decide
  unfold keyL
  generalize UInt8.ofNat (48 + i / 100 % 10) = a1 at *
  generalize UInt8.ofNat (48 + i / 10 % 10) = a2 at *
  generalize UInt8.ofNat (48 + i % 10) = a3 at *
  generalize UInt8.ofNat (48 + j / 100 % 10) = b1 at *
  generalize UInt8.ofNat (48 + j / 10 % 10) = b2 at *
  generalize UInt8.ofNat (48 + j % 10) = b3 at *
  rw [Bool.eq_iff_iff]
  simp [Op.bytesLess, h1, h2, h3, e1, e2, e7]
  omega

theorem key_eq (i j : Nat) (hi : i < 1000) (hj : j < 1000) : (keyL i == keyL j) = decide (i = j) := by
  have e1 := ofNat_eq (i / 100 % 10) (j / 100 % 10) (by omega) (by omega)
  have e2 := ofNat_eq (i / 10 % 10) (j / 10 % 10) (by omega) (by omega)
  have e3 := ofNat_eq (i % 10) (j % 10) (by omega) (by omega)
  unfold keyL
  generalize UInt8.ofNat (48 + i / 100 % 10) = a1 at *
  generalize UInt8.ofNat (48 + i / 10 % 10) = a2 at *
  generalize UInt8.ofNat (48 + i % 10) = a3 at *
  generalize UInt8.ofNat (48 + j / 100 % 10) = b1 at *
  generalize UInt8.ofNat (48 + j / 10 % 10) = b2 at *
  generalize UInt8.ofNat (48 + j % 10) = b3 at *
  rw [Bool.eq_iff_iff]
  simp [e1, e2, e3]
  omega

/-- what a key asks: the place p, and whether it is the key of p itself -/
structure KeyIs (k : ByteArray) (p : Nat) (f : Bool) : Prop where
  less : ∀ j, j < 1000 → Op.bytesLess (keyL j) k.toList = decide (j < p)
  same : ∀ j, j < 1000 → (keyL j == k.toList) = (f && decide (j = p))

theorem keyIs_key (i : Nat) (hi : i < 1000) : KeyIs (keyB i) i true :=
  ⟨fun j hj => by rw [keyB_toList]; exact key_less j i hj hi, fun j hj => by rw [keyB_toList, key_eq j i hj hi]; simp⟩

theorem less_snoc : ∀ (x y : List UInt8) (c : UInt8), x.length = y.length → Op.bytesLess x (y ++ [c]) = (Op.bytesLess x y || x == y)
  | [], [], c, _ => rfl
  | a :: x, b :: y, c, h => by
    have ih := less_snoc x y c (by simpa using h)
    simp only [List.cons_append, Op.bytesLess, ih, List.cons_beq_cons]
    cases decide (a < b) <;> cases a == b <;> simp
  | [], _ :: _, _, h => by cases h
  | _ :: _, [], _, h => by cases h

theorem keyIs_x (i : Nat) (hi : i < 999) (k : ByteArray) (hk : k.toList = keyL i ++ [120]) : KeyIs k (i + 1) false :=
  ⟨fun j hj => by
      rw [hk, less_snoc (keyL j) (keyL i) 120 rfl, key_less j i hj (by omega), key_eq j i hj (by omega), Bool.eq_iff_iff]
      simp; omega,
    fun j hj => by
      rw [hk]
      simp [keyL]⟩
end Go.Proofs.Ybulkira
