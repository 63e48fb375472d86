/-
  Seat b6613462aF: bytes as strings; the contracts of the bounds and of literalModel.
-/
import Derived.Test.Qxb6613462aFmtB
import Derived.Lib.SlBytesRow
namespace Go.Proofs.Qxb6613462aFmt
open Go.ChangeShapes Go.WideShapes Go.ChangeAt Go.RowKit
open Go.Extern.Stop Go.Stop Go.Extern
set_option linter.unusedVariables false

theorem gOf_list (s : ByteArray) (i : Nat) (h : i < s.size) : s.data.toList[i]? = some (UInt8.ofNat (gOf s i).toNat) := by
  have h2 : i < s.data.toList.length := by simpa using h
  rw [List.getElem?_eq_getElem h2]
  unfold gOf
  rw [List.getD_eq_getElem?_getD, List.getElem?_eq_getElem h2]
  simp

theorem gOf_inj (s t : ByteArray) (i j : Nat) (hi : i < s.size) (hj : j < t.size) : s.data.toList[i]? = t.data.toList[j]? ↔ gOf s i = gOf t j := by
  have h2 : i < s.data.toList.length := by simpa using hi
  have h3 : j < t.data.toList.length := by simpa using hj
  unfold gOf
  rw [List.getElem?_eq_getElem h2, List.getElem?_eq_getElem h3, List.getD_eq_getElem?_getD, List.getElem?_eq_getElem h2, List.getD_eq_getElem?_getD, List.getElem?_eq_getElem h3]
  simp only [Option.getD_some, Option.some.injEq]
  constructor
  · intro h; rw [h]
  · intro h
    apply UInt8.toNat_inj.1
    omega

theorem ba_ext {x y : ByteArray} (h : x.data.toList = y.data.toList) : x = y := by
  apply ByteArray.ext
  exact Array.toList_inj.1 h

theorem ext_eq (D s : ByteArray) (p j : Nat) (hD : p + j ≤ D.size) (hs : j ≤ s.size) (h : ∀ i, i < j → gOf D (p + i) = gOf s i) : D.extract p (p + j) = s.extract 0 j := by
  apply ba_ext
  rw [Lib.extract_data, Lib.extract_data]
  apply List.ext_getElem?
  intro i
  simp only [Nat.sub_zero, List.drop_zero, Nat.add_sub_cancel_left]
  by_cases hi : i < j
  · rw [List.getElem?_take_of_lt hi, List.getElem?_take_of_lt hi, List.getElem?_drop]
    exact (gOf_inj D s (p + i) i (by omega) (by omega)).2 (h i hi)
  · rw [List.getElem?_eq_none (by simp; omega), List.getElem?_eq_none (by simp; omega)]

theorem ext_all (s : ByteArray) : s.extract 0 s.size = s := by
  apply ba_ext
  rw [Lib.extract_data]
  simp only [Nat.sub_zero, List.drop_zero]
  exact List.take_of_length_le (by simp)

theorem ext_ne (D s : ByteArray) (p k : Nat) (hD : p + s.size ≤ D.size) (hk : k < s.size) (h : gOf D (p + k) ≠ gOf s k) : D.extract p (p + s.size) ≠ s := by
  intro e
  apply h
  have e2 := congrArg (fun x : ByteArray => x.data.toList[k]?) e
  simp only [Lib.extract_data, Nat.add_sub_cancel_left] at e2
  rw [List.getElem?_take_of_lt hk, List.getElem?_drop] at e2
  exact (gOf_inj D s (p + k) k (by omega) hk).1 e2

theorem bytesW_any (p : Option Addr) (n c : Nat) (v u : Int) (s : ByteArray) (w : World) (hs : s.size ≤ maxLen) (f : Nat) (hf : f = 5 ∨ f = 12) :
    Calls Tryf.prog f #[.slice p n c, .int .i64 v, .string s, .int .i64 u] w fun e w' => (e = .returned (.bool false) ∨ (e = .returned (.bool true) ∧ n ≤ 1048576 ∧ s.size ≤ 1048576)) ∧ w' = w := by
  unfold maxLen at hs
  rcases hf with rfl | rfl
  all_goals
    by_cases h1 : 1048576 < n
    · first
        | (go_enter Tryf.func5, Tryf.ntmps5; go_wp2; go_ret; exact ⟨.inl rfl, rfl⟩)
        | (go_enter Tryf.func12, Tryf.ntmps12; go_wp2; go_ret; exact ⟨.inl rfl, rfl⟩)
    · by_cases h2 : 1048576 < s.size
      · first
          | (go_enter Tryf.func5, Tryf.ntmps5; go_wp2; go_ret; exact ⟨.inl rfl, rfl⟩)
          | (go_enter Tryf.func12, Tryf.ntmps12; go_wp2; go_ret; exact ⟨.inl rfl, rfl⟩)
      · by_cases h3 : 1048576 < n + s.size
        · first
            | (go_enter Tryf.func5, Tryf.ntmps5; go_wp2; go_ret; exact ⟨.inl rfl, rfl⟩)
            | (go_enter Tryf.func12, Tryf.ntmps12; go_wp2; go_ret; exact ⟨.inl rfl, rfl⟩)
        · first
            | (go_enter Tryf.func5, Tryf.ntmps5; go_wp2; go_ret; exact ⟨.inr ⟨rfl, by omega, by omega⟩, rfl⟩)
            | (go_enter Tryf.func12, Tryf.ntmps12; go_wp2; go_ret; exact ⟨.inr ⟨rfl, by omega, by omega⟩, rfl⟩)
end Go.Proofs.Qxb6613462aFmt
