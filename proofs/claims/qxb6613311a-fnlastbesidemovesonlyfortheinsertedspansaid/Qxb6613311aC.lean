/-
  Seat b6613311a: the law's bounds and zzWellFormed.
-/
import Derived.Test.Qxb6613311aB
namespace Go.Proofs.Qxb6613311a
open Go.ChangeShapes Go.WideShapes Go.ChangeAt Go.RowKit
set_option linter.unusedVariables false

/-- The rows of steps as they lie. -/
def RowsAt (w : World) (sb so m : Nat) (A : Nat → Option Addr) (L C : Nat → Nat) : Prop := ∀ r, r < m → w.cell? ⟨sb, so + r, none⟩ = some (.slice (A r) (L r) (C r))

theorem RowsAt.below {w w' : World} {sb so m B : Nat} {A : Nat → Option Addr} {L C : Nat → Nat} (h : RowsAt w sb so m A L C) (hb : Below B w w') (hB : w.heap.size ≤ B) : RowsAt w' sb so m A L C :=
  fun i hi => cell_below hb hB (h i hi)

/-- e returns a truth value, which, if true, says p. -/
def Tells (p : Prop) (e : Ending) : Prop := ∃ t : Bool, e = .returned (.bool t) ∧ (t = true → p)
/-- e returns a number and a truth value; if the latter is false, the number is p's. -/
def Sums (p : Int → Prop) (e : Ending) : Prop := ∃ (z : Int) (t : Bool), e = .returned (.tuple #[.int .i64 z, .bool t]) ∧ (t = false → p z)

theorem bytes_any (a p : Option Addr) (sb so m cm n cn : Nat) (v lo u : Int) (w : World) (A : Nat → Option Addr) (L C : Nat → Nat) (ha : 0 < m → a = some ⟨sb, so, none⟩) (hR : RowsAt w sb so m A L C) :
    Calls Try.prog 4 #[.slice a m cm, .slice p n cn, .int .i64 v, .int .i64 lo, .int .i64 u] w fun e w' => Tells (m ≤ 1048576 ∧ n ≤ 1048576 ∧ ∀ r, r < m → L r ≤ 1048576) e ∧ w' = w := by
  have HA : Hid (0 < m → a = some ⟨sb, so, none⟩) := ha
  have HR : Hid (RowsAt w sb so m A L C) := hR
  clear ha hR
  by_cases hm : 1048576 < m
  · go_enter Try.func4, Try.ntmps4
    go_wp2
    go_ret
    exact ⟨⟨false, rfl, (fun h => by cases h)⟩, rfl⟩
  · have hm' : (m : Int) ≤ 1048576 := by omega
    go_enter Try.func4, Try.ntmps4
    go_wp2
    go_loopg [11, 12] m (fun g x y wr => ∃ (z : Int) (k : Nat), 0 ≤ z ∧ z ≤ 1048576 ∧ k ≤ m ∧ g = m - k ∧ x = .int .i64 z ∧ y = .int .i64 k ∧ Hid (∀ r, r < k → L r ≤ 1048576) ∧ wr = w)
    case atStart => exact ⟨m, 0, by omega, by omega, Nat.zero_le _, rfl, rfl, rfl, (fun r hr => absurd hr (Nat.not_lt_zero _)), rfl⟩
    case round =>
      obtain ⟨z, k, hz0, hz1, hk, rfl, rfl, rfl, hL, rfl⟩ := hrel
      by_cases hlt : k < m
      · obtain rfl := HA.out (by omega)
        have hc := HR.out k hlt
        by_cases hl : 1048576 < L k
        · go_wp2
          go_ret
          exact ⟨⟨false, rfl, (fun h => by cases h)⟩, rfl⟩
        · have hl' : (L k : Int) ≤ 1048576 := by omega
          by_cases hs : 1048576 < z + L k
          · go_wp2
            go_ret
            exact ⟨⟨false, rfl, (fun h => by cases h)⟩, rfl⟩
          · go_wp2
            go_roundg (m - (k + 1))
            case measure => omega
            case rel => exact ⟨z + L k, k + 1, by omega, by omega, by omega, rfl, rfl, by go_num, (fun r hr => by
              by_cases e : r = k
              · rw [e]; omega
              · exact hL r (by omega)), rfl⟩
      · by_cases hn : 1048576 < n
        · go_wp2
          go_ret
          exact ⟨⟨false, rfl, (fun h => by cases h)⟩, rfl⟩
        · have hn' : (n : Int) ≤ 1048576 := by omega
          by_cases hs : 1048576 < z + n
          · go_wp2
            go_ret
            exact ⟨⟨false, rfl, (fun h => by cases h)⟩, rfl⟩
          · go_wp2
            go_ret
            exact ⟨⟨true, rfl, fun _ => ⟨by omega, by omega, fun r hr => hL r (by omega)⟩⟩, rfl⟩

theorem steps_any (a : Option Addr) (sb so m cm : Nat) (w : World) (A : Nat → Option Addr) (L C : Nat → Nat) (hm : m ≤ 1048576) (hL : ∀ r, r < m → L r ≤ 1048576) (ha : 0 < m → a = some ⟨sb, so, none⟩) (hR : RowsAt w sb so m A L C) :
    Calls Try.prog 5 #[.slice a m cm, .int .i64 0] w fun e w' => Sums (fun z => 0 ≤ z ∧ z ≤ 1048576) e ∧ w' = w := by
  have HA : Hid (0 < m → a = some ⟨sb, so, none⟩) := ha
  have HR : Hid (RowsAt w sb so m A L C) := hR
  have HL : Hid (∀ r, r < m → L r ≤ 1048576) := hL
  clear ha hR hL
  have hm' : (m : Int) ≤ 1048576 := by omega
  by_cases h24 : (1048576 : Int) < 24 * (m : Int)
  · go_enter Try.func5, Try.ntmps5
    go_wp2
    go_ret2
    exact ⟨⟨_, true, rfl, (fun h => by cases h)⟩, rfl⟩
  · go_enter Try.func5, Try.ntmps5
    go_wp2
    go_loopg [1, 6] m (fun g x y wr => ∃ (z : Int) (k : Nat), 0 ≤ z ∧ z ≤ 1048576 ∧ k ≤ m ∧ g = m - k ∧ x = .int .i64 z ∧ y = .int .i64 k ∧ wr = w)
    case atStart => exact ⟨24 * m, 0, by omega, by omega, Nat.zero_le _, rfl, by simp, rfl, rfl⟩
    case round =>
      obtain ⟨z, k, hz0, hz1, hk, rfl, rfl, rfl, rfl⟩ := hrel
      by_cases hlt : k < m
      · obtain rfl := HA.out (by omega)
        have hc := HR.out k hlt
        have hl := HL.out k hlt
        have hl' : (L k : Int) ≤ 1048576 := by omega
        by_cases hs : (1048576 : Int) < z + 24 * (L k : Int)
        · go_wp2
          go_ret2
          exact ⟨⟨_, true, rfl, (fun h => by cases h)⟩, rfl⟩
        · go_wp2
          go_roundg (m - (k + 1))
          case measure => omega
          case rel => exact ⟨z + 24 * L k, k + 1, by omega, by omega, by omega, rfl, rfl, by go_num, rfl⟩
      · go_wp2
        go_ret2
        exact ⟨⟨_, false, rfl, fun _ => ⟨hz0, hz1⟩⟩, rfl⟩

theorem spansBig_any (p : Option Addr) (n cn : Nat) (z : Int) (w : World) (hn : n ≤ 1048576) (h0 : 0 ≤ z) (h1 : z ≤ 1048576) :
    Calls Try.prog 6 #[.slice p n cn, .int .i64 z] w fun e w' => Sums (fun _ => True) e ∧ w' = w := by
  have hn' : (n : Int) ≤ 1048576 := by omega
  go_enter Try.func6, Try.ntmps6
  go_wp2
  all_goals
    go_ret2
    exact ⟨⟨_, _, rfl, fun _ => trivial⟩, rfl⟩
end Go.Proofs.Qxb6613311a
