import Derived.Laws.BitsAllLaws
import Derived.WalkKit
namespace Go.Proofs.Qxb6613437a.fnIsAlnumIsFoldedLetterOrDigit

/-- Is the rune a letter or a digit of ASCII? -/
def alB (x : Int) : Bool := decide ((97 ≤ x ∧ x ≤ 122) ∨ (65 ≤ x ∧ x ≤ 90) ∨ (48 ≤ x ∧ x ≤ 57))

theorem or32 (n : Nat) : n ||| 32 = if n / 32 % 2 = 0 then n + 32 else n := by
  split
  · rename_i h
    have e1 : n = 2 ^ 6 * (n / 64) + n % 32 := by omega
    have hr : n % 32 < 2 ^ 6 := by omega
    have e2 : n = 2 ^ 6 * (n / 64) ||| n % 32 := by
      rw [← Nat.two_pow_add_eq_or_of_lt hr]; exact e1
    have e3 : n % 32 ||| 32 = 32 + n % 32 := by
      rw [Nat.or_comm]; exact nat_join 5 32 (n % 32) (by decide) (by omega)
    have hr2 : 32 + n % 32 < 2 ^ 6 := by omega
    have e4 : n ||| 32 = 2 ^ 6 * (n / 64) ||| (n % 32 ||| 32) := by
      rw [← Nat.or_assoc, ← e2]
    rw [e4, e3, ← Nat.two_pow_add_eq_or_of_lt hr2]
    omega
  · rename_i h
    apply Nat.eq_of_testBit_eq
    intro j
    rw [Nat.testBit_or, show (32 : Nat) = 2 ^ 5 by decide, Nat.testBit_two_pow]
    by_cases hj : 5 = j
    · subst hj
      have : n.testBit 5 = true := by
        rw [Nat.testBit_eq_decide_div_mod_eq]
        simp
        omega
      simp [this]
    · simp [hj]

theorem or_i32 (a : Int) : ∃ o : Nat, bits .or .i32 a 32 = IntKind.i32.wrap (o : Int) ∧ ((o : Int) = a % 4294967296 ∧ a / 32 % 2 ≠ 0 ∨ (o : Int) = a % 4294967296 + 32 ∧ a / 32 % 2 = 0) := by
  refine ⟨(BitVec.ofInt 32 a).toNat ||| 32, rfl, ?_⟩
  have hn : ((BitVec.ofInt 32 a).toNat : Int) = a % 4294967296 := by
    rw [BitVec.toNat_ofInt]; omega
  rw [or32]
  split
  · rename_i h
    right
    refine ⟨by omega, by omega⟩
  · rename_i h
    left
    refine ⟨by omega, by omega⟩

theorem letter_eq (a : Int) (h1 : -2147483648 ≤ a) (h2 : a ≤ 2147483647) :
    decide ((bits .or .i32 a 32 - 97) % 4294967296 < 26) = decide ((97 ≤ a ∧ a ≤ 122) ∨ (65 ≤ a ∧ a ≤ 90)) := by
  obtain ⟨o, e, ho⟩ := or_i32 a
  rw [e, IntKind.wrap_i32]
  apply decide_eq_decide.2
  omega

theorem digit_eq (a : Int) (h1 : -2147483648 ≤ a) (h2 : a ≤ 2147483647) :
    decide ((a - 48) % 4294967296 < 10) = decide (48 ≤ a ∧ a ≤ 57) := by
  apply decide_eq_decide.2
  omega

theorem twin_nat : ∀ n : Nat, n < 128 → ((97 ≤ n ∧ n ≤ 122) ∨ (65 ≤ n ∧ n ≤ 90)) → alB (bits .xor .i32 (n : Int) 32) = true := by decide +kernel

theorem twin (a : Int) (h : (97 ≤ a ∧ a ≤ 122) ∨ (65 ≤ a ∧ a ≤ 90)) : alB (bits .xor .i32 a 32) = true := by
  have := twin_nat a.toNat (by omega) (by omega)
  rwa [Int.toNat_of_nonneg (by omega)] at this
#print axioms twin
end Go.Proofs.Qxb6613437a.fnIsAlnumIsFoldedLetterOrDigit
