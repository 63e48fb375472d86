/-
  The instruction word of seat b6613372a: the plain arithmetic of makeInstr and of Instr.A, and their two contracts.
-/
import Derived.Test.Qxb6613372aRows
import Derived.WalkKit
import Derived.ProofKit
import Derived.OpenShut
import Derived.Laws.BitsAllLaws
namespace Go.Proofs.Qxb6613372a
open Go.ChangeShapes Go.WideShapes Go.ChangeAt Go.RowKit

theorem or_join (i : Nat) (x y : Nat) (hx : x < 2 ^ i) (hy : y % 2 ^ i = 0) (hx' : x < 18446744073709551616) (hy' : y < 18446744073709551616) :
    bits .or .u64 (x : Int) (y : Int) = ((x + y : Nat) : Int) := by
  rw [u64_or_nat x y hx' hy', Nat.or_comm, nat_join i y x hy hx, Nat.add_comm]

theorem or_joinI (i : Nat) (x y : Int) (x0 : 0 ≤ x) (y0 : 0 ≤ y) (hx : x.toNat < 2 ^ i) (hy : y.toNat % 2 ^ i = 0) (hx' : x < 18446744073709551616) (hy' : y < 18446744073709551616) :
    bits .or .u64 x y = x + y := by
  have := or_join i x.toNat y.toNat hx hy (by omega) (by omega)
  rw [Int.toNat_of_nonneg x0, Int.toNat_of_nonneg y0] at this
  rw [this]
  omega

theorem make_eq (op a b c : Int) (h0 : 0 ≤ op) (h0' : op ≤ 255) (h1 : 0 ≤ a) (h1' : a ≤ 65535) (h2 : 0 ≤ b) (h2' : b ≤ 65535) (h3 : 0 ≤ c) (h3' : c ≤ 65535) :
    bits .or .u64 (bits .or .u64 (bits .or .u64 op (a * 65536)) (c * 4294967296)) (b * 281474976710656) = op + a * 65536 + c * 4294967296 + b * 281474976710656 := by
  rw [or_joinI 16 op (a * 65536) h0 (by omega) (by simp; omega) (by simp; omega) (by omega) (by omega)]
  rw [or_joinI 32 (op + a * 65536) (c * 4294967296) (by omega) (by omega) (by simp; omega) (by simp; omega) (by omega) (by omega)]
  rw [or_joinI 48 (op + a * 65536 + c * 4294967296) (b * 281474976710656) (by omega) (by omega) (by simp; omega) (by simp; omega) (by omega) (by omega)]

theorem andNot_eq (x : Int) (h0 : 0 ≤ x) (h0' : x ≤ 18446744073709551615) :
    bits .andNot .u64 x 65280 = x / 65536 * 65536 + x % 256 := by
  rw [u64_andNot x 65280 h0 (by omega) (by omega) (by omega)]
  have e1 : (18446744073709551615 - (65280 : Int).toNat : Nat) = 18446744073709486080 ||| 255 := by decide
  rw [e1, Nat.and_or_distrib_left, nat_mask8, nat_midmask 64 16 x.toNat (by decide)]
  rw [nat_join 16 _ _ (by simp) (by simp; omega)]
  have : (x.toNat : Int) = x := Int.toNat_of_nonneg h0
  simp
  omega

theorem ret_eq {k : IntKind} {a b : Int} (h : a = b) : Ending.returned (.int k a) = .returned (.int k b) := by rw [h]

theorem mk_any (op a b c : Int) (w : World) (h0 : 0 ≤ op) (h0' : op ≤ 255) (h1 : 0 ≤ a) (h1' : a ≤ 65535) (h2 : 0 ≤ b) (h2' : b ≤ 65535) (h3 : 0 ≤ c) (h3' : c ≤ 65535) :
    Calls Try.prog 14 #[.int .u8 op, .int .u16 a, .int .u16 b, .int .u16 c] w fun e w' => e = .returned (.int .u64 (op + a * 65536 + c * 4294967296 + b * 281474976710656)) ∧ w' = w := by
  go_enter Try.func14, Try.ntmps14
  go_wp2
  go_ret
  exact ⟨ret_eq (make_eq op a b c h0 h0' h1 h1' h2 h2' h3 h3'), rfl⟩

theorem zzmk_any (op a b c : Int) (w : World) (h0 : 0 ≤ op) (h0' : op ≤ 255) (h1 : 0 ≤ a) (h1' : a ≤ 65535) (h2 : 0 ≤ b) (h2' : b ≤ 65535) (h3 : 0 ≤ c) (h3' : c ≤ 65535) :
    Calls Try.prog 6 #[.int .u8 op, .int .u16 a, .int .u16 b, .int .u16 c] w fun e w' => e = .returned (.int .u64 (op + a * 65536 + c * 4294967296 + b * 281474976710656)) ∧ w' = w := by
  go_enter Try.func6, Try.ntmps6
  go_wp2_with fail
  refine (mk_any op a b c _ h0 h0' h1 h1' h2 h2' h3 h3').mono ?_
  rintro e w' ⟨rfl, rfl⟩
  go_wp2
  go_ret
  exact ⟨rfl, rfl⟩

theorem A_any (x : Int) (w : World) :
    Calls Try.prog 7 #[.int .u64 x] w fun e w' => e = .returned (.int .u16 (x / 65536 % 65536)) ∧ w' = w := by
  go_enter Try.func7, Try.ntmps7
  go_wp2
  go_ret
  exact ⟨ret_eq (IntKind.wrap_u16 _), rfl⟩
end Go.Proofs.Qxb6613372a
