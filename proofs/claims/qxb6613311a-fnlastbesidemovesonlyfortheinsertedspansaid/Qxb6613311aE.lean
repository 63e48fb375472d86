/-
  Seat b6613311a: zzToSpans.
-/
import Derived.Test.Qxb6613311aD
namespace Go.Proofs.Qxb6613311a
open Go.ChangeShapes Go.WideShapes Go.ChangeAt Go.RowKit
set_option linter.unusedVariables false

theorem make_run {P : Program} (t e : TypeId) (z : Value) (size bytes : Nat) (ht : P.underlying t = some (.slice e)) (hinfo : (P.info? e).map (fun i => (i.zero, i.size, i.bytes)) = some (some z, size, bytes))
    (n : Nat) (hbytes : bytes * n ≤ 281474976710656) (h63 : n ≤ 9223372036854775807) (w : World) :
    (Instr.makeSlice t (.int .i64 (n : Int)) (.int .i64 (n : Int))).run P w = .ok (.slice (some ⟨w.heap.size, 0, none⟩) n n) (w.alloc (.cells (madeCells z.cells (n * size)) e)) := by
  obtain ⟨i, hi, hzz⟩ := Option.map_eq_some_iff.1 hinfo
  simp only [Prod.mk.injEq] at hzz
  obtain ⟨hz, hs, hb⟩ := hzz
  have hb' : (i.bytes : Int) * (n : Int) ≤ 281474976710656 := by
    have h : ((i.bytes * n : Nat) : Int) ≤ 281474976710656 := by rw [hb]; omega
    rwa [Int.natCast_mul] at h
  have hr := run_make (P := P) w t e i z ht hi hz .i64 .i64 n n (by omega) (Int.le_refl _) hb' (by omega)
  simp only [Int.toNat_natCast, hs] at hr
  exact hr

theorem info43 : (Try.prog.info? 43).map (fun i => (i.zero, i.size, i.bytes)) = some (some (.agg #[.int .i64 0, .int .i64 0, .int .i64 0]), 3, 24) := by kernel_rfl

theorem rowIs_madeAny (w : World) (z : Array Value) (n : Nat) (t : TypeId) : (w.alloc (.cells (madeCells z n) t)).rowIs w.heap.size t n (fun i => z[i % z.size]!) :=
  ⟨_, Deep.blk_alloc_new _ _, size_madeCells _ _, fun i hi => by simp [madeCells, hi]⟩

theorem store3 {w wr : World} {B N : Nat} {t : TypeId} {n : Nat} {F : Nat → Value} (hb : Below B w wr) (hB : B ≤ N) (hr : wr.rowIs N t n F) (j : Nat) (v0 v1 v2 : Value) (O : Obj) :
    Below B w ((((wr.setCell ⟨N, j, none⟩ v0).setCell ⟨N, j + 1, none⟩ v1).setCell ⟨N, j + 2, none⟩ v2).alloc O) ∧
    ((((wr.setCell ⟨N, j, none⟩ v0).setCell ⟨N, j + 1, none⟩ v1).setCell ⟨N, j + 2, none⟩ v2).alloc O).rowIs N t n (fun i => if i = j + 2 then v2 else if i = j + 1 then v1 else if i = j then v0 else F i) := by
  refine ⟨(((hb.setCell hB _).setCell hB _).setCell hB _).alloc ?_ _, (((hr.set j v0).set (j + 1) v1).set (j + 2) v2).alloc _⟩
  have := hr.lt
  simp [World.setCell]
  omega

theorem toSpans_nil (n c : Nat) (w : World) :
    Calls Try.prog 13 #[.slice none n c] w fun e w' => e = .returned (.slice none 0 0) ∧ w' = w := by
  have hn := fun wx => Lib.run_eql_slice_nil (P := Try.prog) wx 23 31 none n c 0 0 Try.underlying23
  go_enter Try.func13, Try.ntmps13
  go_wp2
  go_ret
  exact ⟨rfl, rfl⟩

theorem toSpans_some (x : Addr) (b o n c : Nat) (w : World) (T Lo Hi : Nat → Int) (hn : n ≤ 2097152) (hx : 0 < n → x = ⟨b, o, none⟩) (hS : SpansAt w b o n T Lo Hi) :
    Calls Try.prog 13 #[.slice (some x) n c] w fun e w' => e = .returned (.slice (some ⟨w.heap.size, 0, none⟩) n n) ∧ SpansAt w' w.heap.size 0 n T Lo Hi ∧ Below w.heap.size w w' := by
  have hnil := fun wx => Lib.run_eql_slice_nil (P := Try.prog) wx 23 31 (some x) n c 0 0 Try.underlying23
  have hmk := make_run (P := Try.prog) 54 43 _ 3 24 Try.underlying54 info43 n (by omega) (by omega)
  have HX : Hid (0 < n → x = ⟨b, o, none⟩) := hx
  have HS : Hid (SpansAt w b o n T Lo Hi) := hS
  clear hx hS
  go_enter Try.func13, Try.ntmps13
  go_wp2
  clear hnil hmk
  go_loopg [4] n (fun g y wr => ∃ (k : Nat) (F : Nat → Value), k ≤ n ∧ g = n - k ∧ y = .int .i64 k ∧ wr.rowIs w.heap.size 43 (n * 3) F ∧ Hid (∀ i, i < k → F (i * 3) = .int .i64 (T i) ∧ F (i * 3 + 1) = .int .i64 (Lo i) ∧ F (i * 3 + 2) = .int .i64 (Hi i)) ∧ Below w.heap.size w wr)
  case atStart => 
    exact ⟨0, _, Nat.zero_le _, rfl, rfl, rowIs_madeAny w _ _ _, (fun i hi => absurd hi (Nat.not_lt_zero _)), (Below.refl _ _).alloc (Nat.le_refl _) _⟩
  case round =>
    obtain ⟨k, F, hk, rfl, rfl, hrow, hF, hbel⟩ := hrel
    by_cases hlt : k < n
    · obtain rfl := HX.out (by omega)
      obtain ⟨hc0, hc1, hc2⟩ := (HS.out.below hbel (Nat.le_refl _)) k hlt
      have hbb : b < w.heap.size := lt_of_cell (HS.out k hlt).1
      have hbb2 : b < wr.heap.size := lt_of_cell hc0
      have hN : w.heap.size < wr.heap.size := hrow.lt
      have hk' : (k : Int) < n := by omega
      have g0 := hrow.cell (i := k * 3) (by omega)
      have g1 := hrow.cell (i := k * 3 + 1) (by omega)
      have g2 := hrow.cell (i := k * 3 + 2) (by omega)
      have f0 := hrow.frozen (k * 3)
      have f1 := hrow.frozen (k * 3 + 1)
      have f2 := hrow.frozen (k * 3 + 2)
      have hne : ¬ b = w.heap.size := by omega
      have HB : Hid (Below w.heap.size w wr) := hbel
      have HR : Hid (wr.rowIs w.heap.size 43 (n * 3) F) := hrow
      clear hbel hrow
      go_wp2
      go_roundg (n - (k + 1))
      case measure => omega
      case rel =>
        obtain ⟨R1, R2⟩ := store3 HB.out (Nat.le_refl _) HR.out (k * 3) (.int .i64 (T k)) (.int .i64 (Lo k)) (.int .i64 (Hi k)) (.cells #[.int .i64 (T k), .int .i64 (Lo k), .int .i64 (Hi k)] 31)
        refine ⟨k + 1, _, by omega, rfl, by go_num, R2, fun i hi => ?_, R1⟩
        by_cases e : i = k
        · subst e
          refine ⟨?_, ?_, ?_⟩
          · rw [if_neg (by omega), if_neg (by omega), if_pos rfl]
          · rw [if_neg (by omega), if_pos rfl]
          · rw [if_pos rfl]
        · have h1 := hF i (by omega)
          refine ⟨?_, ?_, ?_⟩
          · rw [if_neg (by omega), if_neg (by omega), if_neg (by omega)]; exact h1.1
          · rw [if_neg (by omega), if_neg (by omega), if_neg (by omega)]; exact h1.2.1
          · rw [if_neg (by omega), if_neg (by omega), if_neg (by omega)]; exact h1.2.2
    · go_wp2
      go_ret
      refine ⟨rfl, fun i hi => ?_, hbel⟩
      have h1 := hF i (by omega)
      refine ⟨?_, ?_, ?_⟩
      · rw [Nat.zero_add, hrow.cell (by omega), h1.1]
      · rw [Nat.zero_add, hrow.cell (by omega), h1.2.1]
      · rw [Nat.zero_add, hrow.cell (by omega), h1.2.2]

theorem toSpans_any (a : Option Addr) (b o n c : Nat) (w : World) (T Lo Hi : Nat → Int) (hn : n ≤ 2097152) (h0 : a = none → n = 0) (ha : 0 < n → a = some ⟨b, o, none⟩) (hS : SpansAt w b o n T Lo Hi) :
    Calls Try.prog 13 #[.slice a n c] w fun e w' => ∃ a', e = .returned (.slice a' n n) ∧ (a' = none → n = 0) ∧ (0 < n → a' = some ⟨w.heap.size, 0, none⟩) ∧ SpansAt w' w.heap.size 0 n T Lo Hi ∧ Below w.heap.size w w' := by
  cases a with
  | none =>
    obtain rfl := h0 rfl
    refine (toSpans_nil 0 c w).mono ?_
    rintro e w' ⟨rfl, rfl⟩
    exact ⟨none, rfl, fun _ => rfl, fun h => absurd h (Nat.lt_irrefl _), fun i hi => absurd hi (Nat.not_lt_zero _), Below.refl _ _⟩
  | some x =>
    refine (toSpans_some x b o n c w T Lo Hi hn (fun h => by have := ha h; cases this; rfl) hS).mono ?_
    rintro e w' ⟨rfl, h1, h2⟩
    exact ⟨_, rfl, (fun h => by cases h), fun _ => rfl, h1, h2⟩
end Go.Proofs.Qxb6613311a
