/-
  Seat b6613462a: the walk of FnDigitsShiftAndMaximalRun out of the contracts.
-/
import Derived.Test.Qxb6613462aC
namespace Go.Proofs.Qxb6613462a
open Go.ChangeShapes Go.WideShapes Go.ChangeAt Go.RowKit

theorem law_big (a : Option Addr) (n c : Nat) (p : Int) (w : World) (h : 1048576 < n) :
    Calls Try.prog 3 #[.slice a n c, .int .i64 p] w fun e w' => e = .returned (.bool true) ∧ Below w.heap.size w w' := by
  go_enter Try.func3, Try.ntmps3
  go_wp2_with fail
  refine (fits_big a n c p _ h).mono ?_
  rintro e w' ⟨rfl, rfl⟩
  go_wp2
  go_ret
  exact ⟨rfl, Below.refl _ _⟩

theorem law_off (a : Option Addr) (n c : Nat) (p : Int) (w : World) (h : n ≤ 1048576) (hp : p < 0 ∨ n < p) :
    Calls Try.prog 3 #[.slice a n c, .int .i64 p] w fun e w' => e = .returned (.bool true) ∧ Below w.heap.size w w' := by
  rcases hp with hp | hp
  all_goals
    have h0 : p < 0 ∨ 0 ≤ p := by omega
    rcases h0 with h0 | h0
    all_goals
      first
      | (exfalso; omega)
      | (go_enter Try.func3, Try.ntmps3
         go_wp2_with fail
         refine (fits_small a n c p _ h).mono ?_
         rintro e w' ⟨rfl, rfl⟩
         go_wp2
         go_ret
         exact ⟨rfl, Below.refl _ _⟩)

theorem zzdigits_of (a : Option Addr) (n c p B : Nat) (w : World) (f : Nat → Int) (q : Nat) (t : Bool) (hq : runEnd f n p = q) (ht : decide (p < q) = t) (hn : n ≤ 1048576) (hp : p ≤ n)
    (hB : w.heap[B]? = some (scan (.slice a n c) p)) (b off : Nat) (hbB : 0 < n → b ≠ B) (ha : 0 < n → a = some ⟨b, off, none⟩)
    (hc : ∀ i, i < n → w.cell? ⟨b, off + i, none⟩ = some (.int .u8 (f i))) :
    Calls Try.prog 7 #[.pointer (some ⟨B, 0, none⟩)] w fun e w' => e = .returned (.bool t) ∧ Upd w w' B (scan (.slice a n c) q) := by
  subst hq; subst ht
  exact zzdigits_any a n c p B w f hn hp hB b off hbB ha hc

theorem Upd.below {w w' : World} {B : Nat} {o : Obj} (h : Upd w w' B o) : Below B w w' := ⟨h.os, h.tape, h.output, by rw [h.size]; exact Nat.le_refl _, fun k hk => h.block k (by omega)⟩

theorem newb {w w' : World} {o : Obj} (h : w' = w.alloc o) : Hid (w'.heap[w.heap.size]? = some o) := by
  show _ = _; rw [h]; exact Deep.blk_alloc_new _ _

/-- The walk proper, behind the clone. -/
theorem law_in (a : Option Addr) (n c p : Nat) (w : World) (f : Nat → Int) (h : n ≤ 1048576) (hp : p ≤ n) (ha : ∀ x, a = some x → 0 < n → x.spot = none ∧ x.block < w.heap.size ∧ ∀ i, i < n → w.cell? ⟨x.block, x.off + i, none⟩ = some (.int .u8 (f i)))
    (h0 : a = none → n = 0) :
    Calls Try.prog 3 #[.slice a n c, .int .i64 p] w fun e w' => e = .returned (.bool true) ∧ Below w.heap.size w w' := by
  have hp0 : (0 : Int) ≤ p := by omega
  have hp1 : (p : Int) ≤ n := by omega
  have C : Hid (Calls Try.prog 5 #[.slice a n c] w _) := clone_any a n c w f h ha h0
  clear ha h0
  obtain ⟨hge, hle, hend, hin, hagain, hshift⟩ := run_facts f n p hp
  generalize hq : runEnd f n p = q at *
  generalize hr : runEnd (fun i => f (p + i)) (n - p) 0 = r at *
  have HQ : Hid (runEnd f n p = q) := hq
  have HR : Hid (runEnd (fun i => f (p + i)) (n - p) 0 = r) := hr
  have HS : Hid (r + p = q) := hshift
  have HG : Hid (runEnd f n q = q) := hagain
  have HE : Hid (q < n → dgB (f q) = false) := hend
  have HI : Hid (∀ j, p ≤ j → j < q → dgB (f j) = true) := hin
  clear hq hr hshift hagain hend hin
  go_enter Try.func3, Try.ntmps3
  go_wp2_with fail
  refine (fits_small a n c p _ h).mono ?_
  rintro e w' ⟨rfl, rfl⟩
  go_wp2_with fail
  refine C.out.mono ?_
  rintro e w1 ⟨a', rfl, hnil, hsome, hcell, hbel⟩
  have hA : Hid (0 < n → a' = some ⟨w'.heap.size, 0, none⟩ ∧ w'.heap.size < w1.heap.size) := by
    intro h1
    cases a' with
    | none => have := hnil rfl; omega
    | some x => have := hsome x rfl; exact ⟨by rw [this.1], this.2⟩
  have HC : Hid (∀ i, i < n → w1.cell? ⟨w'.heap.size, i, none⟩ = some (.int .u8 (f i))) := hcell
  clear hnil hsome hcell C
  obtain ⟨t, ht⟩ : ∃ t, decide (p < q) = t := ⟨_, rfl⟩
  have HT : Hid (decide (p < q) = t) := ht
  clear ht
  go_wp2_with fail
  refine (newAt_any a' n n p _).mono ?_
  rintro e w2 ⟨rfl, hw2⟩
  have hw2c : ∀ i, i < n → w2.cell? ⟨w'.heap.size, i, none⟩ = some (.int .u8 (f i)) := fun i hi => by
    rw [hw2, World.cell?_alloc_lt _ _ _ (hA.out (by omega)).2]; exact HC.out i hi
  have HC2 := (show Hid _ from hw2c)
  have hw2b : Hid (w2.heap[w1.heap.size]? = some (scan (.slice a' n n) p)) := by show _ = _; rw [hw2]; exact Deep.blk_alloc_new _ _
  have hbel2 : Below w'.heap.size w' w2 := by rw [hw2]; exact hbel.alloc hbel.size _
  have hs2 : Hid (w2.heap.size = w1.heap.size + 1) := by show _ = _; rw [hw2]; simp
  clear hw2 HC hw2c
  go_wp2_with fail
  refine (zzdigits_of a' n n p w1.heap.size w2 f q t HQ.out HT.out h hp hw2b.out w'.heap.size 0 (fun h1 => by have := (hA.out h1).2; omega) (fun h1 => (hA.out h1).1) (fun i hi => by rw [Nat.zero_add]; exact HC2.out i hi)).mono ?_
  rintro e w3 ⟨rfl, hU⟩
  have hpos : w3.cell? ⟨w1.heap.size, 1, none⟩ = some (.int .i64 q) := cell_block hU.here 1
  have HC3 : Hid (∀ i, i < n → w3.cell? ⟨w'.heap.size, i, none⟩ = some (.int .u8 (f i))) := fun i hi => (hU.cell (a := ⟨w'.heap.size, i, none⟩) (by have := (hA.out (by omega)).2; simp; omega)).trans (HC2.out i hi)
  have hbel3 : Below w'.heap.size w' w3 := hbel2.trans (hU.below.mono hbel.size)
  have hs3 : Hid (w3.heap.size = w1.heap.size + 1) := hU.size.trans hs2.out
  clear HC2 hw2b hbel2 hs2 hU
  go_wp2_with fail
  refine (pos_any w1.heap.size q w3 hpos).mono ?_
  rintro e w4 ⟨rfl, rfl⟩
  clear hpos
  by_cases hpn : p < n
  · obtain ⟨rfl, hN⟩ := hA.out (by omega)
    clear hA
    go_wp2_with fail
    refine (newAt_any _ _ _ 0 _).mono ?_
    rintro e w5 ⟨rfl, hw5⟩
    have HC5 : Hid (∀ i, i < n → w5.cell? ⟨w'.heap.size, i, none⟩ = some (.int .u8 (f i))) := fun i hi => by
      rw [hw5, World.cell?_alloc_lt _ _ _ (by have := hs3.out; simp; omega)]; exact HC3.out i hi
    have hb5 := newb hw5
    have hbel5 : Below w'.heap.size w' w5 := by rw [hw5]; exact hbel3.alloc hbel3.size _
    have hs5 : Hid (w5.heap.size = w4.heap.size + 1) := by show _ = _; rw [hw5]; simp
    clear hw5 HC3
    go_wp2_with fail
    refine (zzdigits_of _ (n - p) (n - p) 0 w4.heap.size w5 (fun i => f (p + i)) r t HR.out (by have h1 := HT.out; have h2 := HS.out; rw [← h1]; exact decide_eq_decide.2 (by omega)) (by omega) (Nat.zero_le _) hb5.out w'.heap.size p (fun _ => by have := hs3.out; omega) (fun _ => rfl) (fun i hi => HC5.out (p + i) (by omega))).mono ?_
    rintro e w6 ⟨rfl, hU⟩
    have hpos : w6.cell? ⟨w4.heap.size, 1, none⟩ = some (.int .i64 r) := cell_block hU.here 1
    have HC6 : Hid (∀ i, i < n → w6.cell? ⟨w'.heap.size, i, none⟩ = some (.int .u8 (f i))) := fun i hi => (hU.cell (a := ⟨w'.heap.size, i, none⟩) (by have := hs3.out; simp; omega)).trans (HC5.out i hi)
    have hbel6 : Below w'.heap.size w' w6 := hbel5.trans (hU.below.mono hbel3.size)
    have hs6 : Hid (w6.heap.size = w4.heap.size + 1) := hU.size.trans hs5.out
    clear HC5 hb5 hbel5 hs5 hU
    go_wp2_with fail
    refine (pos_any w4.heap.size r w6 hpos).mono ?_
    rintro e w7 ⟨rfl, rfl⟩
    clear hpos
    have hqr : (q : Int) - p = r := by have := HS.out; omega
    go_wp2_with fail
    refine (newAt_any _ _ _ q _).mono ?_
    rintro e w8 ⟨rfl, hw8⟩
    have HC8 : Hid (∀ i, i < n → w8.cell? ⟨w'.heap.size, i, none⟩ = some (.int .u8 (f i))) := fun i hi => by
      rw [hw8, World.cell?_alloc_lt _ _ _ (by have := hs3.out; have := hs6.out; simp; omega)]; exact HC6.out i hi
    have hb8 := newb hw8
    have hbel8 : Below w'.heap.size w' w8 := by rw [hw8]; exact hbel6.alloc hbel6.size _
    clear hw8 HC6 hqr
    go_wp2_with fail
    refine (zzdigits_of _ n n q w7.heap.size w8 f q false HG.out (decide_eq_false (by omega)) h hle hb8.out w'.heap.size 0 (fun _ => by have := hs3.out; have := hs6.out; omega) (fun _ => rfl) (fun i hi => by rw [Nat.zero_add]; exact HC8.out i hi)).mono ?_
    rintro e w9 ⟨rfl, hU⟩
    have hpos : w9.cell? ⟨w7.heap.size, 1, none⟩ = some (.int .i64 q) := cell_block hU.here 1
    have HC9 : Hid (∀ i, i < n → w9.cell? ⟨w'.heap.size, i, none⟩ = some (.int .u8 (f i))) := fun i hi => (hU.cell (a := ⟨w'.heap.size, i, none⟩) (by have := hs3.out; have := hs6.out; simp; omega)).trans (HC8.out i hi)
    have hbel9 : Below w'.heap.size w' w9 := hbel8.trans (hU.below.mono hbel6.size)
    clear HC8 hb8 hbel8 hU
    go_wp2_with fail
    refine (pos_any w7.heap.size q w9 hpos).mono ?_
    rintro e wa ⟨rfl, rfl⟩
    clear hpos
    by_cases hqn : q < n
    · have hq' : (q : Int) < n := by omega
      have hqc := HC9.out q hqn
      go_wp2_with fail
      refine (dec_of _ _ false (HE.out hqn)).mono ?_
      rintro e wb ⟨rfl, rfl⟩
      clear hqc
      go_wp2_with fail
      clear HE HG HQ HR
      go_loopg [12] (q - p) (fun g i wr => ∃ k : Nat, p ≤ k ∧ k ≤ q ∧ g = q - k ∧ i = .int .i64 k ∧ wr = wb)
      case atStart => exact ⟨p, Nat.le_refl _, hge, rfl, rfl, rfl⟩
      case round =>
        obtain ⟨k, hk1, hk2, rfl, rfl, rfl⟩ := hrel
        by_cases hkq : k < q
        · have hkc := HC9.out k (by omega)
          have hk' : (k : Int) < q := by omega
          have hk3 : (k : Int) < n := by omega
          go_wp2_with fail
          refine (dec_of _ _ true (HI.out k hk1 hkq)).mono ?_
          rintro e wc ⟨rfl, rfl⟩
          go_wp2
          go_roundg (q - (k + 1))
          case measure => omega
          case rel => exact ⟨k + 1, by omega, by omega, rfl, by go_num, rfl⟩
        · go_wp2
          go_ret
          refine ⟨?_, hbel9⟩
          have ht := HT.out
          simp [← ht]
    · have hq' : ¬ (q : Int) < n := by omega
      go_wp2_with fail
      clear HE HG HQ HR
      go_loopg [12] (q - p) (fun g i wr => ∃ k : Nat, p ≤ k ∧ k ≤ q ∧ g = q - k ∧ i = .int .i64 k ∧ wr = wa)
      case atStart => exact ⟨p, Nat.le_refl _, hge, rfl, rfl, rfl⟩
      case round =>
        obtain ⟨k, hk1, hk2, rfl, rfl, rfl⟩ := hrel
        by_cases hkq : k < q
        · have hkc := HC9.out k (by omega)
          have hk' : (k : Int) < q := by omega
          have hk3 : (k : Int) < n := by omega
          go_wp2_with fail
          refine (dec_of _ _ true (HI.out k hk1 hkq)).mono ?_
          rintro e wc ⟨rfl, rfl⟩
          go_wp2
          go_roundg (q - (k + 1))
          case measure => omega
          case rel => exact ⟨k + 1, by omega, by omega, rfl, by go_num, rfl⟩
        · go_wp2
          go_ret
          refine ⟨?_, hbel9⟩
          have ht := HT.out
          simp [← ht]
  · have e1 : n = p := by omega
    subst e1
    have e2 : n = q := by omega
    subst e2
    have e3 : 0 = r := by have := HS.out; omega
    subst e3
    have e4 : false = t := by rw [← HT.out]; exact (decide_eq_false (by omega)).symm
    subst e4
    clear HS HT HE HI HR HQ hpn
    cases a'
    all_goals
      go_wp2_with fail
      refine (newAt_any _ _ _ 0 _).mono ?_
      rintro e w5 ⟨rfl, hw5⟩
      have hb5 := newb hw5
      have hbel5 : Below w'.heap.size w' w5 := by rw [hw5]; exact hbel3.alloc hbel3.size _
      have HC5 : Hid (∀ i, i < n → w5.cell? ⟨w'.heap.size, i, none⟩ = some (.int .u8 (f i))) := fun i hi => by
        rw [hw5, World.cell?_alloc_lt _ _ _ (by have := hs3.out; have := (hA.out (by omega)).2; simp; omega)]; exact HC3.out i hi
      have hs5 : Hid (w5.heap.size = w4.heap.size + 1) := by show _ = _; rw [hw5]; simp
      clear hw5 HC3
      go_wp2_with fail
      refine (zzdigits_of _ 0 0 0 w4.heap.size w5 f 0 false (runEnd_end f 0 0 (Nat.le_refl _)) (decide_eq_false (by omega)) (by omega) (Nat.zero_le _) hb5.out 0 0 (fun h1 => absurd h1 (Nat.lt_irrefl _)) (fun h1 => absurd h1 (Nat.lt_irrefl _)) (fun i hi => absurd hi (Nat.not_lt_zero _))).mono ?_
      rintro e w6 ⟨rfl, hU⟩
      have hpos : w6.cell? ⟨w4.heap.size, 1, none⟩ = some (.int .i64 (0 : Nat)) := cell_block hU.here 1
      have HC6 : Hid (∀ i, i < n → w6.cell? ⟨w'.heap.size, i, none⟩ = some (.int .u8 (f i))) := fun i hi => (hU.cell (a := ⟨w'.heap.size, i, none⟩) (by have := hs3.out; have := (hA.out (by omega)).2; simp; omega)).trans (HC5.out i hi)
      have hbel6 : Below w'.heap.size w' w6 := hbel5.trans (hU.below.mono hbel3.size)
      have hs6 : Hid (w6.heap.size = w4.heap.size + 1) := hU.size.trans hs5.out
      clear HC5 hb5 hbel5 hs5 hU
      go_wp2_with fail
      refine (pos_any w4.heap.size (0 : Nat) w6 hpos).mono ?_
      rintro e w7 ⟨rfl, rfl⟩
      clear hpos
      go_wp2_with fail
      refine (newAt_any _ _ _ n _).mono ?_
      rintro e w8 ⟨rfl, hw8⟩
      have HC8 : Hid (∀ i, i < n → w8.cell? ⟨w'.heap.size, i, none⟩ = some (.int .u8 (f i))) := fun i hi => by
        rw [hw8, World.cell?_alloc_lt _ _ _ (by have := hs3.out; have := hs6.out; have := (hA.out (by omega)).2; simp; omega)]; exact HC6.out i hi
      have hb8 := newb hw8
      have hbel8 : Below w'.heap.size w' w8 := by rw [hw8]; exact hbel6.alloc hbel6.size _
      clear hw8 HC6
      go_wp2_with fail
      refine (zzdigits_of _ n n n w7.heap.size w8 f n false HG.out (decide_eq_false (by omega)) h hle hb8.out w'.heap.size 0 (fun h1 => by have := hs3.out; have := hs6.out; have := (hA.out h1).2; omega) (fun h1 => (hA.out h1).1) (fun i hi => by rw [Nat.zero_add]; exact HC8.out i hi)).mono ?_
      rintro e w9 ⟨rfl, hU⟩
      have hpos : w9.cell? ⟨w7.heap.size, 1, none⟩ = some (.int .i64 n) := cell_block hU.here 1
      have hbel9 : Below w'.heap.size w' w9 := hbel8.trans (hU.below.mono hbel6.size)
      clear HC8 hb8 hbel8 hU
      go_wp2_with fail
      refine (pos_any w7.heap.size n w9 hpos).mono ?_
      rintro e wa ⟨rfl, rfl⟩
      clear hpos HG
      go_wp2_with fail
      refine wp_loop_rounds 1 ?_
      rw [rounds_succ]
      go_wp2
      go_ret
      exact ⟨rfl, hbel9⟩
end Go.Proofs.Qxb6613462a
