/-
  Seat b6613311a: spanOf, lastBeside, all.
-/
import Derived.Test.Qxb6613311aA
namespace Go.Proofs.Qxb6613311a
open Go.ChangeShapes Go.WideShapes Go.ChangeAt Go.RowKit
set_option linter.unusedVariables false

theorem found_miss {T : Nat → Int} {n : Nat} {k : Int} {s : Nat} (h : Found T n k s) (hmono : ∀ i j, i < j → j < n → T i < T j) (hs : s < n → T s ≠ k) : ∀ i, i < n → T i ≠ k := by
  intro i hi
  rcases Nat.lt_trichotomy i s with h1 | h1 | h1
  · have := h.2.1 i h1; omega
  · subst h1; exact hs hi
  · have h2 := h.2.2 s (Nat.le_refl _) (by omega)
    have h3 := hmono s i h1 hi
    omega

theorem spanOf_any (a : Option Addr) (b o n c : Nat) (u : Int) (w : World) (T Lo Hi : Nat → Int) (hn : n ≤ 2097152) (ha : 0 < n → a = some ⟨b, o, none⟩) (hS : SpansAt w b o n T Lo Hi)
    (hmono : ∀ i j, i < j → j < n → T i < T j) :
    Calls Try.prog 16 #[.slice a n c, .int .i64 u] w fun e w' => ((∃ i, i < n ∧ T i = u ∧ e = .returned (.tuple #[.agg #[.int .i64 (T i), .int .i64 (Lo i), .int .i64 (Hi i)], .bool true])) ∨
      ((∀ i, i < n → T i ≠ u) ∧ e = .returned (.tuple #[.agg #[.int .i64 0, .int .i64 0, .int .i64 0], .bool false]))) ∧ Below w.heap.size w w' := by
  have HM : Hid (∀ i j, i < j → j < n → T i < T j) := hmono
  have HS : Hid (SpansAt w b o n T Lo Hi) := hS
  have HA : Hid (0 < n → a = some ⟨b, o, none⟩) := ha
  clear hmono hS ha
  go_enter Try.func16, Try.ntmps16
  go_wp2_with fail
  have hB0 : Below w.heap.size w (w.alloc (.cells #[.int .i64 0, .int .i64 0, .int .i64 0] 59)) := (Below.refl _ _).alloc (Nat.le_refl _) _
  refine (seek_any a b o n c u _ T Lo Hi hn HA.out (HS.out.below hB0 (Nat.le_refl _)) HM.out).mono ?_
  rintro e w1 ⟨s, rfl, hF, hb⟩
  have HF : Hid (Found T n u s) := hF
  have hsn : s ≤ n := hF.1
  have q0 : w1.cell? ⟨w.heap.size, 0, none⟩ = some (.int .i64 0) := (hb.cell (p := ⟨w.heap.size, 0, none⟩) (by simp)).trans (by simp)
  have q1 : w1.cell? ⟨w.heap.size, 1, none⟩ = some (.int .i64 0) := (hb.cell (p := ⟨w.heap.size, 1, none⟩) (by simp)).trans (by simp)
  have q2 : w1.cell? ⟨w.heap.size, 2, none⟩ = some (.int .i64 0) := (hb.cell (p := ⟨w.heap.size, 2, none⟩) (by simp)).trans (by simp)
  have f0 : w1.frozen? ⟨w.heap.size, 0, none⟩ = false := (hb.frozen (p := ⟨w.heap.size, 0, none⟩) (by simp)).trans (by simp)
  have f1 : w1.frozen? ⟨w.heap.size, 1, none⟩ = false := (hb.frozen (p := ⟨w.heap.size, 1, none⟩) (by simp)).trans (by simp)
  have f2 : w1.frozen? ⟨w.heap.size, 2, none⟩ = false := (hb.frozen (p := ⟨w.heap.size, 2, none⟩) (by simp)).trans (by simp)
  have hb1 : Below w.heap.size w w1 := hB0.trans (hb.mono (by simp))
  clear hb hF hB0
  by_cases hs : s < n
  · obtain rfl := HA.out (by omega)
    obtain ⟨hc0, hc1, hc2⟩ := (HS.out.below hb1 (Nat.le_refl _)) s hs
    have hb2 : b < w.heap.size := lt_of_cell (HS.out s hs).1
    have hs' : ¬ (s : Int) = n := by omega
    have hs2 : (s : Int) < n := by omega
    have hne : ¬ b = w.heap.size := by omega
    have HB : Hid (Below w.heap.size w w1) := hb1
    clear hb1
    by_cases hT : T s = u
    · have hT' : ¬ T s ≠ u := fun h => h hT
      have HT : Hid (T s = u) := hT
      have hT2 : (T s == u) = true := by simp [hT]
      have hT3 : (T s != u) = false := by simp [hT]
      clear hT hT'
      go_wp2
      exact bodyPost_ret (v := .tuple #[.agg #[.int .i64 (T s), .int .i64 (Lo s), .int .i64 (Hi s)], .bool true]) (by simp [results, Try.results16, go_sem, q0, q1, q2]) rfl
        ⟨.inl ⟨s, hs, HT.out, rfl⟩, ((HB.out.setCell (Nat.le_refl _) _).setCell (Nat.le_refl _) _).setCell (Nat.le_refl _) _⟩
    · have hT3 : (T s != u) = true := by simp [hT]
      go_wp2
      exact bodyPost_ret (v := .tuple #[.agg #[.int .i64 0, .int .i64 0, .int .i64 0], .bool false]) (by simp [results, Try.results16, go_sem, q0, q1, q2]) rfl
        ⟨.inr ⟨found_miss HF.out HM.out (fun _ => hT), rfl⟩, ((HB.out.setCell (Nat.le_refl _) _).setCell (Nat.le_refl _) _).setCell (Nat.le_refl _) _⟩
  · have hs' : (s : Int) = n := by omega
    have HB : Hid (Below w.heap.size w w1) := hb1
    clear hb1
    go_wp2
    exact bodyPost_ret (v := .tuple #[.agg #[.int .i64 0, .int .i64 0, .int .i64 0], .bool false]) (by simp [results, Try.results16, go_sem, q0, q1, q2]) rfl
        ⟨.inr ⟨found_miss HF.out HM.out (fun h => absurd h hs), rfl⟩, ((HB.out.setCell (Nat.le_refl _) _).setCell (Nat.le_refl _) _).setCell (Nat.le_refl _) _⟩

/-- What lastBeside must answer. -/
def Beside (T Lo : Nat → Int) (n : Nat) (Lu : Nat) (u x : Int) : Prop := (∃ i, i < n ∧ T i = u ∧ x = Lo i - 1) ∨ ((∀ i, i < n → T i ≠ u) ∧ x = (Lu : Int))

theorem last_any (G R Cb sb ci u m n c Lu cr cm : Nat) (a ar : Option Addr) (b o : Nat) (w : World) (T Lo Hi : Nat → Int) (hci : ci < 2) (hu : u < m) (hm : m ≤ 1048576) (hn : n ≤ 2097152)
    (hG0 : w.cell? ⟨G, 0, none⟩ = some (.pointer (some ⟨R, 0, none⟩))) (hG9 : w.cell? ⟨G, 9, none⟩ = some (.slice (some ⟨Cb, 0, none⟩) 2 2)) (hR : w.cell? ⟨R, 1, none⟩ = some (.slice (some ⟨sb, 0, none⟩) m cm))
    (hrow : w.cell? ⟨sb, u, none⟩ = some (.slice ar Lu cr)) (hC : w.cell? ⟨Cb, ci * 2, none⟩ = some (.slice a n c))
    (ha : 0 < n → a = some ⟨b, o, none⟩) (hS : SpansAt w b o n T Lo Hi) (hmono : ∀ i j, i < j → j < n → T i < T j) (hLo : ∀ i, i < n → 1 ≤ Lo i ∧ Lo i ≤ 1048576) :
    Calls Try.prog 14 #[.pointer (some ⟨G, 0, none⟩), .int .i64 ci, .int .i64 u] w fun e w' => ∃ x : Int, e = .returned (.int .i64 x) ∧ Beside T Lo n Lu u x ∧ Below w.heap.size w w' := by
  have S : Hid (Calls Try.prog 16 #[.slice a n c, .int .i64 u] w _) := spanOf_any a b o n c u w T Lo Hi hn ha hS hmono
  have HL : Hid (∀ i, i < n → 1 ≤ Lo i ∧ Lo i ≤ 1048576) := hLo
  clear ha hS hmono hLo
  go_enter Try.func14, Try.ntmps14
  go_wp2_with fail
  refine S.out.mono ?_
  rintro e w1 ⟨he, hb⟩
  have gG0 := cell_below hb (Nat.le_refl _) hG0
  have gR := cell_below hb (Nat.le_refl _) hR
  have grow := cell_below hb (Nat.le_refl _) hrow
  have HB : Hid (Below w.heap.size w w1) := hb
  clear hb hG0 hG9 hR hrow hC S
  rcases he with ⟨i, hi, hT, rfl⟩ | ⟨hT, rfl⟩
  · have hl := HL.out i hi
    obtain ⟨hl1, hl2⟩ := hl
    have HT : Hid (T i = u) := hT
    clear hT HL
    go_wp2
    go_ret
    refine ⟨Lo i - 1, rfl, .inl ⟨i, hi, HT.out, rfl⟩, HB.out.alloc HB.out.size _⟩
  · have HT : Hid (∀ i, i < n → T i ≠ u) := hT
    have gsb := lt_of_cell grow
    have gRb := lt_of_cell gR
    have gGb := lt_of_cell gG0
    clear hT HL
    go_wp2
    go_ret
    refine ⟨Lu, rfl, .inr ⟨HT.out, rfl⟩, HB.out.alloc HB.out.size _⟩

theorem zzlast_any (G R Cb sb ci u m n c Lu cr cm : Nat) (a ar : Option Addr) (b o : Nat) (w : World) (T Lo Hi : Nat → Int) (hci : ci < 2) (hu : u < m) (hm : m ≤ 1048576) (hn : n ≤ 2097152)
    (hG0 : w.cell? ⟨G, 0, none⟩ = some (.pointer (some ⟨R, 0, none⟩))) (hG9 : w.cell? ⟨G, 9, none⟩ = some (.slice (some ⟨Cb, 0, none⟩) 2 2)) (hR : w.cell? ⟨R, 1, none⟩ = some (.slice (some ⟨sb, 0, none⟩) m cm))
    (hrow : w.cell? ⟨sb, u, none⟩ = some (.slice ar Lu cr)) (hC : w.cell? ⟨Cb, ci * 2, none⟩ = some (.slice a n c))
    (ha : 0 < n → a = some ⟨b, o, none⟩) (hS : SpansAt w b o n T Lo Hi) (hmono : ∀ i j, i < j → j < n → T i < T j) (hLo : ∀ i, i < n → 1 ≤ Lo i ∧ Lo i ≤ 1048576) :
    Calls Try.prog 11 #[.pointer (some ⟨G, 0, none⟩), .int .i64 ci, .int .i64 u] w fun e w' => ∃ x : Int, e = .returned (.int .i64 x) ∧ Beside T Lo n Lu u x ∧ Below w.heap.size w w' := by
  have S : Hid (Calls Try.prog 14 #[.pointer (some ⟨G, 0, none⟩), .int .i64 ci, .int .i64 u] w _) := last_any G R Cb sb ci u m n c Lu cr cm a ar b o w T Lo Hi hci hu hm hn hG0 hG9 hR hrow hC ha hS hmono hLo
  clear hG0 hG9 hR hrow hC ha hS hmono hLo
  go_enter Try.func11, Try.ntmps11
  go_wp2_with fail
  refine S.out.mono ?_
  rintro e w1 ⟨x, rfl, hx, hb⟩
  go_wp2
  go_ret
  exact ⟨x, rfl, hx, hb⟩

theorem all_any (G R sb u m Lu cr cm : Nat) (ar : Option Addr) (w : World) (hu : u < m) (hm : m ≤ 1048576)
    (hG0 : w.cell? ⟨G, 0, none⟩ = some (.pointer (some ⟨R, 0, none⟩))) (hR : w.cell? ⟨R, 1, none⟩ = some (.slice (some ⟨sb, 0, none⟩) m cm))
    (hrow : w.cell? ⟨sb, u, none⟩ = some (.slice ar Lu cr)) :
    Calls Try.prog 15 #[.pointer (some ⟨G, 0, none⟩), .int .i64 u] w fun e w' => e = .returned (.agg #[.int .i64 u, .int .i64 0, .int .i64 Lu]) ∧ Below w.heap.size w w' := by
  have gsb := lt_of_cell hrow
  have gRb := lt_of_cell hR
  have gGb := lt_of_cell hG0
  go_enter Try.func15, Try.ntmps15
  go_wp2
  exact bodyPost_ret (v := .agg #[.int .i64 u, .int .i64 0, .int .i64 Lu]) (by simp [results, Try.results15, go_sem]) rfl ⟨rfl, (Below.refl _ _).alloc (Nat.le_refl _) _⟩

theorem zzall_any (G R sb u m Lu cr cm : Nat) (ar : Option Addr) (w : World) (hu : u < m) (hm : m ≤ 1048576)
    (hG0 : w.cell? ⟨G, 0, none⟩ = some (.pointer (some ⟨R, 0, none⟩))) (hR : w.cell? ⟨R, 1, none⟩ = some (.slice (some ⟨sb, 0, none⟩) m cm))
    (hrow : w.cell? ⟨sb, u, none⟩ = some (.slice ar Lu cr)) :
    Calls Try.prog 12 #[.pointer (some ⟨G, 0, none⟩), .int .i64 u] w fun e w' => e = .returned (.agg #[.int .i64 u, .int .i64 0, .int .i64 Lu]) ∧ Below w.heap.size w w' := by
  have gsb := lt_of_cell hrow
  have gRb := lt_of_cell hR
  have gGb := lt_of_cell hG0
  go_enter Try.func12, Try.ntmps12
  go_wp2_with fail
  have hB0 : Below w.heap.size w (w.alloc (.cells #[.int .i64 0, .int .i64 0, .int .i64 0] 43)) := (Below.refl _ _).alloc (Nat.le_refl _) _
  refine (all_any G R sb u m Lu cr cm ar _ hu hm (cell_below hB0 (Nat.le_refl _) hG0) (cell_below hB0 (Nat.le_refl _) hR) (cell_below hB0 (Nat.le_refl _) hrow)).mono ?_
  rintro e w1 ⟨rfl, hb⟩
  have q0 : w1.cell? ⟨w.heap.size, 0, none⟩ = some (.int .i64 0) := (hb.cell (p := ⟨w.heap.size, 0, none⟩) (by simp)).trans (by simp)
  have q1 : w1.cell? ⟨w.heap.size, 1, none⟩ = some (.int .i64 0) := (hb.cell (p := ⟨w.heap.size, 1, none⟩) (by simp)).trans (by simp)
  have q2 : w1.cell? ⟨w.heap.size, 2, none⟩ = some (.int .i64 0) := (hb.cell (p := ⟨w.heap.size, 2, none⟩) (by simp)).trans (by simp)
  have f0 : w1.frozen? ⟨w.heap.size, 0, none⟩ = false := (hb.frozen (p := ⟨w.heap.size, 0, none⟩) (by simp)).trans (by simp)
  have f1 : w1.frozen? ⟨w.heap.size, 1, none⟩ = false := (hb.frozen (p := ⟨w.heap.size, 1, none⟩) (by simp)).trans (by simp)
  have f2 : w1.frozen? ⟨w.heap.size, 2, none⟩ = false := (hb.frozen (p := ⟨w.heap.size, 2, none⟩) (by simp)).trans (by simp)
  have hsz : w.heap.size < w1.heap.size := by have := hb.size; simp at this; omega
  have HB : Hid (Below w.heap.size w w1) := ((Below.refl _ _).alloc (Nat.le_refl _) _).trans (hb.mono (by simp))
  clear hb hG0 hR hrow hB0
  go_wp2
  exact bodyPost_ret (v := .agg #[.int .i64 u, .int .i64 0, .int .i64 Lu]) (by simp [results, Try.results12, go_sem, q0, q1, q2, hsz]) rfl
    ⟨rfl, (((HB.out.setCell (Nat.le_refl _) _).setCell (Nat.le_refl _) _).setCell (Nat.le_refl _) _).alloc (by simp [World.setCell]; omega) _⟩
end Go.Proofs.Qxb6613311a
