/-
  Seat b6613311a: the arguments, opened.
-/
import Derived.Test.Qxb6613311aG
import Derived.Deep.Slices
namespace Go.Proofs.Qxb6613311a
open Go.ChangeShapes Go.WideShapes Go.ChangeAt Go.RowKit
set_option linter.unusedVariables false

section
variable {H : Type} {enc : TypeId × Value → H} {W : World}

theorem cells23 : Try.prog.cellsOf 31 = 3 := by kernel_rfl
theorem cells80 : Try.prog.cellsOf 80 = 6 := by kernel_rfl
theorem cells29 : Try.prog.cellsOf 29 = 1 := by kernel_rfl
theorem cellsI : Try.prog.cellsOf 3 = 1 := by kernel_rfl
theorem cellsB : Try.prog.cellsOf 5 = 1 := by kernel_rfl

theorem spot_none {a : Addr} {v : Value} (h : W.cell? (a.add 0) = some v) : ∃ b o, a = ⟨b, o, none⟩ := by
  obtain ⟨b, o, s⟩ := a
  have hs : s = none := by simpa [Addr.add] using World.cell?_spot h
  subst hs
  exact ⟨b, o, rfl⟩

theorem one_int {k : IntKind} {t : TypeId} {n : Nat} {v : Value} {x : DataW H × List MemPlace} (ht : Try.prog.underlying t = some (.int k)) (h : DataW.trod enc Try.prog W 0 (fun _ => true) true n t [v] = some x) : ∃ z, v = .int k z := by
  obtain ⟨z, e, _, _⟩ := DataW.trod_int ht h
  simp at e
  exact ⟨z, e⟩

theorem three {α : Type} (l : List α) (h : l.length = 3) : ∃ a b c, l = [a, b, c] := by
  match l, h with
  | [a, b, c], _ => exact ⟨a, b, c, rfl⟩
theorem six {α : Type} (l : List α) (h : l.length = 6) : ∃ a b c d e f, l = [a, b, c, d, e, f] := by
  match l, h with
  | [a, b, c, d, e, f], _ => exact ⟨a, b, c, d, e, f, rfl⟩

theorem span_elem {n : Nat} {a : Addr} {cs : List Value} {x : DataW H × List MemPlace} (h1 : W.cells? 0 a 3 = some cs) (h2 : DataW.trod enc Try.prog W 0 (fun _ => true) true n 31 cs = some x) :
    ∃ t l h : Int, W.cell? a = some (.int .i64 t) ∧ W.cell? (a.add 1) = some (.int .i64 l) ∧ W.cell? (a.add 2) = some (.int .i64 h) := by
  obtain ⟨_, hlen, hcell⟩ := World.cells?_some h1
  obtain ⟨xs, k, hk, hxy, _, hxl, hf⟩ := DataW.trod_struct Try.underlying31 h2
  obtain ⟨y0, y1, y2, rfl⟩ := three xs hxl
  obtain ⟨v0, v1, v2, rfl⟩ := three cs hlen
  have g0 := hf 0 _ rfl
  have g1 := hf 1 _ rfl
  have g2 := hf 2 _ rfl
  simp [cellsI] at g0 g1 g2
  obtain ⟨t, rfl⟩ := one_int Try.underlying3 g0
  obtain ⟨l, rfl⟩ := one_int Try.underlying3 g1
  obtain ⟨h, rfl⟩ := one_int Try.underlying3 g2
  have e0 := hcell 0 (by omega)
  have e1 := hcell 1 (by omega)
  have e2 := hcell 2 (by omega)
  exact ⟨t, l, h, by simpa [Addr.add] using e0, by simpa using e1, by simpa using e2⟩

theorem open_spans {fuel n c : Nat} {a : Option Addr} {x : DataW H × List MemPlace} (h : DataW.trod enc Try.prog W 0 (fun _ => true) true fuel 23 [.slice a n c] = some x) :
    (a = none → n = 0) ∧ ∃ (b o : Nat) (T Lo Hi : Nat → Int), (0 < n → a = some ⟨b, o, none⟩) ∧ SpansAt W b o n T Lo Hi := by
  rcases Deep.open_slice Try.underlying23 h with ⟨h0, _⟩ | ⟨a', len, cap, m, k, D, Pl, hcs, _, hl, _, hm, _, hx⟩
  · simp at h0
    obtain ⟨rfl, rfl, rfl⟩ := h0
    exact ⟨fun _ => rfl, 0, 0, fun _ => 0, fun _ => 0, fun _ => 0, fun h => absurd h (Nat.lt_irrefl _), fun i hi => absurd hi (Nat.not_lt_zero _)⟩
  · simp at hcs
    obtain ⟨rfl, rfl, rfl⟩ := hcs
    refine ⟨(fun h => by cases h), ?_⟩
    simp only [if_true] at hm
    have each : ∀ i, i < n → ∃ q : Int × Int × Int, W.cell? (a'.add (i * 3)) = some (.int .i64 q.1) ∧ W.cell? ((a'.add (i * 3)).add 1) = some (.int .i64 q.2.1) ∧ W.cell? ((a'.add (i * 3)).add 2) = some (.int .i64 q.2.2) := by
      intro i hi
      obtain ⟨cs', h1, h2⟩ := hx i (by omega)
      rw [cells23] at h1
      obtain ⟨t, l, h, g⟩ := span_elem h1 h2
      exact ⟨(t, l, h), g⟩
    obtain ⟨q, hq⟩ := Deep.choose_lt each
    by_cases hn : 0 < n
    · obtain ⟨b, o, rfl⟩ := spot_none (by simpa using (hq 0 hn).1)
      refine ⟨b, o, fun i => (q i).1, fun i => (q i).2.1, fun i => (q i).2.2, fun _ => rfl, fun i hi => ?_⟩
      have := hq i hi
      simp only [add_plain] at this
      exact this
    · exact ⟨0, 0, fun _ => 0, fun _ => 0, fun _ => 0, fun h => absurd h hn, fun i hi => by omega⟩

theorem step_elem {n : Nat} {a : Addr} {cs : List Value} {x : DataW H × List MemPlace} (h1 : W.cells? 0 a 6 = some cs) (h2 : DataW.trod enc Try.prog W 0 (fun _ => true) true n 80 cs = some x) :
    ∃ x0 x1 x2 x3 x4 x5 : Int, W.cell? a = some (.int .i64 x0) ∧ W.cell? (a.add 1) = some (.int .u8 x1) ∧ W.cell? (a.add 2) = some (.int .u8 x2) ∧ W.cell? (a.add 3) = some (.int .u8 x3) ∧ W.cell? (a.add 4) = some (.int .u8 x4) ∧ W.cell? (a.add 5) = some (.int .i64 x5) := by
  obtain ⟨_, hlen, hcell⟩ := World.cells?_some h1
  obtain ⟨xs, k, hk, hxy, _, hxl, hf⟩ := DataW.trod_struct Try.underlying80 h2
  obtain ⟨y0, y1, y2, y3, y4, y5, rfl⟩ := six xs hxl
  obtain ⟨v0, v1, v2, v3, v4, v5, rfl⟩ := six cs hlen
  have g0 := hf 0 _ rfl
  have g1 := hf 1 _ rfl
  have g2 := hf 2 _ rfl
  have g3 := hf 3 _ rfl
  have g4 := hf 4 _ rfl
  have g5 := hf 5 _ rfl
  simp [cellsI, cellsB] at g0 g1 g2 g3 g4 g5
  obtain ⟨x0, rfl⟩ := one_int Try.underlying3 g0
  obtain ⟨x1, rfl⟩ := one_int Try.underlying5 g1
  obtain ⟨x2, rfl⟩ := one_int Try.underlying5 g2
  obtain ⟨x3, rfl⟩ := one_int Try.underlying5 g3
  obtain ⟨x4, rfl⟩ := one_int Try.underlying5 g4
  obtain ⟨x5, rfl⟩ := one_int Try.underlying3 g5
  have e0 := hcell 0 (by omega)
  have e1 := hcell 1 (by omega)
  have e2 := hcell 2 (by omega)
  have e3 := hcell 3 (by omega)
  have e4 := hcell 4 (by omega)
  have e5 := hcell 5 (by omega)
  exact ⟨x0, x1, x2, x3, x4, x5, by simpa [Addr.add] using e0, by simpa using e1, by simpa using e2, by simpa using e3, by simpa using e4, by simpa using e5⟩

theorem open_row {fuel n c : Nat} {a : Option Addr} {x : DataW H × List MemPlace} (h : DataW.trod enc Try.prog W 0 (fun _ => true) true fuel 29 [.slice a n c] = some x) : StepRow W a n := by
  rcases Deep.open_slice Try.underlying29 h with ⟨h0, _⟩ | ⟨a', len, cap, m, k, D, Pl, hcs, _, hl, _, hm, _, hx⟩
  · simp at h0
    obtain ⟨rfl, rfl, rfl⟩ := h0
    exact ⟨fun _ => rfl, fun h => absurd h (Nat.lt_irrefl _)⟩
  · simp at hcs
    obtain ⟨rfl, rfl, rfl⟩ := hcs
    simp only [if_true] at hm
    have each : ∀ i, i < n → ∃ x0 x1 x2 x3 x4 x5 : Int, W.cell? (a'.add (i * 6)) = some (.int .i64 x0) ∧ W.cell? ((a'.add (i * 6)).add 1) = some (.int .u8 x1) ∧ W.cell? ((a'.add (i * 6)).add 2) = some (.int .u8 x2) ∧ W.cell? ((a'.add (i * 6)).add 3) = some (.int .u8 x3) ∧
        W.cell? ((a'.add (i * 6)).add 4) = some (.int .u8 x4) ∧ W.cell? ((a'.add (i * 6)).add 5) = some (.int .i64 x5) := by
      intro i hi
      obtain ⟨cs', h1, h2⟩ := hx i (by omega)
      rw [cells80] at h1
      exact step_elem h1 h2
    refine ⟨(fun h => by cases h), fun hn => ?_⟩
    obtain ⟨x0, _, _, _, _, _, h0, _⟩ := each 0 hn
    obtain ⟨b, o, rfl⟩ := spot_none (by simpa using h0)
    refine ⟨b, o, rfl, fun j hj => ?_⟩
    have := each j hj
    simp only [add_plain] at this
    exact this

theorem open_steps {fuel n c : Nat} {a : Option Addr} {x : DataW H × List MemPlace} (h : DataW.trod enc Try.prog W 0 (fun _ => true) true fuel 22 [.slice a n c] = some x) :
    ∃ (b o : Nat) (A : Nat → Option Addr) (L C : Nat → Nat), (0 < n → a = some ⟨b, o, none⟩) ∧ RowsAt W b o n A L C ∧ ∀ r, r < n → StepRow W (A r) (L r) := by
  rcases Deep.open_slice1 Try.underlying22 cells29 h with ⟨h0, _⟩ | ⟨a', len, cap, m, k, V, D, Pl, hcs, _, hl, _, hm, _, hx⟩
  · simp at h0
    obtain ⟨rfl, rfl, rfl⟩ := h0
    exact ⟨0, 0, fun _ => none, fun _ => 0, fun _ => 0, fun h => absurd h (Nat.lt_irrefl _), fun i hi => absurd hi (Nat.not_lt_zero _), fun i hi => absurd hi (Nat.not_lt_zero _)⟩
  · simp at hcs
    obtain ⟨rfl, rfl, rfl⟩ := hcs
    simp only [if_true] at hm
    have each : ∀ i, i < n → ∃ q : Option Addr × Nat × Nat, W.cell? (a'.add i) = some (.slice q.1 q.2.1 q.2.2) ∧ StepRow W q.1 q.2.1 := by
      intro i hi
      obtain ⟨h1, h2⟩ := hx i (by omega)
      have h3 : ∃ a l c, V i = .slice a l c := by
        rcases Deep.open_slice Try.underlying29 h2 with ⟨h0, _⟩ | ⟨a', len, cap, m, k, D, Pl, hcs, _⟩
        · simp at h0; exact ⟨_, _, _, h0⟩
        · simp at hcs; exact ⟨_, _, _, hcs⟩
      obtain ⟨a, l, c, h4⟩ := h3
      rw [h4] at h1 h2
      exact ⟨(a, l, c), h1, open_row h2⟩
    obtain ⟨q, hq⟩ := Deep.choose_lt each
    by_cases hn : 0 < n
    · obtain ⟨b, o, rfl⟩ := spot_none (by simpa using (hq 0 hn).1)
      refine ⟨b, o, fun i => (q i).1, fun i => (q i).2.1, fun i => (q i).2.2, fun _ => rfl, fun i hi => ?_, fun i hi => (hq i hi).2⟩
      have := (hq i hi).1
      rw [add_plain] at this
      exact this
    · exact ⟨0, 0, fun _ => none, fun _ => 0, fun _ => 0, fun h => absurd h hn, fun i hi => absurd hi (by omega), fun i hi => absurd hi (by omega)⟩
end
end Go.Proofs.Qxb6613311a
