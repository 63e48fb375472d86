/-
  Seat b6613311a: zzToConflicts.
-/
import Derived.Test.Qxb6613311aE
import Derived.Deep.RegionWith
namespace Go.Proofs.Qxb6613311a
open Go.ChangeShapes Go.WideShapes Go.ChangeAt Go.RowKit
set_option linter.unusedVariables false

theorem info56 : (Try.prog.info? 56).map (fun i => (i.zero, i.size, i.bytes)) = some (some (.agg #[.slice none 0 0, .slice none 0 0]), 2, 48) := by kernel_rfl

/-- A slice of spans as it lies in memory that was made behind block N. -/
def Conf (w : World) (N : Nat) (v : Value) (n : Nat) (T Lo Hi : Nat → Int) : Prop :=
  ∃ a b, v = .slice a n n ∧ N < b ∧ (a = none → n = 0) ∧ (0 < n → a = some ⟨b, 0, none⟩) ∧ SpansAt w b 0 n T Lo Hi

theorem Conf.keep {w w' : World} {N : Nat} {v : Value} {n : Nat} {T Lo Hi : Nat → Int} (h : Conf w N v n T Lo Hi) (hc : ∀ b o x, b ≠ N → w.cell? ⟨b, o, none⟩ = some x → w'.cell? ⟨b, o, none⟩ = some x) : Conf w' N v n T Lo Hi := by
  obtain ⟨a, b, rfl, h1, h2, h3, h4⟩ := h
  exact ⟨a, b, rfl, h1, h2, h3, fun i hi => ⟨hc b _ _ (by omega) (h4 i hi).1, hc b _ _ (by omega) (h4 i hi).2.1, hc b _ _ (by omega) (h4 i hi).2.2⟩⟩

theorem Conf.below {w w' : World} {N B : Nat} {v : Value} {n : Nat} {T Lo Hi : Nat → Int} (h : Conf w N v n T Lo Hi) (hb : Below B w w') (hB : w.heap.size ≤ B) : Conf w' N v n T Lo Hi :=
  h.keep fun b o x _ hx => cell_below hb hB hx

theorem Conf.set {w : World} {N : Nat} {v : Value} {n : Nat} {T Lo Hi : Nat → Int} (h : Conf w N v n T Lo Hi) (o : Nat) (u : Value) : Conf (w.setCell ⟨N, o, none⟩ u) N v n T Lo Hi :=
  h.keep fun b o x hb hx => (World.cell?_of_block (Below.heap_setCell w _ u b hb)).trans hx

theorem conf_step {w wr w1 : World} {N : Nat} {F : Nat → Value} (HR : wr.rowIs N 56 4 F) (HB : Below N w wr) (p4 : Below wr.heap.size wr w1) (v : Value) (j : Nat) :
    ((w1.setCell ⟨N, j, none⟩ v).setCell ⟨N, j + 1, none⟩ (.slice none 0 0)).rowIs N 56 4 (fun i => if i = j + 1 then .slice none 0 0 else if i = j then v else F i) ∧
    Below N w ((w1.setCell ⟨N, j, none⟩ v).setCell ⟨N, j + 1, none⟩ (.slice none 0 0)) := by
  have h1 : w1.rowIs N 56 4 F := HR.of_block (p4.block N HR.lt)
  refine ⟨(h1.set j v).set (j + 1) _, ((HB.trans (p4.mono (Nat.le_of_lt HR.lt))).setCell (Nat.le_refl _) _).setCell (Nat.le_refl _) _⟩

theorem undrew {wr w1 : World} (p : Below wr.drew.heap.size wr.drew w1) : Below wr.heap.size wr w1 := ⟨p.os, p.tape, p.output, p.size, p.block⟩

set_option maxHeartbeats 1600000 in
theorem toConf_any (Cb : Nat) (a0 a1 : Option Addr) (b0 o0 n0 c0 b1 o1 n1 c1 : Nat) (w : World) (T0 Lo0 Hi0 T1 Lo1 Hi1 : Nat → Int) (hn0 : n0 ≤ 2097152) (hn1 : n1 ≤ 2097152)
    (hC0 : w.cell? ⟨Cb, 0, none⟩ = some (.slice a0 n0 c0)) (hC1 : w.cell? ⟨Cb, 1, none⟩ = some (.slice none 0 0)) (hC2 : w.cell? ⟨Cb, 2, none⟩ = some (.slice a1 n1 c1)) (hC3 : w.cell? ⟨Cb, 3, none⟩ = some (.slice none 0 0))
    (hz0 : a0 = none → n0 = 0) (ha0 : 0 < n0 → a0 = some ⟨b0, o0, none⟩) (hS0 : SpansAt w b0 o0 n0 T0 Lo0 Hi0)
    (hz1 : a1 = none → n1 = 0) (ha1 : 0 < n1 → a1 = some ⟨b1, o1, none⟩) (hS1 : SpansAt w b1 o1 n1 T1 Lo1 Hi1) :
    Calls Try.prog 10 #[.slice (some ⟨Cb, 0, none⟩) 2 2] w fun e w' => e = .returned (.slice (some ⟨w.heap.size, 0, none⟩) 2 2) ∧
      (∃ F : Nat → Value, w'.rowIs w.heap.size 56 4 F ∧ Conf w' w.heap.size (F 0) n0 T0 Lo0 Hi0 ∧ F 1 = .slice none 0 0 ∧ Conf w' w.heap.size (F 2) n1 T1 Lo1 Hi1 ∧ F 3 = .slice none 0 0) ∧ Below w.heap.size w w' := by
  have hnil := fun wx => Lib.run_eql_slice_nil (P := Try.prog) wx 35 34 (some ⟨Cb, 0, none⟩) 2 2 0 0 Try.underlying35
  have hmk : ∀ w, (Instr.makeSlice 40 (.int .i64 2) (.int .i64 2)).run Try.prog w = .ok (.slice (some ⟨w.heap.size, 0, none⟩) 2 2) (w.alloc (.cells #[.slice none 0 0, .slice none 0 0, .slice none 0 0, .slice none 0 0] 56)) := fun _ => by kernel_rfl
  have HC0 : Hid (w.cell? ⟨Cb, 0, none⟩ = some (.slice a0 n0 c0)) := hC0
  have HC1 : Hid (w.cell? ⟨Cb, 1, none⟩ = some (.slice none 0 0)) := hC1
  have HC2 : Hid (w.cell? ⟨Cb, 2, none⟩ = some (.slice a1 n1 c1)) := hC2
  have HC3 : Hid (w.cell? ⟨Cb, 3, none⟩ = some (.slice none 0 0)) := hC3
  have HZ0 : Hid ((a0 = none → n0 = 0) ∧ (0 < n0 → a0 = some ⟨b0, o0, none⟩) ∧ SpansAt w b0 o0 n0 T0 Lo0 Hi0) := ⟨hz0, ha0, hS0⟩
  have HZ1 : Hid ((a1 = none → n1 = 0) ∧ (0 < n1 → a1 = some ⟨b1, o1, none⟩) ∧ SpansAt w b1 o1 n1 T1 Lo1 Hi1) := ⟨hz1, ha1, hS1⟩
  have hCb : Cb < w.heap.size := lt_of_cell hC0
  clear hC0 hC1 hC2 hC3 hz0 ha0 hS0 hz1 ha1 hS1
  go_enter Try.func10, Try.ntmps10
  go_wp2
  clear hnil hmk
  go_loopg [4] 2 (fun g y wr => ∃ (k : Nat) (F : Nat → Value), k ≤ 2 ∧ g = 2 - k ∧ y = .int .i64 k ∧ Hid (wr.rowIs w.heap.size 56 4 F) ∧ Hid (F 1 = .slice none 0 0 ∧ F 3 = .slice none 0 0) ∧ Hid (0 < k → Conf wr w.heap.size (F 0) n0 T0 Lo0 Hi0) ∧ Hid (1 < k → Conf wr w.heap.size (F 2) n1 T1 Lo1 Hi1) ∧ Below w.heap.size w wr)
  case atStart =>
    refine ⟨0, fun _ => .slice none 0 0, by omega, rfl, rfl, ?_, ⟨rfl, rfl⟩, (fun h => absurd h (Nat.lt_irrefl _)), (fun h => by omega), (Below.refl _ _).alloc (Nat.le_refl _) _⟩
    refine World.rowIs_alloc w _ 56 _ fun i hi => ?_
    match i, hi with
    | 0, _ => rfl
    | 1, _ => rfl
    | 2, _ => rfl
    | 3, _ => rfl
  case round =>
    obtain ⟨k, F, hk, rfl, rfl, HR, HF, HQ0, HQ1, hbel⟩ := hrel
    have hN : w.heap.size < wr.heap.size := HR.out.lt
    have hCb2 : Cb < wr.heap.size := by omega
    have hne : ¬ Cb = w.heap.size := by omega
    rcases (show k = 0 ∨ k = 1 ∨ k = 2 from by omega) with rfl | rfl | rfl
    · have gC0 := cell_below hbel (Nat.le_refl _) HC0.out
      have gC1 := cell_below hbel (Nat.le_refl _) HC1.out
      have g0 := HR.out.cell (i := 0) (by omega)
      have g1 := HR.out.cell (i := 1) (by omega)
      have f0 := HR.out.frozen 0
      have f1 := HR.out.frozen 1
      have HB : Hid (Below w.heap.size w wr) := hbel
      clear hbel
      go_wp2
      go_region_with (go_at_call 13; refine (toSpans_any a0 b0 o0 n0 c0 _ T0 Lo0 Hi0 hn0 HZ0.out.1 HZ0.out.2.1 ?_).mono ?_; exact HZ0.out.2.2.below HB.out.drew (Nat.le_refl _); rintro e w1 ⟨a', rfl, p1, p2, p3, p4⟩; have q1 : w1.cell? ⟨Cb, 1, none⟩ = some (.slice none 0 0) := (p4.cell (p := ⟨Cb, 1, none⟩) hCb2).trans gC1; have r0 : w1.cell? ⟨w.heap.size, 0, none⟩ = some (F 0) := (p4.cell (p := ⟨w.heap.size, 0, none⟩) hN).trans g0; have r1 : w1.cell? ⟨w.heap.size, 1, none⟩ = some (F 1) := (p4.cell (p := ⟨w.heap.size, 1, none⟩) hN).trans g1; have s0 : w1.frozen? ⟨w.heap.size, 0, none⟩ = false := (p4.frozen (p := ⟨w.heap.size, 0, none⟩) hN).trans f0; have s1 : w1.frozen? ⟨w.heap.size, 1, none⟩ = false := (p4.frozen (p := ⟨w.heap.size, 1, none⟩) hN).trans f1)
      all_goals
        go_wp2
        go_roundg (1)
        case measure => omega
        case rel =>
          obtain ⟨R1, R2⟩ := conf_step HR.out HB.out (undrew p4) (.slice a' n0 n0) 0
          exact ⟨1, _, by omega, rfl, by go_num, R1, ⟨rfl, HF.out.2⟩, (fun _ => (Conf.set (Conf.set ⟨a', wr.heap.size, rfl, hN, p1, p2, p3⟩ _ _) _ _)), (fun h => by omega), R2⟩
    · have gC0 := cell_below hbel (Nat.le_refl _) HC2.out
      have gC1 := cell_below hbel (Nat.le_refl _) HC3.out
      have g0 := HR.out.cell (i := 2) (by omega)
      have g1 := HR.out.cell (i := 3) (by omega)
      have f0 := HR.out.frozen 2
      have f1 := HR.out.frozen 3
      have HB : Hid (Below w.heap.size w wr) := hbel
      clear hbel
      go_wp2
      go_region_with (go_at_call 13; refine (toSpans_any a1 b1 o1 n1 c1 _ T1 Lo1 Hi1 hn1 HZ1.out.1 HZ1.out.2.1 ?_).mono ?_; exact HZ1.out.2.2.below HB.out.drew (Nat.le_refl _); rintro e w1 ⟨a', rfl, p1, p2, p3, p4⟩; have q1 : w1.cell? ⟨Cb, 3, none⟩ = some (.slice none 0 0) := (p4.cell (p := ⟨Cb, 3, none⟩) hCb2).trans gC1; have r0 : w1.cell? ⟨w.heap.size, 2, none⟩ = some (F 2) := (p4.cell (p := ⟨w.heap.size, 2, none⟩) hN).trans g0; have r1 : w1.cell? ⟨w.heap.size, 3, none⟩ = some (F 3) := (p4.cell (p := ⟨w.heap.size, 3, none⟩) hN).trans g1; have s0 : w1.frozen? ⟨w.heap.size, 2, none⟩ = false := (p4.frozen (p := ⟨w.heap.size, 2, none⟩) hN).trans f0; have s1 : w1.frozen? ⟨w.heap.size, 3, none⟩ = false := (p4.frozen (p := ⟨w.heap.size, 3, none⟩) hN).trans f1)
      all_goals
        go_wp2
        go_roundg (0)
        case measure => omega
        case rel =>
          obtain ⟨R1, R2⟩ := conf_step HR.out HB.out (undrew p4) (.slice a' n1 n1) 2
          exact ⟨2, _, by omega, rfl, by go_num, R1, ⟨HF.out.1, rfl⟩, (fun _ => ((HQ0.out (by omega)).below (undrew p4) (Nat.le_refl _)).set _ _ |>.set _ _), (fun _ => (Conf.set (Conf.set ⟨a', wr.heap.size, rfl, hN, p1, p2, p3⟩ _ _) _ _)), R2⟩
    · go_wp2
      go_ret
      exact ⟨rfl, ⟨F, HR.out, HQ0.out (by omega), HF.out.1, HQ1.out (by omega), HF.out.2⟩, hbel⟩
end Go.Proofs.Qxb6613311a
