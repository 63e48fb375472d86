/-
  Seat b6613311a: ZZnewStops.
-/
import Derived.Test.Qxb6613311aF
import Derived.Test.Qxb6613311aG
import Derived.WalkSpells
namespace Go.Proofs.Qxb6613311a
open Go.ChangeShapes Go.WideShapes Go.ChangeAt Go.RowKit
set_option linter.unusedVariables false

theorem info47 : (Try.prog.info? 47).map (fun i => (i.zero, i.size, i.bytes)) = some (some (.slice none 0 0), 1, 24) := by kernel_rfl
theorem info52 : (Try.prog.info? 52).map (fun i => (i.zero, i.size, i.bytes)) = some (some (.agg #[.int .i64 0, .int .u8 0, .int .u8 0, .int .u8 0, .int .u8 0, .int .i64 0]), 6, 24) := by kernel_rfl
theorem info59 : (Try.prog.info? 59).map (fun i => (i.zero, i.size, i.bytes)) = some (some (.agg #[.int .i64 0, .int .i64 0, .int .i64 0]), 3, 24) := by kernel_rfl

theorem Conf.alloc {w : World} {N : Nat} {v : Value} {n : Nat} {T Lo Hi : Nat → Int} (h : Conf w N v n T Lo Hi) (o : Obj) : Conf (w.alloc o) N v n T Lo Hi :=
  h.below (B := w.heap.size) ((Below.refl _ _).alloc (Nat.le_refl _) _) (Nat.le_refl _)

theorem conf_nil {w : World} {N n : Nat} {T Lo Hi : Nat → Int} (h : n = 0) (x : N < N + 1) : Conf w N (.slice none 0 0) n T Lo Hi := by
  subst h
  exact ⟨none, N + 1, rfl, x, fun _ => rfl, fun h => absurd h (Nat.lt_irrefl _), fun i hi => absurd hi (Nat.not_lt_zero _)⟩

theorem cs_step {w wr : World} {N : Nat} {F : Nat → Value} (HR : wr.rowIs N 61 4 F) (HB : Below N w wr) (v : Value) (j : Nat) (O : Obj) :
    (((wr.setCell ⟨N, j, none⟩ v).setCell ⟨N, j + 1, none⟩ (.slice none 0 0)).alloc O).rowIs N 61 4 (fun i => if i = j + 1 then .slice none 0 0 else if i = j then v else F i) ∧
    Below N w (((wr.setCell ⟨N, j, none⟩ v).setCell ⟨N, j + 1, none⟩ (.slice none 0 0)).alloc O) := by
  refine ⟨((HR.set j v).set (j + 1) _).alloc _, ((HB.setCell (Nat.le_refl _) _).setCell (Nat.le_refl _) _).alloc ?_ _⟩
  have := HR.lt
  simp [World.setCell]
  omega

theorem old_cell {wy wi : World} {O : Obj} {b p : Nat} {v : Value} (hB : Below (wy.heap.size + 1) (wy.alloc O) wi) (h : wy.cell? ⟨b, p, none⟩ = some v) : wi.cell? ⟨b, p, none⟩ = some v := by
  have hb := lt_of_cell h
  rw [hB.cell (p := ⟨b, p, none⟩) (by simp; omega), World.cell?_alloc_lt _ _ _ (by simpa using hb)]
  exact h

theorem three_set {F : Nat → Value} {T Lo Hi : Nat → Int} {k : Nat} (h : ∀ i, i < k → F (i * 3) = .int .i64 (T i) ∧ F (i * 3 + 1) = .int .i64 (Lo i) ∧ F (i * 3 + 2) = .int .i64 (Hi i)) :
    ∀ i, i < k + 1 → (fun j => if j = k * 3 + 2 then .int .i64 (Hi k) else if j = k * 3 + 1 then .int .i64 (Lo k) else if j = k * 3 then .int .i64 (T k) else F j) (i * 3) = .int .i64 (T i) ∧
      (fun j => if j = k * 3 + 2 then .int .i64 (Hi k) else if j = k * 3 + 1 then .int .i64 (Lo k) else if j = k * 3 then .int .i64 (T k) else F j) (i * 3 + 1) = .int .i64 (Lo i) ∧
      (fun j => if j = k * 3 + 2 then .int .i64 (Hi k) else if j = k * 3 + 1 then .int .i64 (Lo k) else if j = k * 3 then .int .i64 (T k) else F j) (i * 3 + 2) = .int .i64 (Hi i) := by
  intro i hi
  dsimp only
  by_cases e : i = k
  · subst e
    refine ⟨?_, ?_, ?_⟩
    · rw [if_neg (by omega), if_neg (by omega), if_pos rfl]
    · rw [if_neg (by omega), if_pos rfl]
    · rw [if_pos rfl]
  · have h1 := h i (by omega)
    refine ⟨?_, ?_, ?_⟩
    · rw [if_neg (by omega), if_neg (by omega), if_neg (by omega)]; exact h1.1
    · rw [if_neg (by omega), if_neg (by omega), if_neg (by omega)]; exact h1.2.1
    · rw [if_neg (by omega), if_neg (by omega), if_neg (by omega)]; exact h1.2.2

theorem spans_of_row {w : World} {b n : Nat} {t : TypeId} {F : Nat → Value} {T Lo Hi : Nat → Int} (hr : w.rowIs b t (n * 3) F) (h : ∀ i, i < n → F (i * 3) = .int .i64 (T i) ∧ F (i * 3 + 1) = .int .i64 (Lo i) ∧ F (i * 3 + 2) = .int .i64 (Hi i)) : SpansAt w b 0 n T Lo Hi := by
  intro i hi
  have h1 := h i hi
  refine ⟨?_, ?_, ?_⟩
  · rw [Nat.zero_add, hr.cell (by omega), h1.1]
  · rw [Nat.zero_add, hr.cell (by omega), h1.2.1]
  · rw [Nat.zero_add, hr.cell (by omega), h1.2.2]

/-- The graph as it lies: what lastBeside and all read. -/
def Graph (w : World) (G m : Nat) (L : Nat → Nat) (n0 n1 : Nat) (T0 Lo0 Hi0 T1 Lo1 Hi1 : Nat → Int) : Prop :=
  ∃ R ss Cb v0 v1 N, w.cell? ⟨G, 0, none⟩ = some (.pointer (some ⟨R, 0, none⟩)) ∧ w.cell? ⟨G, 9, none⟩ = some (.slice (some ⟨Cb, 0, none⟩) 2 2) ∧ w.cell? ⟨R, 1, none⟩ = some (.slice (some ⟨ss, 0, none⟩) m m) ∧
    (∀ r, r < m → ∃ a c, w.cell? ⟨ss, r, none⟩ = some (.slice a (L r) c)) ∧ w.cell? ⟨Cb, 0, none⟩ = some v0 ∧ Conf w N v0 n0 T0 Lo0 Hi0 ∧ w.cell? ⟨Cb, 2, none⟩ = some v1 ∧ Conf w N v1 n1 T1 Lo1 Hi1

theorem Graph.below {w w' : World} {G m : Nat} {L : Nat → Nat} {n0 n1 B : Nat} {T0 Lo0 Hi0 T1 Lo1 Hi1 : Nat → Int} (h : Graph w G m L n0 n1 T0 Lo0 Hi0 T1 Lo1 Hi1) (hb : Below B w w') (hB : w.heap.size ≤ B) : Graph w' G m L n0 n1 T0 Lo0 Hi0 T1 Lo1 Hi1 := by
  obtain ⟨R, ss, Cb, v0, v1, N, h1, h2, h3, h4, h5, h6, h7, h8⟩ := h
  refine ⟨R, ss, Cb, v0, v1, N, cell_below hb hB h1, cell_below hb hB h2, cell_below hb hB h3, fun r hr => ?_, cell_below hb hB h5, h6.below hb hB, cell_below hb hB h7, h8.below hb hB⟩
  obtain ⟨a, c, h⟩ := h4 r hr
  exact ⟨a, c, cell_below hb hB h⟩

theorem cell_block {w : World} {B : Nat} {c : Array Value} {t : TypeId} {fr : Nat × Nat} (h : w.heap[B]? = some (.cells c t fr)) (i : Nat) : w.cell? ⟨B, i, none⟩ = c[i]? := by
  simp [World.cell?, h]

theorem graph_final {w wx wy : World} {m n0 n1 : Nat} {L : Nat → Nat} {F F3 : Nat → Value} {T0 Lo0 Hi0 T1 Lo1 Hi1 : Nat → Int} (hR : wx.rowIs w.heap.size 47 m F) (hF : ∀ r, r < m → ∃ a c, F r = .slice a (L r) c) (HB : Below w.heap.size w wx) (HB3 : Below wx.heap.size wx wy)
    (HR3 : wy.rowIs wx.heap.size 61 4 F3) (Q0 : Conf wy wx.heap.size (F3 0) n0 T0 Lo0 Hi0) (Q1 : Conf wy wx.heap.size (F3 2) n1 T1 Lo1 Hi1) {c1 c2 : Array Value} (h1 : c1[1]? = some (.slice (some ⟨w.heap.size, 0, none⟩) m m))
    (h20 : c2[0]? = some (.pointer (some ⟨wy.heap.size, 0, none⟩))) (h29 : c2[9]? = some (.slice (some ⟨wx.heap.size, 0, none⟩) 2 2)) :
    Graph ((wy.alloc (.cells c1 69)).alloc (.cells c2 79)) (wy.heap.size + 1) m L n0 n1 T0 Lo0 Hi0 T1 Lo1 Hi1 ∧ Below w.heap.size w ((wy.alloc (.cells c1 69)).alloc (.cells c2 79)) := by
  have hb : Below wy.heap.size wy ((wy.alloc (.cells c1 69)).alloc (.cells c2 79)) := ((Below.refl _ _).alloc (Nat.le_refl _) _).alloc (by simp) _
  have hG : ((wy.alloc (.cells c1 69)).alloc (.cells c2 79)).heap[wy.heap.size + 1]? = some (.cells c2 79) := by
    have := Deep.blk_alloc_new (wy.alloc (.cells c1 69)) (.cells c2 79)
    rwa [World.size_alloc] at this
  have hRb : ((wy.alloc (.cells c1 69)).alloc (.cells c2 79)).heap[wy.heap.size]? = some (.cells c1 69) := by
    rw [Below.heap_alloc _ _ _ (by simp)]
    exact Deep.blk_alloc_new _ _
  have hW : Below w.heap.size w wy := HB.trans (HB3.mono HB.size)
  refine ⟨⟨wy.heap.size, w.heap.size, wx.heap.size, F3 0, F3 2, wx.heap.size, ?_, ?_, ?_, fun r hr => ?_, ?_, ?_, ?_, ?_⟩, hW.trans (hb.mono hW.size)⟩
  · rw [cell_block hG, h20]
  · rw [cell_block hG, h29]
  · rw [cell_block hRb, h1]
  · obtain ⟨a, c, e⟩ := hF r hr
    refine ⟨a, c, ?_⟩
    have h3 := hR.cell hr
    rw [e] at h3
    exact cell_below hb (Nat.le_refl _) (cell_below HB3 (Nat.le_refl _) h3)
  · exact cell_below hb (Nat.le_refl _) (HR3.cell (by omega))
  · exact Q0.below hb (Nat.le_refl _)
  · exact cell_below hb (Nat.le_refl _) (HR3.cell (by omega))
  · exact Q1.below hb (Nat.le_refl _)

set_option maxHeartbeats 4000000 in
theorem newStops_any (sb m cm Cn : Nat) (a0 a1 : Option Addr) (b0 n0 b1 n1 : Nat) (w : World) (A : Nat → Option Addr) (L C : Nat → Nat) (T0 Lo0 Hi0 T1 Lo1 Hi1 : Nat → Int) (hm : m ≤ 1048576) (hL : ∀ r, r < m → L r ≤ 1048576)
    (hn0 : n0 ≤ 2097152) (hn1 : n1 ≤ 2097152) (hR : RowsAt w sb 0 m A L C) (hE : ∀ r, r < m → StepRow w (A r) (L r))
    (hC0 : w.cell? ⟨Cn, 0, none⟩ = some (.slice a0 n0 n0)) (hC1 : w.cell? ⟨Cn, 1, none⟩ = some (.slice none 0 0)) (hC2 : w.cell? ⟨Cn, 2, none⟩ = some (.slice a1 n1 n1)) (hC3 : w.cell? ⟨Cn, 3, none⟩ = some (.slice none 0 0))
    (hz0 : a0 = none → n0 = 0) (ha0 : 0 < n0 → a0 = some ⟨b0, 0, none⟩) (hS0 : SpansAt w b0 0 n0 T0 Lo0 Hi0)
    (hz1 : a1 = none → n1 = 0) (ha1 : 0 < n1 → a1 = some ⟨b1, 0, none⟩) (hS1 : SpansAt w b1 0 n1 T1 Lo1 Hi1) :
    Calls Try.prog 8 #[.slice (some ⟨sb, 0, none⟩) m cm, .slice (some ⟨Cn, 0, none⟩) 2 2, .slice none 0 0, .slice none 0 0] w fun e w' =>
      ∃ G, e = .returned (.pointer (some ⟨G, 0, none⟩)) ∧ Graph w' G m L n0 n1 T0 Lo0 Hi0 T1 Lo1 Hi1 ∧ Below w.heap.size w w' := by
  have hnil := fun wx => run_neq_slice_nil_any (P := Try.prog) wx 38 46 (some ⟨sb, 0, none⟩) m cm 0 0 Try.underlying38
  have hmk := run_make_row' (P := Try.prog) 45 47 (.slice none 0 0) 24 Try.underlying45 info47 rfl .i64 .i64 m (by omega) (by omega)
  have HRo : Hid (RowsAt w sb 0 m A L C) := hR
  have HE : Hid (∀ r, r < m → StepRow w (A r) (L r)) := hE
  have HL : Hid (∀ r, r < m → L r ≤ 1048576) := hL
  have HC0 : Hid (w.cell? ⟨Cn, 0, none⟩ = some (.slice a0 n0 n0)) := hC0
  have HC1 : Hid (w.cell? ⟨Cn, 1, none⟩ = some (.slice none 0 0)) := hC1
  have HC2 : Hid (w.cell? ⟨Cn, 2, none⟩ = some (.slice a1 n1 n1)) := hC2
  have HC3 : Hid (w.cell? ⟨Cn, 3, none⟩ = some (.slice none 0 0)) := hC3
  have HZ0 : Hid ((a0 = none → n0 = 0) ∧ (0 < n0 → a0 = some ⟨b0, 0, none⟩) ∧ SpansAt w b0 0 n0 T0 Lo0 Hi0) := ⟨hz0, ha0, hS0⟩
  have HZ1 : Hid ((a1 = none → n1 = 0) ∧ (0 < n1 → a1 = some ⟨b1, 0, none⟩) ∧ SpansAt w b1 0 n1 T1 Lo1 Hi1) := ⟨hz1, ha1, hS1⟩
  clear hR hE hL hC0 hC1 hC2 hC3 hz0 ha0 hS0 hz1 ha1 hS1
  go_enter Try.func8, Try.ntmps8
  go_wp2
  clear hnil hmk
  go_loopg [27] m (fun g y wr => ∃ (k : Nat) (F : Nat → Value), k ≤ m ∧ g = m - k ∧ y = .int .i64 k ∧ Hid (wr.rowIs w.heap.size 47 m F) ∧ Hid (∀ r, r < k → ∃ a c, F r = .slice a (L r) c) ∧ Hid (∀ r, k ≤ r → F r = .slice none 0 0) ∧ Below w.heap.size w wr)
  case atStart =>
    exact ⟨0, fun _ => .slice none 0 0, Nat.zero_le _, rfl, rfl, World.rowIs_made w (.slice none 0 0) m 47, (fun i hi => absurd hi (Nat.not_lt_zero _)), (fun _ _ => rfl), (Below.refl _ _).alloc (Nat.le_refl _) _⟩
  case round =>
    obtain ⟨k, F, hk, rfl, rfl, HR, HG, HZ, hbel⟩ := hrel
    have hN : w.heap.size < wr.heap.size := HR.out.lt
    by_cases hlt : k < m
    · have hk' : (k : Int) < m := by omega
      have hc : wr.cell? ⟨sb, k, none⟩ = some (.slice (A k) (L k) (C k)) := by have := (HRo.out.below hbel (Nat.le_refl _)) k hlt; simpa using this
      have hl := HL.out k hlt
      have hsr := HE.out k hlt
      have HSR : Hid (StepRow wr (A k) (L k)) := hsr.below hbel (Nat.le_refl _)
      clear hsr
      cases hA : A k with
      | none =>
        rw [hA] at hc
        have hl0 : L k = 0 := HSR.out.1 hA
        have HL0 : Hid (L k = 0) := hl0
        have hnr := fun wx => Lib.run_eql_slice_nil (P := Try.prog) wx 46 49 none (L k) (C k) 0 0 Try.underlying46
        have HB : Hid (Below w.heap.size w wr) := hbel
        clear hA hbel hl0
        go_wp2
        go_roundg (m - (k + 1))
        case measure => omega
        case rel =>
          refine ⟨k + 1, F, by omega, rfl, by go_num, HR, fun r hr => ?_, (fun r hr => HZ.out r (by omega)), HB.out⟩
          by_cases e : r = k
          · subst e
            exact ⟨none, 0, by rw [HZ.out r (Nat.le_refl _), HL0.out]⟩
          · exact HG.out r (by omega)
      | some y =>
        rw [hA] at hc
        have hnr := fun wx => Lib.run_eql_slice_nil (P := Try.prog) wx 46 49 (some y) (L k) (C k) 0 0 Try.underlying46
        have hmk := make_run (P := Try.prog) 47 52 _ 6 24 Try.underlying47 info52 (L k) (by omega) (by omega)
        have HY : Hid (0 < L k → ∃ b o, y = ⟨b, o, none⟩ ∧ Kinds wr b o (L k)) := fun h => by
          obtain ⟨b, o, h1, h2⟩ := HSR.out.2 h
          rw [hA] at h1
          cases h1
          exact ⟨b, o, rfl, h2⟩
        have HB : Hid (Below w.heap.size w wr) := hbel
        have hsb : sb < wr.heap.size := lt_of_cell hc
        clear hA hbel HSR
        obtain ⟨wo, rfl⟩ : ∃ wo : World, wo = wr := ⟨_, rfl⟩
        go_wp2
        clear hnr hmk hc
        go_loopg [46] (L k) (fun g z wi => ∃ (j : Nat) (F2 : Nat → Value), j ≤ L k ∧ g = L k - j ∧ z = .int .i64 j ∧ Hid (wi.rowIs wo.heap.size 52 (L k * 6) F2) ∧ Below wo.heap.size wo wi)
        case atStart =>
          exact ⟨0, _, Nat.zero_le _, rfl, rfl, rowIs_madeAny wo _ _ _, (Below.refl _ _).alloc (Nat.le_refl _) _⟩
        case round =>
          obtain ⟨j, F2, hj, rfl, rfl, HR2, hbel2⟩ := hrel
          have hM : wo.heap.size < wr.heap.size := HR2.out.lt
          by_cases hjl : j < L k
          · have hj' : (j : Int) < L k := by omega
            obtain ⟨b, o, rfl, hKi⟩ := HY.out (by omega)
            obtain ⟨x0, x1, x2, x3, x4, x5, c0, c1, c2, c3, c4, c5⟩ := hKi j hjl
            have hbo : b < wo.heap.size := lt_of_cell c0
            have d0 := cell_below hbel2 (Nat.le_refl _) c0
            have d1 := cell_below hbel2 (Nat.le_refl _) c1
            have d2 := cell_below hbel2 (Nat.le_refl _) c2
            have d3 := cell_below hbel2 (Nat.le_refl _) c3
            have d4 := cell_below hbel2 (Nat.le_refl _) c4
            have d5 := cell_below hbel2 (Nat.le_refl _) c5
            have hb2 : b < wr.heap.size := by omega
            have hne : ¬ b = wo.heap.size := by omega
            have e0 := HR2.out.cell (i := j * 6) (by omega)
            have e1 := HR2.out.cell (i := j * 6 + 1) (by omega)
            have e2 := HR2.out.cell (i := j * 6 + 2) (by omega)
            have e3 := HR2.out.cell (i := j * 6 + 3) (by omega)
            have e4 := HR2.out.cell (i := j * 6 + 4) (by omega)
            have e5 := HR2.out.cell (i := j * 6 + 5) (by omega)
            have f0 := HR2.out.frozen (j * 6)
            have f1 := HR2.out.frozen (j * 6 + 1)
            have f2 := HR2.out.frozen (j * 6 + 2)
            have f3 := HR2.out.frozen (j * 6 + 3)
            have f4 := HR2.out.frozen (j * 6 + 4)
            have f5 := HR2.out.frozen (j * 6 + 5)
            have HB2 : Hid (Below wo.heap.size wo wr) := hbel2
            clear hbel2 c0 c1 c2 c3 c4 c5 hKi
            go_wp2
            go_roundg (L k - (j + 1))
            case measure => omega
            case rel =>
              obtain ⟨R1, R2⟩ := store6 HB2.out (Nat.le_refl _) HR2.out (j * 6) (.int .i64 x0) (.int .u8 x1) (.int .u8 x2) (.int .u8 x3) (.int .u8 x4) (.int .i64 x5) (.cells #[.int .i64 x0, .int .u8 x1, .int .u8 x2, .int .u8 x3, .int .u8 x4, .int .i64 x5] 49)
              exact ⟨j + 1, _, by omega, rfl, by go_num, R2, R1⟩
          · have hRN : wr.rowIs w.heap.size 47 m F := HR.out.of_block (hbel2.block _ hN)
            have g0 := hRN.cell (i := k) hlt
            have g1 := hRN.frozen k
            have hneN : ¬ w.heap.size = wo.heap.size := by omega
            have HRN : Hid (wr.rowIs w.heap.size 47 m F) := hRN
            have HB2 : Hid (Below wo.heap.size wo wr) := hbel2
            clear hRN hbel2
            go_wp2
            go_roundg (m - (k + 1))
            case measure => omega
            case rel =>
              refine ⟨k + 1, _, by omega, rfl, by go_num, HRN.out.set k _, fun r hr => ?_, (fun r hr => ?_), (HB.out.trans (HB2.out.mono (Nat.le_of_lt hN))).setCell (Nat.le_refl _) _⟩
              · by_cases e : r = k
                · subst e
                  exact ⟨some ⟨wo.heap.size, 0, none⟩, L r, by simp⟩
                · rw [if_neg e]
                  exact HG.out r (by omega)
              · rw [if_neg (by omega)]
                exact HZ.out r (by omega)
    · have hmk : ∀ w, (Instr.makeSlice 53 (.int .i64 2) (.int .i64 2)).run Try.prog w = .ok (.slice (some ⟨w.heap.size, 0, none⟩) 2 2) (w.alloc (.cells #[.slice none 0 0, .slice none 0 0, .slice none 0 0, .slice none 0 0] 61)) := fun _ => by kernel_rfl
      have hnq := fun wx => run_neq_slice_nil_any (P := Try.prog) wx 40 56 (some ⟨Cn, 0, none⟩) 2 2 0 0 Try.underlying40
      have HB : Hid (Below w.heap.size w wr) := hbel
      obtain ⟨wx, rfl⟩ : ∃ wx : World, wx = wr := ⟨_, rfl⟩
      clear hbel
      go_wp2
      clear hmk hnq
      go_loopg [80] 2 (fun g y wr => ∃ (k : Nat) (F3 : Nat → Value), k ≤ 2 ∧ g = 2 - k ∧ y = .int .i64 k ∧ Hid (wr.rowIs wx.heap.size 61 4 F3) ∧ Hid (0 < k → Conf wr wx.heap.size (F3 0) n0 T0 Lo0 Hi0) ∧ Hid (1 < k → Conf wr wx.heap.size (F3 2) n1 T1 Lo1 Hi1) ∧ Hid (Below wx.heap.size wx wr))
      case atStart =>
        refine ⟨0, fun _ => .slice none 0 0, by omega, rfl, rfl, ?_, (fun h => absurd h (Nat.lt_irrefl _)), (fun h => by omega), (Below.refl _ _).alloc (Nat.le_refl _) _⟩
        refine World.rowIs_alloc wx _ 61 _ fun i hi => ?_
        match i, hi with
        | 0, _ => rfl
        | 1, _ => rfl
        | 2, _ => rfl
        | 3, _ => rfl
      case round =>
        obtain ⟨q, F3, hq, rfl, rfl, HR3, HQ0, HQ1, HB3⟩ := hrel
        have hN3 : wx.heap.size < wr.heap.size := HR3.out.lt
        have HBx : Hid (Below w.heap.size w wr) := HB.out.trans (HB3.out.mono HB.out.size)
        obtain ⟨wy, rfl⟩ : ∃ wy : World, wy = wr := ⟨_, rfl⟩
        rcases (show q = 0 ∨ q = 1 ∨ q = 2 from by omega) with rfl | rfl | rfl
        · have gC0 := cell_below HBx.out (Nat.le_refl _) HC0.out
          have gC1 := cell_below HBx.out (Nat.le_refl _) HC1.out
          have hCn2 : Cn < wy.heap.size := lt_of_cell gC0
          have r0 := HR3.out.cell (i := 0) (by omega)
          have r1 := HR3.out.cell (i := 1) (by omega)
          have s0 := HR3.out.frozen 0
          have s1 := HR3.out.frozen 1
          cases hA : a0 with
          | none =>
            rw [hA] at gC0
            have hz : n0 = 0 := HZ0.out.1 hA
            have hnq := fun w' => run_neq_slice_nil_any (P := Try.prog) w' 54 43 none n0 n0 0 0 Try.underlying54
            have HZZ : Hid (n0 = 0) := hz
            clear hA hz
            go_wp2
            go_roundg (1)
            case measure => omega
            case rel =>
              obtain ⟨R1, R2⟩ := cs_step HR3.out HB3.out (.slice none 0 0) 0 (.cells #[.slice none n0 n0, .slice none 0 0] 56)
              exact ⟨1, _, by omega, rfl, by go_num, R1, (fun _ => conf_nil HZZ.out (by omega)), (fun h => by omega), R2⟩
          | some y =>
            rw [hA] at gC0
            have HY : Hid (0 < n0 → ∃ b, y = ⟨b, 0, none⟩ ∧ SpansAt wy b 0 n0 T0 Lo0 Hi0) := fun h => by
              have h1 := HZ0.out.2.1 h
              rw [hA] at h1
              cases h1
              exact ⟨_, rfl, HZ0.out.2.2.below HBx.out (Nat.le_refl _)⟩
            have hnq := fun w' => run_neq_slice_nil_any (P := Try.prog) w' 54 43 (some y) n0 n0 0 0 Try.underlying54
            have hmk := make_run (P := Try.prog) 57 59 _ 3 24 Try.underlying57 info59 n0 (by omega) (by omega)
            clear hA
            go_wp2
            clear hnq hmk
            go_loopg [95] n0 (fun g z wi => ∃ (j : Nat) (F4 : Nat → Value), j ≤ n0 ∧ g = n0 - j ∧ z = .int .i64 j ∧ Hid (wi.rowIs (wy.heap.size + 1) 59 (n0 * 3) F4) ∧ Hid (∀ i, i < j → F4 (i * 3) = .int .i64 (T0 i) ∧ F4 (i * 3 + 1) = .int .i64 (Lo0 i) ∧ F4 (i * 3 + 2) = .int .i64 (Hi0 i)) ∧
              Hid (Below (wy.heap.size + 1) (wy.alloc (.cells #[.slice (some y) n0 n0, .slice none 0 0] 56)) wi))
            case atStart =>
              have hr0 := rowIs_madeAny (wy.alloc (.cells #[.slice (some y) n0 n0, .slice none 0 0] 56)) #[.int .i64 0, .int .i64 0, .int .i64 0] (n0 * 3) 59
              rw [World.size_alloc] at hr0
              exact ⟨0, _, Nat.zero_le _, rfl, rfl, hr0, (fun i hi => absurd hi (Nat.not_lt_zero _)), (Below.refl _ _).alloc (by simp) _⟩
            case round =>
              obtain ⟨j, F4, hj, rfl, rfl, HR4, HF4, HB4⟩ := hrel
              have hM : wy.heap.size + 1 < wr.heap.size := HR4.out.lt
              by_cases hjl : j < n0
              · have hj' : (j : Int) < n0 := by omega
                obtain ⟨b, rfl, hSp⟩ := HY.out (by omega)
                obtain ⟨c0, c1, c2⟩ := hSp j hjl
                have hbo : b < wy.heap.size := lt_of_cell c0
                have d0 : wr.cell? ⟨b, j * 3, none⟩ = some (.int .i64 (T0 j)) := by have := old_cell HB4.out c0; simpa using this
                have d1 : wr.cell? ⟨b, j * 3 + 1, none⟩ = some (.int .i64 (Lo0 j)) := by have := old_cell HB4.out c1; simpa using this
                have d2 : wr.cell? ⟨b, j * 3 + 2, none⟩ = some (.int .i64 (Hi0 j)) := by have := old_cell HB4.out c2; simpa using this
                have hb2 : b < wr.heap.size := by omega
                have hne : ¬ b = wy.heap.size + 1 := by omega
                have e0 := HR4.out.cell (i := j * 3) (by omega)
                have e1 := HR4.out.cell (i := j * 3 + 1) (by omega)
                have e2 := HR4.out.cell (i := j * 3 + 2) (by omega)
                have f0 := HR4.out.frozen (j * 3)
                have f1 := HR4.out.frozen (j * 3 + 1)
                have f2 := HR4.out.frozen (j * 3 + 2)
                clear c0 c1 c2 hSp gC0 gC1 r0 r1 s0 s1
                go_wp2
                go_roundg (n0 - (j + 1))
                case measure => omega
                case rel =>
                  obtain ⟨R1, R2⟩ := store3 HB4.out (Nat.le_refl _) HR4.out (j * 3) (.int .i64 (T0 j)) (.int .i64 (Lo0 j)) (.int .i64 (Hi0 j)) (.cells #[.int .i64 (T0 j), .int .i64 (Lo0 j), .int .i64 (Hi0 j)] 43)
                  exact ⟨j + 1, _, by omega, rfl, by go_num, R2, three_set HF4.out, R1⟩
              · have t1 : wr.cell? ⟨wy.heap.size, 1, none⟩ = some (.slice none 0 0) := (HB4.out.cell (p := ⟨wy.heap.size, 1, none⟩) (by simp)).trans (by simp)
                have hR3w : wr.rowIs wx.heap.size 61 4 F3 := (HR3.out.alloc _).of_block (HB4.out.block _ (by omega))
                have q0 := hR3w.cell (i := 0) (by omega)
                have q1 := hR3w.cell (i := 1) (by omega)
                have u0 := hR3w.frozen 0
                have u1 := hR3w.frozen 1
                have HR3w : Hid (wr.rowIs wx.heap.size 61 4 F3) := hR3w
                have hneN : ¬ wx.heap.size = wy.heap.size := by omega
                have hneN1 : ¬ wx.heap.size = wy.heap.size + 1 := by omega
                clear hR3w gC0 gC1 r0 r1 s0 s1
                go_wp2
                go_roundg (1)
                case measure => omega
                case rel =>
                  have hBw : Below wx.heap.size wx wr := (HB3.out.alloc HB3.out.size _).trans (HB4.out.mono (by omega))
                  have hcf : Conf wr wx.heap.size (.slice (some ⟨wy.heap.size + 1, 0, none⟩) n0 n0) n0 T0 Lo0 Hi0 := ⟨_, wy.heap.size + 1, rfl, by omega, (fun h => by cases h), fun _ => rfl, spans_of_row HR4.out (fun i hi => HF4.out i (by omega))⟩
                  exact ⟨1, _, by omega, rfl, by go_num, (HR3w.out.set 0 _).set 1 _, (fun _ => (hcf.set _ _).set _ _), (fun h => by omega), (hBw.setCell (Nat.le_refl _) _).setCell (Nat.le_refl _) _⟩
        · have gC0 := cell_below HBx.out (Nat.le_refl _) HC2.out
          have gC1 := cell_below HBx.out (Nat.le_refl _) HC3.out
          have hCn2 : Cn < wy.heap.size := lt_of_cell gC0
          have r0 := HR3.out.cell (i := 2) (by omega)
          have r1 := HR3.out.cell (i := 3) (by omega)
          have s0 := HR3.out.frozen 2
          have s1 := HR3.out.frozen 3
          cases hA : a1 with
          | none =>
            rw [hA] at gC0
            have hz : n1 = 0 := HZ1.out.1 hA
            have hnq := fun w' => run_neq_slice_nil_any (P := Try.prog) w' 54 43 none n1 n1 0 0 Try.underlying54
            have HZZ : Hid (n1 = 0) := hz
            clear hA hz
            go_wp2
            go_roundg (0)
            case measure => omega
            case rel =>
              obtain ⟨R1, R2⟩ := cs_step HR3.out HB3.out (.slice none 0 0) 2 (.cells #[.slice none n1 n1, .slice none 0 0] 56)
              exact ⟨2, _, by omega, rfl, by go_num, R1, (fun _ => ((HQ0.out (by omega)).set _ _).set _ _ |>.alloc _), (fun _ => conf_nil HZZ.out (by omega)), R2⟩
          | some y =>
            rw [hA] at gC0
            have HY : Hid (0 < n1 → ∃ b, y = ⟨b, 0, none⟩ ∧ SpansAt wy b 0 n1 T1 Lo1 Hi1) := fun h => by
              have h1 := HZ1.out.2.1 h
              rw [hA] at h1
              cases h1
              exact ⟨_, rfl, HZ1.out.2.2.below HBx.out (Nat.le_refl _)⟩
            have hnq := fun w' => run_neq_slice_nil_any (P := Try.prog) w' 54 43 (some y) n1 n1 0 0 Try.underlying54
            have hmk := make_run (P := Try.prog) 57 59 _ 3 24 Try.underlying57 info59 n1 (by omega) (by omega)
            clear hA
            go_wp2
            clear hnq hmk
            go_loopg [95] n1 (fun g z wi => ∃ (j : Nat) (F4 : Nat → Value), j ≤ n1 ∧ g = n1 - j ∧ z = .int .i64 j ∧ Hid (wi.rowIs (wy.heap.size + 1) 59 (n1 * 3) F4) ∧ Hid (∀ i, i < j → F4 (i * 3) = .int .i64 (T1 i) ∧ F4 (i * 3 + 1) = .int .i64 (Lo1 i) ∧ F4 (i * 3 + 2) = .int .i64 (Hi1 i)) ∧
              Hid (Below (wy.heap.size + 1) (wy.alloc (.cells #[.slice (some y) n1 n1, .slice none 0 0] 56)) wi))
            case atStart =>
              have hr0 := rowIs_madeAny (wy.alloc (.cells #[.slice (some y) n1 n1, .slice none 0 0] 56)) #[.int .i64 0, .int .i64 0, .int .i64 0] (n1 * 3) 59
              rw [World.size_alloc] at hr0
              exact ⟨0, _, Nat.zero_le _, rfl, rfl, hr0, (fun i hi => absurd hi (Nat.not_lt_zero _)), (Below.refl _ _).alloc (by simp) _⟩
            case round =>
              obtain ⟨j, F4, hj, rfl, rfl, HR4, HF4, HB4⟩ := hrel
              have hM : wy.heap.size + 1 < wr.heap.size := HR4.out.lt
              by_cases hjl : j < n1
              · have hj' : (j : Int) < n1 := by omega
                obtain ⟨b, rfl, hSp⟩ := HY.out (by omega)
                obtain ⟨c0, c1, c2⟩ := hSp j hjl
                have hbo : b < wy.heap.size := lt_of_cell c0
                have d0 : wr.cell? ⟨b, j * 3, none⟩ = some (.int .i64 (T1 j)) := by have := old_cell HB4.out c0; simpa using this
                have d1 : wr.cell? ⟨b, j * 3 + 1, none⟩ = some (.int .i64 (Lo1 j)) := by have := old_cell HB4.out c1; simpa using this
                have d2 : wr.cell? ⟨b, j * 3 + 2, none⟩ = some (.int .i64 (Hi1 j)) := by have := old_cell HB4.out c2; simpa using this
                have hb2 : b < wr.heap.size := by omega
                have hne : ¬ b = wy.heap.size + 1 := by omega
                have e0 := HR4.out.cell (i := j * 3) (by omega)
                have e1 := HR4.out.cell (i := j * 3 + 1) (by omega)
                have e2 := HR4.out.cell (i := j * 3 + 2) (by omega)
                have f0 := HR4.out.frozen (j * 3)
                have f1 := HR4.out.frozen (j * 3 + 1)
                have f2 := HR4.out.frozen (j * 3 + 2)
                clear c0 c1 c2 hSp gC0 gC1 r0 r1 s0 s1
                go_wp2
                go_roundg (n1 - (j + 1))
                case measure => omega
                case rel =>
                  obtain ⟨R1, R2⟩ := store3 HB4.out (Nat.le_refl _) HR4.out (j * 3) (.int .i64 (T1 j)) (.int .i64 (Lo1 j)) (.int .i64 (Hi1 j)) (.cells #[.int .i64 (T1 j), .int .i64 (Lo1 j), .int .i64 (Hi1 j)] 43)
                  exact ⟨j + 1, _, by omega, rfl, by go_num, R2, three_set HF4.out, R1⟩
              · have t1 : wr.cell? ⟨wy.heap.size, 1, none⟩ = some (.slice none 0 0) := (HB4.out.cell (p := ⟨wy.heap.size, 1, none⟩) (by simp)).trans (by simp)
                have hR3w : wr.rowIs wx.heap.size 61 4 F3 := (HR3.out.alloc _).of_block (HB4.out.block _ (by omega))
                have q0 := hR3w.cell (i := 2) (by omega)
                have q1 := hR3w.cell (i := 3) (by omega)
                have u0 := hR3w.frozen 2
                have u1 := hR3w.frozen 3
                have HR3w : Hid (wr.rowIs wx.heap.size 61 4 F3) := hR3w
                have hneN : ¬ wx.heap.size = wy.heap.size := by omega
                have hneN1 : ¬ wx.heap.size = wy.heap.size + 1 := by omega
                clear hR3w gC0 gC1 r0 r1 s0 s1
                go_wp2
                go_roundg (0)
                case measure => omega
                case rel =>
                  have hBw : Below wx.heap.size wx wr := (HB3.out.alloc HB3.out.size _).trans (HB4.out.mono (by omega))
                  have hcf : Conf wr wx.heap.size (.slice (some ⟨wy.heap.size + 1, 0, none⟩) n1 n1) n1 T1 Lo1 Hi1 := ⟨_, wy.heap.size + 1, rfl, by omega, (fun h => by cases h), fun _ => rfl, spans_of_row HR4.out (fun i hi => HF4.out i (by omega))⟩
                  exact ⟨2, _, by omega, rfl, by go_num, (HR3w.out.set 2 _).set 3 _, (fun _ => ((((HQ0.out (by omega)).alloc _).below HB4.out (by simp)).set _ _).set _ _), (fun _ => (hcf.set _ _).set _ _), (hBw.setCell (Nat.le_refl _) _).setCell (Nat.le_refl _) _⟩
        · have HF : Hid (∀ r, r < m → ∃ a c, F r = .slice a (L r) c) := fun r hr => HG.out r (by omega)
          go_wp2
          go_ret
          obtain ⟨g1, g2⟩ := graph_final HR.out HF.out HB.out HB3.out HR3.out (HQ0.out (by omega)) (HQ1.out (by omega)) (c1 := #[.pointer none, .slice (some ⟨w.heap.size, 0, none⟩) m m, .slice none 0 0, .slice none 0 0, .slice none 0 0, .slice none 0 0, .slice none 0 0, .slice none 0 0, .int .i64 0, .int .i64 0])
            (c2 := #[.pointer (some ⟨wy.heap.size, 0, none⟩), .slice none 0 0, .slice none 0 0, .slice none 0 0, .pointer none, .slice none 0 0, .slice none 0 0, .slice none 0 0, .slice none 0 0, .slice (some ⟨wx.heap.size, 0, none⟩) 2 2, .slice none 0 0, .slice none 0 0, .slice none 0 0, .slice none 0 0, .map none, .int .i64 0, .slice none 0 0, .slice none 0 0, .slice none 0 0, .slice none 0 0, .slice none 0 0, .slice none 0 0, .slice none 0 0]) rfl rfl rfl
          exact ⟨wy.heap.size + 1, rfl, g1, g2⟩
end Go.Proofs.Qxb6613311a
