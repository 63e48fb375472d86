/-
  Seat b6613311a: zzToSteps.
-/
import Derived.Test.Qxb6613311aE
namespace Go.Proofs.Qxb6613311a
open Go.ChangeShapes Go.WideShapes Go.ChangeAt Go.RowKit
set_option linter.unusedVariables false

theorem info46 : (Try.prog.info? 46).map (fun i => (i.zero, i.size, i.bytes)) = some (some (.slice none 0 0), 1, 24) := by kernel_rfl
theorem info49 : (Try.prog.info? 49).map (fun i => (i.zero, i.size, i.bytes)) = some (some (.agg #[.int .i64 0, .int .u8 0, .int .u8 0, .int .u8 0, .int .u8 0, .int .i64 0]), 6, 24) := by kernel_rfl

/-- The six values of a step are of their kinds. -/
def Six (v0 v1 v2 v3 v4 v5 : Value) : Prop := ∃ x0 x1 x2 x3 x4 x5 : Int, v0 = .int .i64 x0 ∧ v1 = .int .u8 x1 ∧ v2 = .int .u8 x2 ∧ v3 = .int .u8 x3 ∧ v4 = .int .u8 x4 ∧ v5 = .int .i64 x5

/-- l steps as they lie from ⟨b, o⟩ on. -/
def Kinds (w : World) (b o l : Nat) : Prop := ∀ j, j < l → ∃ x0 x1 x2 x3 x4 x5 : Int, w.cell? ⟨b, o + j * 6, none⟩ = some (.int .i64 x0) ∧ w.cell? ⟨b, o + j * 6 + 1, none⟩ = some (.int .u8 x1) ∧ w.cell? ⟨b, o + j * 6 + 2, none⟩ = some (.int .u8 x2) ∧
  w.cell? ⟨b, o + j * 6 + 3, none⟩ = some (.int .u8 x3) ∧ w.cell? ⟨b, o + j * 6 + 4, none⟩ = some (.int .u8 x4) ∧ w.cell? ⟨b, o + j * 6 + 5, none⟩ = some (.int .i64 x5)

theorem Kinds.keep {w w' : World} {b o l : Nat} (h : Kinds w b o l) (hc : ∀ p x, w.cell? ⟨b, p, none⟩ = some x → w'.cell? ⟨b, p, none⟩ = some x) : Kinds w' b o l := by
  intro j hj
  obtain ⟨x0, x1, x2, x3, x4, x5, h0, h1, h2, h3, h4, h5⟩ := h j hj
  exact ⟨x0, x1, x2, x3, x4, x5, hc _ _ h0, hc _ _ h1, hc _ _ h2, hc _ _ h3, hc _ _ h4, hc _ _ h5⟩

/-- A row of steps as a value. -/
def StepRow (w : World) (a : Option Addr) (l : Nat) : Prop := (a = none → l = 0) ∧ (0 < l → ∃ b o, a = some ⟨b, o, none⟩ ∧ Kinds w b o l)

theorem StepRow.below {w w' : World} {a : Option Addr} {l B : Nat} (h : StepRow w a l) (hb : Below B w w') (hB : w.heap.size ≤ B) : StepRow w' a l := by
  refine ⟨h.1, fun hl => ?_⟩
  obtain ⟨b, o, h1, h2⟩ := h.2 hl
  exact ⟨b, o, h1, h2.keep fun p x hx => cell_below hb hB hx⟩

/-- .. in memory that was made behind block N. -/
def Good (w : World) (N : Nat) (v : Value) (l : Nat) : Prop := ∃ a c, v = .slice a l c ∧ (a = none → l = 0) ∧ (0 < l → ∃ b, a = some ⟨b, 0, none⟩ ∧ N < b ∧ Kinds w b 0 l)

theorem Good.row {w : World} {N l : Nat} {v : Value} (h : Good w N v l) : ∃ a c, v = .slice a l c ∧ StepRow w a l := by
  obtain ⟨a, c, h1, h2, h3⟩ := h
  exact ⟨a, c, h1, h2, fun hl => by obtain ⟨b, h4, _, h5⟩ := h3 hl; exact ⟨b, 0, h4, h5⟩⟩

theorem Good.keep {w w' : World} {N : Nat} {v : Value} {l : Nat} (h : Good w N v l) (hc : ∀ b p x, b ≠ N → w.cell? ⟨b, p, none⟩ = some x → w'.cell? ⟨b, p, none⟩ = some x) : Good w' N v l := by
  obtain ⟨a, c, rfl, h2, h3⟩ := h
  refine ⟨a, c, rfl, h2, fun hl => ?_⟩
  obtain ⟨b, h4, h5, h6⟩ := h3 hl
  exact ⟨b, h4, h5, h6.keep fun p x hx => hc b p x (by omega) hx⟩

theorem Good.below {w w' : World} {N B : Nat} {v : Value} {l : Nat} (h : Good w N v l) (hb : Below B w w') (hB : w.heap.size ≤ B) : Good w' N v l := h.keep fun b p x _ hx => cell_below hb hB hx
theorem Good.set {w : World} {N : Nat} {v : Value} {l : Nat} (h : Good w N v l) (o : Nat) (u : Value) : Good (w.setCell ⟨N, o, none⟩ u) N v l :=
  h.keep fun b p x hb hx => (World.cell?_of_block (Below.heap_setCell w _ u b hb)).trans hx

def KindF (F : Nat → Value) (l : Nat) : Prop := ∀ j, j < l → Six (F (j * 6)) (F (j * 6 + 1)) (F (j * 6 + 2)) (F (j * 6 + 3)) (F (j * 6 + 4)) (F (j * 6 + 5))

theorem kindF_start (l : Nat) : KindF (fun i => (#[.int .i64 0, .int .u8 0, .int .u8 0, .int .u8 0, .int .u8 0, .int .i64 0] : Array Value)[i % 6]!) l := by
  intro j hj
  have e0 : (j * 6) % 6 = 0 := by omega
  have e1 : (j * 6 + 1) % 6 = 1 := by omega
  have e2 : (j * 6 + 2) % 6 = 2 := by omega
  have e3 : (j * 6 + 3) % 6 = 3 := by omega
  have e4 : (j * 6 + 4) % 6 = 4 := by omega
  have e5 : (j * 6 + 5) % 6 = 5 := by omega
  simp only [e0, e1, e2, e3, e4, e5]
  exact ⟨0, 0, 0, 0, 0, 0, rfl, rfl, rfl, rfl, rfl, rfl⟩

theorem kindF_set {F : Nat → Value} {l : Nat} (h : KindF F l) (k : Nat) {v0 v1 v2 v3 v4 v5 : Value} (hv : Six v0 v1 v2 v3 v4 v5) :
    KindF (fun i => if i = k * 6 + 5 then v5 else if i = k * 6 + 4 then v4 else if i = k * 6 + 3 then v3 else if i = k * 6 + 2 then v2 else if i = k * 6 + 1 then v1 else if i = k * 6 then v0 else F i) l := by
  intro j hj
  by_cases e : j = k
  · subst e
    simp
    exact hv
  · have n0 : ∀ s t, s < 6 → t < 6 → ¬ j * 6 + s = k * 6 + t := by intro s t hs ht; omega
    have q : ∀ s, s < 6 → (if j * 6 + s = k * 6 + 5 then v5 else if j * 6 + s = k * 6 + 4 then v4 else if j * 6 + s = k * 6 + 3 then v3 else if j * 6 + s = k * 6 + 2 then v2 else if j * 6 + s = k * 6 + 1 then v1 else if j * 6 + s = k * 6 then v0 else F (j * 6 + s)) = F (j * 6 + s) := by
      intro s hs
      rw [if_neg (n0 s 5 hs (by omega)), if_neg (n0 s 4 hs (by omega)), if_neg (n0 s 3 hs (by omega)), if_neg (n0 s 2 hs (by omega)), if_neg (n0 s 1 hs (by omega)), if_neg (fun e => n0 s 0 hs (by omega) (by rw [e]; rfl))]
    have h6 := h j hj
    dsimp only
    rw [q 1 (by omega), q 2 (by omega), q 3 (by omega), q 4 (by omega), q 5 (by omega)]
    have q0 := q 0 (by omega)
    simp only [Nat.add_zero] at q0
    rw [q0]
    exact h6

theorem store6 {w wr : World} {B N : Nat} {t : TypeId} {n : Nat} {F : Nat → Value} (hb : Below B w wr) (hB : B ≤ N) (hr : wr.rowIs N t n F) (j : Nat) (v0 v1 v2 v3 v4 v5 : Value) (O : Obj) :
    Below B w (((((((wr.setCell ⟨N, j, none⟩ v0).setCell ⟨N, j + 1, none⟩ v1).setCell ⟨N, j + 2, none⟩ v2).setCell ⟨N, j + 3, none⟩ v3).setCell ⟨N, j + 4, none⟩ v4).setCell ⟨N, j + 5, none⟩ v5).alloc O) ∧
    (((((((wr.setCell ⟨N, j, none⟩ v0).setCell ⟨N, j + 1, none⟩ v1).setCell ⟨N, j + 2, none⟩ v2).setCell ⟨N, j + 3, none⟩ v3).setCell ⟨N, j + 4, none⟩ v4).setCell ⟨N, j + 5, none⟩ v5).alloc O).rowIs N t n
      (fun i => if i = j + 5 then v5 else if i = j + 4 then v4 else if i = j + 3 then v3 else if i = j + 2 then v2 else if i = j + 1 then v1 else if i = j then v0 else F i) := by
  refine ⟨((((((hb.setCell hB _).setCell hB _).setCell hB _).setCell hB _).setCell hB _).setCell hB _).alloc ?_ _, ((((((hr.set j v0).set (j + 1) v1).set (j + 2) v2).set (j + 3) v3).set (j + 4) v4).set (j + 5) v5).alloc _⟩
  have := hr.lt
  simp [World.setCell]
  omega

theorem kinds_of_row {w : World} {N l : Nat} {t : TypeId} {F : Nat → Value} (hr : w.rowIs N t (l * 6) F) (hk : KindF F l) : Kinds w N 0 l := by
  intro j hj
  obtain ⟨x0, x1, x2, x3, x4, x5, h0, h1, h2, h3, h4, h5⟩ := hk j hj
  refine ⟨x0, x1, x2, x3, x4, x5, ?_, ?_, ?_, ?_, ?_, ?_⟩
  · rw [Nat.zero_add, hr.cell (by omega), h0]
  · rw [Nat.zero_add, hr.cell (by omega), h1]
  · rw [Nat.zero_add, hr.cell (by omega), h2]
  · rw [Nat.zero_add, hr.cell (by omega), h3]
  · rw [Nat.zero_add, hr.cell (by omega), h4]
  · rw [Nat.zero_add, hr.cell (by omega), h5]

theorem toSteps_nil (n c : Nat) (w : World) :
    Calls Try.prog 9 #[.slice none n c] w fun e w' => e = .returned (.slice none 0 0) ∧ w' = w := by
  have hn := fun wx => Lib.run_eql_slice_nil (P := Try.prog) wx 22 29 none n c 0 0 Try.underlying22
  go_enter Try.func9, Try.ntmps9
  go_wp2
  go_ret
  exact ⟨rfl, rfl⟩

set_option maxHeartbeats 1600000 in
theorem toSteps_some (x : Addr) (sb so m c : Nat) (w : World) (A : Nat → Option Addr) (L C : Nat → Nat) (hm : m ≤ 1048576) (hL : ∀ r, r < m → L r ≤ 1048576) (hx : 0 < m → x = ⟨sb, so, none⟩)
    (hR : RowsAt w sb so m A L C) (hE : ∀ r, r < m → StepRow w (A r) (L r)) :
    Calls Try.prog 9 #[.slice (some x) m c] w fun e w' => e = .returned (.slice (some ⟨w.heap.size, 0, none⟩) m m) ∧
      (∃ F : Nat → Value, w'.rowIs w.heap.size 46 m F ∧ ∀ r, r < m → Good w' w.heap.size (F r) (L r)) ∧ Below w.heap.size w w' := by
  have hnil := fun wx => Lib.run_eql_slice_nil (P := Try.prog) wx 22 29 (some x) m c 0 0 Try.underlying22
  have hmk := run_make_row' (P := Try.prog) 38 46 (.slice none 0 0) 24 Try.underlying38 info46 rfl .i64 .i64 m (by omega) (by omega)
  have HX : Hid (0 < m → x = ⟨sb, so, none⟩) := hx
  have HRo : Hid (RowsAt w sb so m A L C) := hR
  have HE : Hid (∀ r, r < m → StepRow w (A r) (L r)) := hE
  have HL : Hid (∀ r, r < m → L r ≤ 1048576) := hL
  clear hx hR hE hL
  go_enter Try.func9, Try.ntmps9
  go_wp2
  clear hnil hmk
  go_loopg [4] m (fun g y wr => ∃ (k : Nat) (F : Nat → Value), k ≤ m ∧ g = m - k ∧ y = .int .i64 k ∧ Hid (wr.rowIs w.heap.size 46 m F) ∧ Hid (∀ r, r < k → Good wr w.heap.size (F r) (L r)) ∧ Hid (∀ r, k ≤ r → F r = .slice none 0 0) ∧ Below w.heap.size w wr)
  case atStart =>
    exact ⟨0, fun _ => .slice none 0 0, Nat.zero_le _, rfl, rfl, World.rowIs_made w (.slice none 0 0) m 46, (fun i hi => absurd hi (Nat.not_lt_zero _)), (fun _ _ => rfl), (Below.refl _ _).alloc (Nat.le_refl _) _⟩
  case round =>
    obtain ⟨k, F, hk, rfl, rfl, HR, HG, HZ, hbel⟩ := hrel
    have hN : w.heap.size < wr.heap.size := HR.out.lt
    by_cases hlt : k < m
    · obtain rfl := HX.out (by omega)
      have hk' : (k : Int) < m := by omega
      have hc := (HRo.out.below hbel (Nat.le_refl _)) k hlt
      have hl := HL.out k hlt
      have hsr := HE.out k hlt
      have HSR : Hid (StepRow wr (A k) (L k)) := hsr.below hbel (Nat.le_refl _)
      clear hsr
      cases hA : A k with
      | none =>
        rw [hA] at hc
        have hl0 : L k = 0 := HSR.out.1 hA
        have HL0 : Hid (L k = 0) := hl0
        have hnr := fun wx => Lib.run_eql_slice_nil (P := Try.prog) wx 29 80 none (L k) (C k) 0 0 Try.underlying29
        have HB : Hid (Below w.heap.size w wr) := hbel
        clear hA hbel hl0
        go_wp2
        go_roundg (m - (k + 1))
        case measure => omega
        case rel =>
          refine ⟨k + 1, F, by omega, rfl, by go_num, HR, fun r hr => ?_, (fun r hr => HZ.out r (by omega)), HB.out⟩
          by_cases e : r = k
          · subst e
            exact ⟨none, 0, by rw [HZ.out r (Nat.le_refl _), HL0.out], fun _ => HL0.out, fun h => by have := HL0.out; omega⟩
          · exact HG.out r (by omega)
      | some y =>
        rw [hA] at hc
        have hnr := fun wx => Lib.run_eql_slice_nil (P := Try.prog) wx 29 80 (some y) (L k) (C k) 0 0 Try.underlying29
        have hmk := make_run (P := Try.prog) 46 49 _ 6 24 Try.underlying46 info49 (L k) (by omega) (by omega)
        have HY : Hid (0 < L k → ∃ b o, y = ⟨b, o, none⟩ ∧ Kinds wr b o (L k)) := fun h => by
          obtain ⟨b, o, h1, h2⟩ := HSR.out.2 h
          rw [hA] at h1
          cases h1
          exact ⟨b, o, rfl, h2⟩
        have HB : Hid (Below w.heap.size w wr) := hbel
        clear hA hbel HSR
        obtain ⟨wo, rfl⟩ : ∃ wo : World, wo = wr := ⟨_, rfl⟩
        go_wp2
        clear hnr hmk hc
        go_loopg [7] (L k) (fun g z wi => ∃ (j : Nat) (F2 : Nat → Value), j ≤ L k ∧ g = L k - j ∧ z = .int .i64 j ∧ Hid (wi.rowIs wo.heap.size 49 (L k * 6) F2) ∧ Hid (KindF F2 (L k)) ∧ Below wo.heap.size wo wi)
        case atStart =>
          exact ⟨0, _, Nat.zero_le _, rfl, rfl, rowIs_madeAny wo _ _ _, kindF_start _, (Below.refl _ _).alloc (Nat.le_refl _) _⟩
        case round =>
          obtain ⟨j, F2, hj, rfl, rfl, HR2, HK2, hbel2⟩ := hrel
          have hM : wo.heap.size < wr.heap.size := HR2.out.lt
          by_cases hjl : j < L k
          · have hj' : (j : Int) < L k := by omega
            obtain ⟨b, o, rfl, hKi⟩ := HY.out (by omega)
            obtain ⟨x0, x1, x2, x3, x4, x5, c0, c1, c2, c3, c4, c5⟩ := hKi j hjl
            have hbo : b < wo.heap.size := lt_of_cell c0
            have d0 := cell_below hbel2 (Nat.le_refl _) c0
            have d1 := cell_below hbel2 (Nat.le_refl _) c1
            have d2 := cell_below hbel2 (Nat.le_refl _) c2
            have d3 := cell_below hbel2 (Nat.le_refl _) c3
            have d4 := cell_below hbel2 (Nat.le_refl _) c4
            have d5 := cell_below hbel2 (Nat.le_refl _) c5
            have hb2 : b < wr.heap.size := by omega
            have hne : ¬ b = wo.heap.size := by omega
            have e0 := HR2.out.cell (i := j * 6) (by omega)
            have e1 := HR2.out.cell (i := j * 6 + 1) (by omega)
            have e2 := HR2.out.cell (i := j * 6 + 2) (by omega)
            have e3 := HR2.out.cell (i := j * 6 + 3) (by omega)
            have e4 := HR2.out.cell (i := j * 6 + 4) (by omega)
            have e5 := HR2.out.cell (i := j * 6 + 5) (by omega)
            have f0 := HR2.out.frozen (j * 6)
            have f1 := HR2.out.frozen (j * 6 + 1)
            have f2 := HR2.out.frozen (j * 6 + 2)
            have f3 := HR2.out.frozen (j * 6 + 3)
            have f4 := HR2.out.frozen (j * 6 + 4)
            have f5 := HR2.out.frozen (j * 6 + 5)
            have HB2 : Hid (Below wo.heap.size wo wr) := hbel2
            clear hbel2 c0 c1 c2 c3 c4 c5 hKi
            go_wp2
            go_roundg (L k - (j + 1))
            case measure => omega
            case rel =>
              obtain ⟨R1, R2⟩ := store6 HB2.out (Nat.le_refl _) HR2.out (j * 6) (.int .i64 x0) (.int .u8 x1) (.int .u8 x2) (.int .u8 x3) (.int .u8 x4) (.int .i64 x5) (.cells #[.int .i64 x0, .int .u8 x1, .int .u8 x2, .int .u8 x3, .int .u8 x4, .int .i64 x5] 80)
              exact ⟨j + 1, _, by omega, rfl, by go_num, R2, kindF_set HK2.out j ⟨x0, x1, x2, x3, x4, x5, rfl, rfl, rfl, rfl, rfl, rfl⟩, R1⟩
          · have hRN : wr.rowIs w.heap.size 46 m F := HR.out.of_block (hbel2.block _ hN)
            have g0 := hRN.cell (i := k) hlt
            have g1 := hRN.frozen k
            have hneN : ¬ w.heap.size = wo.heap.size := by omega
            have HRN : Hid (wr.rowIs w.heap.size 46 m F) := hRN
            have HB2 : Hid (Below wo.heap.size wo wr) := hbel2
            clear hRN hbel2
            go_wp2
            go_roundg (m - (k + 1))
            case measure => omega
            case rel =>
              refine ⟨k + 1, _, by omega, rfl, by go_num, HRN.out.set k _, fun r hr => ?_, (fun r hr => ?_), (HB.out.trans (HB2.out.mono (Nat.le_of_lt hN))).setCell (Nat.le_refl _) _⟩
              · by_cases e : r = k
                · subst e
                  refine ⟨some ⟨wo.heap.size, 0, none⟩, L r, by simp, (fun h => by cases h), fun _ => ⟨wo.heap.size, rfl, hN, (kinds_of_row HR2.out HK2.out).keep fun p x hx => ?_⟩⟩
                  exact (World.cell?_of_block (Below.heap_setCell wr _ _ _ (by simp; omega))).trans hx
                · rw [if_neg e]
                  exact ((HG.out r (by omega)).below HB2.out (Nat.le_refl _)).set _ _
              · rw [if_neg (by omega)]
                exact HZ.out r (by omega)
    · go_wp2
      go_ret
      exact ⟨rfl, ⟨F, HR.out, fun r hr => HG.out r (by omega)⟩, hbel⟩
end Go.Proofs.Qxb6613311a
