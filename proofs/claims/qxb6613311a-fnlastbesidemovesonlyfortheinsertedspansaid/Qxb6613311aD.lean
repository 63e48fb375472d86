/-
  Seat b6613311a: zzWellFormed.
-/
import Derived.Test.Qxb6613311aC
namespace Go.Proofs.Qxb6613311a
open Go.ChangeShapes Go.WideShapes Go.ChangeAt Go.RowKit
set_option linter.unusedVariables false

/-- What zzWellFormed looks at, for the first k spans. -/
def WF (m : Nat) (L : Nat → Nat) (T Lo Hi : Nat → Int) (k : Nat) : Prop :=
  ∀ i, i < k → (∃ t : Nat, T i = t ∧ t < m ∧ Hi i = L t) ∧ (0 < i → T (i - 1) < T i) ∧ 1 ≤ Lo i ∧ Lo i ≤ Hi i

theorem WF.mono {m : Nat} {L : Nat → Nat} {T Lo Hi : Nat → Int} {n : Nat} (h : WF m L T Lo Hi n) : ∀ i j, i < j → j < n → T i < T j := by
  intro i j hij
  induction j with
  | zero => omega
  | succ j ih =>
    intro hj
    have h1 := (h (j + 1) hj).2.1 (by omega)
    simp at h1
    by_cases e : i = j
    · rw [e]; exact h1
    · have := ih (by omega) (by omega); omega

theorem wf_step {m : Nat} {L : Nat → Nat} {T Lo Hi : Nat → Int} {k : Nat} (h : WF m L T Lo Hi k) (hk : (∃ t : Nat, T k = t ∧ t < m ∧ Hi k = L t) ∧ (0 < k → T (k - 1) < T k) ∧ 1 ≤ Lo k ∧ Lo k ≤ Hi k) : WF m L T Lo Hi (k + 1) := by
  intro i hi
  by_cases e : i = k
  · subst e; exact hk
  · exact h i (by omega)

set_option maxHeartbeats 1600000 in
theorem wf_any (a p : Option Addr) (sb so m cm b o n cn : Nat) (w : World) (A : Nat → Option Addr) (L C : Nat → Nat) (T Lo Hi : Nat → Int) (hm : m ≤ 1048576) (hn : n ≤ 1048576) (hL : ∀ r, r < m → L r ≤ 1048576)
    (ha : 0 < m → a = some ⟨sb, so, none⟩) (hR : RowsAt w sb so m A L C) (hp : 0 < n → p = some ⟨b, o, none⟩) (hS : SpansAt w b o n T Lo Hi) :
    Calls Try.prog 7 #[.slice p n cn, .slice a m cm] w fun e w' => Tells (WF m L T Lo Hi n) e ∧ Below w.heap.size w w' := by
  have HA : Hid (0 < m → a = some ⟨sb, so, none⟩) := ha
  have HR : Hid (RowsAt w sb so m A L C) := hR
  have HL : Hid (∀ r, r < m → L r ≤ 1048576) := hL
  have HP : Hid (0 < n → p = some ⟨b, o, none⟩) := hp
  have HS : Hid (SpansAt w b o n T Lo Hi) := hS
  clear ha hR hL hp hS
  go_enter Try.func7, Try.ntmps7
  go_wp2
  go_loopg [5] n (fun g x wr => ∃ k : Nat, k ≤ n ∧ g = n - k ∧ x = .int .i64 k ∧ Hid (WF m L T Lo Hi k) ∧ Below w.heap.size w wr)
  case atStart => exact ⟨0, Nat.zero_le _, rfl, rfl, (fun i hi => absurd hi (Nat.not_lt_zero _)), Below.refl _ _⟩
  case round =>
    obtain ⟨k, hk, rfl, rfl, hW, hbel⟩ := hrel
    by_cases hlt : k < n
    · obtain rfl := HP.out (by omega)
      obtain ⟨hc0, hc1, hc2⟩ := (HS.out.below hbel (Nat.le_refl _)) k hlt
      have hbb : b < wr.heap.size := lt_of_cell hc0
      have hk' : (k : Int) < n := by omega
      have HB2 : Hid (∀ x y z m', Below w.heap.size w ((wr.alloc (.cells #[x, y, z] 31)).drewN m')) := fun x y z m' => (below_drewN (hbel.alloc hbel.size _) m')
      have HS2 : Hid (SpansAt wr b o n T Lo Hi) := HS.out.below hbel (Nat.le_refl _)
      have HR2 : Hid (RowsAt wr sb so m A L C) := HR.out.below hbel (Nat.le_refl _)
      clear hbel
      by_cases hT0 : T k < 0
      · go_wp2
        go_ret
        exact ⟨⟨false, rfl, (fun h => by cases h)⟩, HB2.out _ _ _ 0⟩
      · by_cases hT1 : (m : Int) ≤ T k
        · go_wp2
          go_ret
          exact ⟨⟨false, rfl, (fun h => by cases h)⟩, HB2.out _ _ _ 0⟩
        · obtain ⟨t, ht⟩ : ∃ t : Nat, T k = (t : Int) := ⟨(T k).toNat, by omega⟩
          rw [ht] at hc0 hT0 hT1
          have HT : Hid (T k = (t : Int)) := ht
          obtain rfl := HA.out (by omega)
          have hrow := HR2.out t (by omega)
          have hl := HL.out t (by omega)
          have hrb : sb < wr.heap.size := lt_of_cell hrow
          have ht' : (t : Int) < m := by omega
          clear ht hT1
          by_cases hk0 : k = 0
          · have hg : decide ((0 : Int) < (k : Int)) = false := decide_eq_false (by omega)
            have hg' : decide (0 < k) = false := decide_eq_false (by omega)
            have HK : Hid (k = 0) := hk0
            clear hk0
            go_wp2
            go_quiet (fail)
            go_wp2
            rcases (show Lo k < 1 ∨ (1 ≤ Lo k ∧ Hi k < Lo k) ∨ (1 ≤ Lo k ∧ Lo k ≤ Hi k ∧ Hi k ≠ (L t : Int)) ∨ (1 ≤ Lo k ∧ Lo k ≤ Hi k ∧ Hi k = (L t : Int)) from by omega) with hq | ⟨hq, hq2⟩ | ⟨hq, hq2, hq3⟩ | ⟨hq, hq2, hq3⟩
            · go_quiet (fail)
              go_wp2
              go_ret
              first | exact ⟨⟨false, rfl, (fun h => by cases h)⟩, below_drewN (HB2.out _ _ _ _) _⟩ | exact ⟨⟨false, rfl, (fun h => by cases h)⟩, HB2.out _ _ _ _⟩
            · have hz1 : decide (Lo k < 1) = false := decide_eq_false (by omega)
              go_quiet (fail)
              go_wp2
              go_ret
              first | exact ⟨⟨false, rfl, (fun h => by cases h)⟩, below_drewN (HB2.out _ _ _ _) _⟩ | exact ⟨⟨false, rfl, (fun h => by cases h)⟩, HB2.out _ _ _ _⟩
            · have hz1 : decide (Lo k < 1) = false := decide_eq_false (by omega)
              have hz2 : decide (Hi k < Lo k) = false := decide_eq_false (by omega)
              have hz3 : (Hi k != (L t : Int)) = true := by simp [hq3]
              go_quiet (fail)
              go_wp2
              go_ret
              first | exact ⟨⟨false, rfl, (fun h => by cases h)⟩, below_drewN (HB2.out _ _ _ _) _⟩ | exact ⟨⟨false, rfl, (fun h => by cases h)⟩, HB2.out _ _ _ _⟩
            · have hz1 : decide (Lo k < 1) = false := decide_eq_false (by omega)
              have hz2 : decide (Hi k < Lo k) = false := decide_eq_false (by omega)
              have hz3 : (Hi k != (L t : Int)) = false := by simp [hq3]
              have HQ : Hid (Hi k = (L t : Int)) := hq3
              clear hq3
              go_quiet (fail)
              go_wp2
              go_roundg (n - (k + 1))
              case measure => omega
              case rel => exact ⟨k + 1, by omega, rfl, by go_num, wf_step hW ⟨⟨t, HT.out, by omega, HQ.out⟩, (fun h => by have := HK.out; omega), hq, hq2⟩, HB2.out _ _ _ _⟩
          · have hk1 : (0 : Int) < k := by omega
            have hk2 : 0 < k := by omega
            have hcp := (HS2.out (k - 1) (by omega)).1
            by_cases hord : T (k - 1) < t
            · go_wp2
              go_quiet (fail)
              go_wp2
              rcases (show Lo k < 1 ∨ (1 ≤ Lo k ∧ Hi k < Lo k) ∨ (1 ≤ Lo k ∧ Lo k ≤ Hi k ∧ Hi k ≠ (L t : Int)) ∨ (1 ≤ Lo k ∧ Lo k ≤ Hi k ∧ Hi k = (L t : Int)) from by omega) with hq | ⟨hq, hq2⟩ | ⟨hq, hq2, hq3⟩ | ⟨hq, hq2, hq3⟩
              · go_quiet (fail)
                go_wp2
                go_ret
                first | exact ⟨⟨false, rfl, (fun h => by cases h)⟩, below_drewN (HB2.out _ _ _ _) _⟩ | exact ⟨⟨false, rfl, (fun h => by cases h)⟩, HB2.out _ _ _ _⟩
              · have hz1 : decide (Lo k < 1) = false := decide_eq_false (by omega)
                go_quiet (fail)
                go_wp2
                go_ret
                first | exact ⟨⟨false, rfl, (fun h => by cases h)⟩, below_drewN (HB2.out _ _ _ _) _⟩ | exact ⟨⟨false, rfl, (fun h => by cases h)⟩, HB2.out _ _ _ _⟩
              · have hz1 : decide (Lo k < 1) = false := decide_eq_false (by omega)
                have hz2 : decide (Hi k < Lo k) = false := decide_eq_false (by omega)
                have hz3 : (Hi k != (L t : Int)) = true := by simp [hq3]
                go_quiet (fail)
                go_wp2
                go_ret
                first | exact ⟨⟨false, rfl, (fun h => by cases h)⟩, below_drewN (HB2.out _ _ _ _) _⟩ | exact ⟨⟨false, rfl, (fun h => by cases h)⟩, HB2.out _ _ _ _⟩
              · have hz1 : decide (Lo k < 1) = false := decide_eq_false (by omega)
                have hz2 : decide (Hi k < Lo k) = false := decide_eq_false (by omega)
                have hz3 : (Hi k != (L t : Int)) = false := by simp [hq3]
                have HQ : Hid (Hi k = (L t : Int)) := hq3
                clear hq3
                go_quiet (fail)
                go_wp2
                go_roundg (n - (k + 1))
                case measure => omega
                case rel => exact ⟨k + 1, by omega, rfl, by go_num, wf_step hW ⟨⟨t, HT.out, by omega, HQ.out⟩, (fun _ => by rw [HT.out]; exact hord), hq, hq2⟩, HB2.out _ _ _ _⟩
            · go_wp2
              go_quiet (fail)
              go_wp2
              go_ret
              first | exact ⟨⟨false, rfl, (fun h => by cases h)⟩, below_drewN (HB2.out _ _ _ _) _⟩ | exact ⟨⟨false, rfl, (fun h => by cases h)⟩, HB2.out _ _ _ _⟩
    · go_wp2
      go_ret
      exact ⟨⟨true, rfl, fun _ i hi => hW i (by omega)⟩, hbel⟩
end Go.Proofs.Qxb6613311a
