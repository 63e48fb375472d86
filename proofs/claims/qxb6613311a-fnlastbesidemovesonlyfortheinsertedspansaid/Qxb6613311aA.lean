/-
  Seat b6613311a: spans in memory; the contracts of seek, spanOf, lastBeside, all.
-/
import Derived.Test.Qxb6613311aRows
import Derived.WalkKit
import Derived.ProofKit
import Derived.OpenShut
import Derived.Below
import Derived.Outline
import Derived.WalkLawsBesides
import Derived.Deep.QuietTactic
import Derived.BigQuiet
import Derived.Deep.LoopGhost
import Derived.Deep.OwnRows
import Derived.Deep.Light
import Derived.Lib.SliceRun
namespace Go.Proofs.Qxb6613311a
open Go.ChangeShapes Go.WideShapes Go.ChangeAt Go.RowKit

/-- Spans as they lie: element i takes three cells. -/
def SpansAt (w : World) (b o n : Nat) (T Lo Hi : Nat → Int) : Prop :=
  ∀ i, i < n → w.cell? ⟨b, o + i * 3, none⟩ = some (.int .i64 (T i)) ∧ w.cell? ⟨b, o + i * 3 + 1, none⟩ = some (.int .i64 (Lo i)) ∧ w.cell? ⟨b, o + i * 3 + 2, none⟩ = some (.int .i64 (Hi i))

theorem key_any (t l h : Int) (w : World) :
    Calls Try.prog 18 #[.agg #[.int .i64 t, .int .i64 l, .int .i64 h]] w fun e w' => e = .returned (.int .i64 t) ∧ w' = w.alloc (.cells #[.int .i64 t, .int .i64 l, .int .i64 h] 59) := by
  go_enter Try.func18, Try.ntmps18
  go_wp2
  go_ret
  exact ⟨rfl, rfl⟩

theorem lt_of_cell {w : World} {b o : Nat} {v : Value} (h : w.cell? ⟨b, o, none⟩ = some v) : b < w.heap.size := by
  rcases Nat.lt_or_ge b w.heap.size with h' | h'
  · exact h'
  · simp [World.cell?, Array.getElem?_eq_none h'] at h

theorem cell_below {w w' : World} {b o : Nat} {v : Value} {B : Nat} (hb : Below B w w') (hB : w.heap.size ≤ B) (h : w.cell? ⟨b, o, none⟩ = some v) : w'.cell? ⟨b, o, none⟩ = some v :=
  (hb.cell (p := ⟨b, o, none⟩) (Nat.lt_of_lt_of_le (lt_of_cell h) hB)).trans h

theorem SpansAt.below {w w' : World} {b o n B : Nat} {T Lo Hi : Nat → Int} (h : SpansAt w b o n T Lo Hi) (hb : Below B w w') (hB : w.heap.size ≤ B) : SpansAt w' b o n T Lo Hi :=
  fun i hi => ⟨cell_below hb hB (h i hi).1, cell_below hb hB (h i hi).2.1, cell_below hb hB (h i hi).2.2⟩

/-- What seek finds. -/
def Found (T : Nat → Int) (n : Nat) (k : Int) (s : Nat) : Prop := s ≤ n ∧ (∀ i, i < s → T i < k) ∧ (∀ i, s ≤ i → i < n → k ≤ T i)

theorem seek_any (a : Option Addr) (b o n c : Nat) (k : Int) (w : World) (T Lo Hi : Nat → Int) (hn : n ≤ 2097152) (ha : 0 < n → a = some ⟨b, o, none⟩) (hS : SpansAt w b o n T Lo Hi)
    (hmono : ∀ i j, i < j → j < n → T i < T j) :
    Calls Try.prog 17 #[.slice a n c, .int .i64 k, .func (.func 18) #[] #[]] w fun e w' => ∃ s : Nat, e = .returned (.int .i64 s) ∧ Found T n k s ∧ Below w.heap.size w w' := by
  have HM : Hid (∀ i j, i < j → j < n → T i < T j) := hmono
  have HS : Hid (SpansAt w b o n T Lo Hi) := hS
  have HA : Hid (0 < n → a = some ⟨b, o, none⟩) := ha
  clear hmono hS ha
  go_enter Try.func17, Try.ntmps17
  go_wp2
  go_loopg [7, 8] n (fun g x y wr => ∃ l h : Nat, l ≤ h ∧ h ≤ n ∧ g = h - l ∧ x = .int .i64 l ∧ y = .int .i64 h ∧ Hid (∀ i, i < l → T i < k) ∧ Hid (∀ i, h ≤ i → i < n → k ≤ T i) ∧ Below w.heap.size w wr)
  case atStart => exact ⟨0, n, Nat.zero_le _, Nat.le_refl _, rfl, rfl, rfl, (fun i hi => absurd hi (Nat.not_lt_zero _)), (fun i h1 h2 => by omega), Below.refl _ _⟩
  case round =>
    obtain ⟨l, h, hlh, hhn, rfl, rfl, rfl, h1, h2, hbel⟩ := hrel
    by_cases hlt : l < h
    · obtain rfl := HA.out (by omega)
      obtain ⟨hc0, hc1, hc2⟩ := (HS.out.below hbel (Nat.le_refl _)) ((l + h) / 2) (by omega)
      have hbel2 : Hid (Below w.heap.size w (wr.alloc (.cells #[.int .i64 (T ((l + h) / 2)), .int .i64 (Lo ((l + h) / 2)), .int .i64 (Hi ((l + h) / 2))] 59))) := hbel.alloc hbel.size _
      clear hbel
      by_cases hT : T ((l + h) / 2) < k
      · go_wp2_with fail
        refine (key_any _ _ _ _).mono ?_
        rintro e w2 ⟨rfl, rfl⟩
        go_wp2
        go_roundg (h - ((l + h) / 2 + 1))
        case measure => omega
        case rel => exact ⟨(l + h) / 2 + 1, h, by omega, by omega, rfl, by go_num, rfl, (fun i hi => by
          by_cases e : i = (l + h) / 2
          · rw [e]; exact hT
          · have := HM.out i ((l + h) / 2) (by omega) (by omega); omega), h2, hbel2.out⟩
      · go_wp2_with fail
        refine (key_any _ _ _ _).mono ?_
        rintro e w2 ⟨rfl, rfl⟩
        go_wp2
        go_roundg ((l + h) / 2 - l)
        case measure => omega
        case rel => exact ⟨l, (l + h) / 2, by omega, by omega, rfl, rfl, by go_num, h1, (fun i hi hi2 => by
          by_cases e : i = (l + h) / 2
          · rw [e]; omega
          · have := HM.out ((l + h) / 2) i (by omega) (by omega); omega), hbel2.out⟩
    · go_wp2
      go_ret
      exact ⟨l, rfl, ⟨by omega, h1, fun i hi hn => h2 i (by omega) hn⟩, hbel⟩
end Go.Proofs.Qxb6613311a
