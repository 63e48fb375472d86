/-
  Seat b6613462a: plain facts on the run of digits, and the clone's contract for every slice.
-/
import Derived.Test.Qxb6613462aB
namespace Go.Proofs.Qxb6613462a
open Go.ChangeShapes Go.WideShapes Go.ChangeAt Go.RowKit

theorem runTo_ge (f : Nat → Int) : ∀ k p, p ≤ runTo f k p ∧ runTo f k p ≤ p + k ∧ (runTo f k p < p + k → dgB (f (runTo f k p)) = false) ∧ ∀ j, p ≤ j → j < runTo f k p → dgB (f j) = true
  | 0, p => ⟨Nat.le_refl _, by simp [runTo], fun h => by simp [runTo] at h, fun j h1 h2 => by simp [runTo] at h2; omega⟩
  | k + 1, p => by
    by_cases h : dgB (f p) = true
    · obtain ⟨h1, h2, h3, h4⟩ := runTo_ge f k (p + 1)
      have e : runTo f (k + 1) p = runTo f k (p + 1) := by simp [runTo, h]
      rw [e]
      refine ⟨by omega, by omega, fun h5 => h3 (by omega), fun j h5 h6 => ?_⟩
      by_cases e2 : j = p
      · rw [e2]; exact h
      · exact h4 j (by omega) h6
    · have e : runTo f (k + 1) p = p := by simp [runTo, h]
      rw [e]
      exact ⟨Nat.le_refl _, by omega, fun _ => by simpa using h, fun j h1 h2 => by omega⟩

theorem runTo_shift (f : Nat → Int) (p : Nat) : ∀ k q, runTo (fun i => f (p + i)) k q + p = runTo f k (p + q)
  | 0, q => by simp [runTo]; omega
  | k + 1, q => by
    simp only [runTo]
    split
    · exact runTo_shift f p k (q + 1)
    · omega

theorem run_facts (f : Nat → Int) (n p : Nat) (h : p ≤ n) : p ≤ runEnd f n p ∧ runEnd f n p ≤ n ∧ (runEnd f n p < n → dgB (f (runEnd f n p)) = false) ∧ (∀ j, p ≤ j → j < runEnd f n p → dgB (f j) = true) ∧
    runEnd f n (runEnd f n p) = runEnd f n p ∧ runEnd (fun i => f (p + i)) (n - p) 0 + p = runEnd f n p := by
  have h0 := runTo_ge f (n - p) p
  obtain ⟨h1, h2, h3, h4⟩ := h0
  have e : runEnd f n p = runTo f (n - p) p := rfl
  have s := runTo_shift f p (n - p) 0
  refine ⟨h1, by rw [e]; omega, fun h5 => h3 (by rw [e] at h5; omega), h4, ?_, s⟩
  by_cases h6 : runEnd f n p < n
  · exact runEnd_stop f n _ h6 (h3 (by rw [e] at h6; omega))
  · exact runEnd_end f n _ (by omega)

theorem clone_any (a : Option Addr) (n c : Nat) (w : World) (f : Nat → Int) (hn : n ≤ 1048576) (ha : ∀ x, a = some x → 0 < n → x.spot = none ∧ x.block < w.heap.size ∧ ∀ i, i < n → w.cell? ⟨x.block, x.off + i, none⟩ = some (.int .u8 (f i)))
    (h0 : a = none → n = 0) :
    Calls Try.prog 5 #[.slice a n c] w fun e w' => ∃ a', e = .returned (.slice a' n n) ∧ (a' = none → n = 0) ∧ (∀ x, a' = some x → x = ⟨w.heap.size, 0, none⟩ ∧ w.heap.size < w'.heap.size) ∧
      (∀ i, i < n → w'.cell? ⟨w.heap.size, i, none⟩ = some (.int .u8 (f i))) ∧ Below w.heap.size w w' := by
  cases a with
  | none =>
    obtain rfl := h0 rfl
    refine (clone_nil 0 c w).mono ?_
    rintro e w' ⟨rfl, rfl⟩
    exact ⟨none, rfl, fun _ => rfl, fun x h => (by cases h), fun i h => absurd h (Nat.not_lt_zero _), Below.refl _ _⟩
  | some x =>
    refine (clone_some x n c w f hn (fun h => (ha x rfl h).1) (fun i h => (ha x rfl (by omega)).2.2 i h) (fun h => (ha x rfl h).2.1)).mono ?_
    rintro e w' ⟨rfl, hr, hb, hs⟩
    exact ⟨_, rfl, (fun h => by cases h), fun x h => ⟨by cases h; rfl, by omega⟩, fun i h => hr.cell h, hb⟩
end Go.Proofs.Qxb6613462a
