/-
  Seat b6613372a: the plain law.
-/
import Derived.Test.Qxb6613372aWQ
namespace Go.Proofs.Qxb6613372a
open Go.ChangeShapes Go.WideShapes Go.ChangeAt Go.RowKit Go.MapKept
set_option linter.unusedSimpArgs false
set_option linter.unusedVariables false

theorem uP_snoc (M : List (Bool × ByteArray)) (x : Bool × ByteArray) : uP (M ++ [x]) = putN (uP M) x.2 ((uP M x.2).getD 0 ||| bitOf x.1) := by simp [uP]

theorem uP_append (A : List (Bool × ByteArray)) (s : ByteArray) (C : List (Bool × ByteArray)) :
    (uP (A ++ C) s).getD 0 = (uP A s).getD 0 ||| (uP C s).getD 0 ∧ (uP (A ++ C) s).isSome = ((uP A s).isSome || (uP C s).isSome) := by
  induction C using list_snoc_ind with
  | nil => simp [uP]
  | snoc C x ih =>
    rw [← List.append_assoc, uP_snoc, uP_snoc]
    unfold putN
    by_cases e : s = x.2
    · subst e
      rw [if_pos rfl, if_pos rfl]
      refine ⟨?_, by simp⟩
      simp only [Option.getD_some]
      rw [ih.1, Nat.or_assoc]
    · rw [if_neg e, if_neg e]
      exact ih

theorem uP_lt (M : List (Bool × ByteArray)) (s : ByteArray) : (uP M s).getD 0 < 4 := by
  induction M using list_snoc_ind with
  | nil => simp [uP]
  | snoc M x ih =>
    rw [uP_snoc]
    unfold putN
    split
    · rename_i e
      subst e
      rw [Option.getD_some]
      exact or_lt4 ih (by cases x.1 <;> simp [bitOf])
    · exact ih

theorem uP_isSome (M : List (Bool × ByteArray)) (s : ByteArray) : (uP M s).isSome = true ↔ s ∈ M.map (fun x => x.2) := by
  induction M using list_snoc_ind with
  | nil => simp [uP]
  | snoc M x ih =>
    rw [uP_snoc]
    unfold putN
    split
    · rename_i e
      subst e
      simp
    · rename_i e
      rw [ih]
      simp [e]

open Classical in
theorem nodup_len {α : Type} : ∀ (l m : List α), l.Nodup → (∀ x ∈ l, x ∈ m) → l.length ≤ m.length
  | [], m, _, _ => by simp
  | a :: l, m, h, hs => by
    have ha : a ∈ m := hs a (by simp)
    have h' := List.nodup_cons.1 h
    have := nodup_len l (m.erase a) h'.2 (fun x hx => by
      refine (List.mem_erase_of_ne ?_).2 (hs x (by simp [hx]))
      intro e
      subst e
      exact h'.1 hx)
    rw [List.length_erase_of_mem ha] at this
    have hp : 0 < m.length := List.length_pos_of_mem ha
    simp
    omega

theorem keys_law {A C : List (Bool × ByteArray)} {n a c : Nat} (hM : Keys (uP (A ++ C)) n) (hA : Keys (uP A) a) (hC : Keys (uP C) c) : n ≤ a + c ∧ a ≤ n ∧ c ≤ n := by
  obtain ⟨kM, nM, lM, sM⟩ := hM
  obtain ⟨kA, nA, lA, sA⟩ := hA
  obtain ⟨kC, nC, lC, sC⟩ := hC
  have key : ∀ s, s ∈ kM ↔ s ∈ kA ∨ s ∈ kC := fun s => by
    rw [sM, sA, sC, (uP_append A s C).2]
    simp
  refine ⟨?_, ?_, ?_⟩
  · have := nodup_len kM (kA ++ kC) nM (fun x hx => by rw [List.mem_append]; exact (key x).1 hx)
    rw [List.length_append] at this
    omega
  · have := nodup_len kA kM nA (fun x hx => (key x).2 (.inl hx))
    omega
  · have := nodup_len kC kM nC (fun x hx => (key x).2 (.inr hx))
    omega

theorem keys_le {M : List (Bool × ByteArray)} {n : Nat} (h : Keys (uP M) n) : n ≤ M.length := by
  obtain ⟨k, nk, lk, sk⟩ := h
  have := nodup_len k (M.map (fun x => x.2)) nk (fun x hx => (uP_isSome M x).1 ((sk x).1 hx))
  rw [List.length_map] at this
  omega

theorem cntP_append (ps : List ByteArray) (A C : List (Bool × ByteArray)) : cntP ps (A ++ C) = cntP ps A + cntP ps C := by simp [cntP, List.filter_append]
theorem cntP_le (ps : List ByteArray) (M : List (Bool × ByteArray)) : cntP ps M ≤ M.length := List.length_filter_le _ _
theorem bits_or5 (x y : Nat) (hx : x < 4) (hy : y < 4) : bits .or .u8 x y = ((x ||| y : Nat) : Int) := by
  have hc : x = 0 ∨ x = 1 ∨ x = 2 ∨ x = 3 := by omega
  have hd : y = 0 ∨ y = 1 ∨ y = 2 ∨ y = 3 := by omega
  rcases hc with rfl | rfl | rfl | rfl <;> rcases hd with rfl | rfl | rfl | rfl <;> rfl

/-- The statements as they lie, cut at k. -/
def mOf (Rt : Nat → Bool) (Nm : Nat → ByteArray) (n : Nat) : List (Bool × ByteArray) := (List.range n).map (fun i => (Rt i, Nm i))
theorem mOf_cut (Rt : Nat → Bool) (Nm : Nat → ByteArray) (k m : Nat) (h : k ≤ m) : mOf Rt Nm m = mOf Rt Nm k ++ mOf (fun i => Rt (k + i)) (fun i => Nm (k + i)) (m - k) := by
  unfold mOf
  obtain ⟨d, rfl⟩ : ∃ d, m = k + d := ⟨m - k, by omega⟩
  rw [List.range_add, List.map_append, Nat.add_sub_cancel_left, List.map_map]
  rfl
theorem mOf_succ (Rt : Nat → Bool) (Nm : Nat → ByteArray) (k : Nat) : mOf Rt Nm (k + 1) = mOf Rt Nm k ++ [(Rt k, Nm k)] := by
  unfold mOf
  rw [List.range_succ, List.map_append]
  rfl
theorem mOf_len (Rt : Nat → Bool) (Nm : Nat → ByteArray) (k : Nat) : (mOf Rt Nm k).length = k := by simp [mOf]
theorem cntP_succ (ps : List ByteArray) (Rt : Nat → Bool) (Nm : Nat → ByteArray) (k : Nat) : cntP ps (mOf Rt Nm (k + 1)) = cntP ps (mOf Rt Nm k) + (if (Rt k && (FVp ps (Nm k)).isSome) = true then 1 else 0) := by
  rw [mOf_succ, cntP_append]
  congr 1
  unfold cntP
  cases h : (Rt k && (FVp ps (Nm k)).isSome) <;> simp [h]

/-! ### The clones, whatever comes -/
theorem cloneS_any (a : Option Addr) (b o n c : Nat) (w : World) (S : Nat → ByteArray) (hn : n ≤ 60000) (h0 : a = none → n = 0) (ha : 0 < n → a = some ⟨b, o, none⟩) (hS : StrAt w b o n S) :
    Calls Try.prog 10 #[.slice a n c] w fun e w' => ∃ a', e = .returned (.slice a' n n) ∧ (0 < n → a' = some ⟨w.heap.size, 0, none⟩) ∧ StrAt w' w.heap.size 0 n S ∧ w.grownBy w' none := by
  cases a with
  | none =>
    obtain rfl := h0 rfl
    refine (cloneS_nil 0 c w).mono ?_
    rintro e w' ⟨rfl, rfl⟩
    exact ⟨none, rfl, fun h => absurd h (Nat.lt_irrefl _), fun i hi => absurd hi (Nat.not_lt_zero _), grefl _ _⟩
  | some x =>
    refine (cloneS_some x b o n c w S hn (fun h => by have := ha h; cases this; rfl) hS).mono ?_
    rintro e w' ⟨rfl, h1, h2⟩
    exact ⟨_, rfl, fun _ => rfl, row_strs h1, h2⟩
theorem cloneM_any (a : Option Addr) (b o n c : Nat) (w : World) (Rt : Nat → Bool) (Nm : Nat → ByteArray) (hn : n ≤ 60000) (h0 : a = none → n = 0) (ha : 0 < n → a = some ⟨b, o, none⟩) (hS : StmAt w b o n Rt Nm) :
    Calls Try.prog 11 #[.slice a n c] w fun e w' => ∃ a', e = .returned (.slice a' n n) ∧ ((a' = none ∧ n = 0) ∨ a' = some ⟨w.heap.size, 0, none⟩) ∧ StmAt w' w.heap.size 0 n Rt Nm ∧ w.grownBy w' none := by
  cases a with
  | none =>
    obtain rfl := h0 rfl
    refine (cloneM_nil 0 c w).mono ?_
    rintro e w' ⟨rfl, rfl⟩
    exact ⟨none, rfl, .inl ⟨rfl, rfl⟩, fun i hi => absurd hi (Nat.not_lt_zero _), grefl _ _⟩
  | some x =>
    refine (cloneM_some x b o n c w Rt Nm hn (fun h => by have := ha h; cases this; rfl) hS).mono ?_
    rintro e w' ⟨rfl, h1, h2⟩
    exact ⟨_, rfl, .inr rfl, h1, h2⟩
end Go.Proofs.Qxb6613372a
