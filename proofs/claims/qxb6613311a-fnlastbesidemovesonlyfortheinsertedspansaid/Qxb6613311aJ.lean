/-
  Seat b6613311a: a row with one more put in: plain facts; lastBeside and all off the graph.
-/
import Derived.Test.Qxb6613311aH
namespace Go.Proofs.Qxb6613311a
open Go.ChangeShapes Go.WideShapes Go.ChangeAt Go.RowKit
set_option linter.unusedVariables false

/-- A row with x put in at place k. -/
def ins (k : Nat) (x : Int) (T : Nat → Int) (i : Nat) : Int := if i < k then T i else if i = k then x else T (i - 1)

theorem ins_lt {k : Nat} {x : Int} {T : Nat → Int} {i : Nat} (h : i < k) : ins k x T i = T i := by unfold ins; rw [if_pos h]
theorem ins_at {k : Nat} {x : Int} {T : Nat → Int} : ins k x T k = x := by unfold ins; rw [if_neg (by omega), if_pos rfl]
theorem ins_gt {k : Nat} {x : Int} {T : Nat → Int} {i : Nat} (h : k ≤ i) : ins k x T (i + 1) = T i := by unfold ins; rw [if_neg (by omega), if_neg (by omega)]; rfl

theorem ins_cases {k n i : Nat} (hk : k ≤ n) (hi : i < n + 1) : i < k ∨ i = k ∨ ∃ j, i = j + 1 ∧ k ≤ j ∧ j < n := by
  rcases Nat.lt_trichotomy i k with h | h | h
  · exact .inl h
  · exact .inr (.inl h)
  · exact .inr (.inr ⟨i - 1, by omega, by omega, by omega⟩)

theorem ins_mono {T : Nat → Int} {n k : Nat} {V : Int} (hk : k ≤ n) (hT : ∀ i j, i < j → j < n → T i < T j) (h1 : ∀ i, i < k → T i < V) (h2 : k < n → V < T k) : ∀ i j, i < j → j < n + 1 → ins k V T i < ins k V T j := by
  intro i j hij hj
  rcases ins_cases hk (show i < n + 1 by omega) with h | h | ⟨i', rfl, h3, h4⟩
  · rw [ins_lt h]
    rcases ins_cases hk hj with g | g | ⟨j', rfl, g3, g4⟩
    · rw [ins_lt g]; exact hT i j hij (by omega)
    · rw [g, ins_at]; exact h1 i h
    · rw [ins_gt g3]; exact hT i j' (by omega) g4
  · subst h
    rw [ins_at]
    rcases ins_cases hk hj with g | g | ⟨j', rfl, g3, g4⟩
    · omega
    · omega
    · rw [ins_gt g3]
      by_cases e : j' = i
      · subst e; exact h2 g4
      · have := hT i j' (by omega) g4; have := h2 (by omega); omega
  · rw [ins_gt h3]
    rcases ins_cases hk hj with g | g | ⟨j', rfl, g3, g4⟩
    · omega
    · omega
    · rw [ins_gt g3]; exact hT i' j' (by omega) g4

theorem inj_of_mono {T : Nat → Int} {n : Nat} (hT : ∀ i j, i < j → j < n → T i < T j) {i j : Nat} (hi : i < n) (hj : j < n) (h : T i = T j) : i = j := by
  rcases Nat.lt_trichotomy i j with g | g | g
  · have := hT i j g hj; omega
  · exact g
  · have := hT j i g hi; omega

theorem beside_before {T Lo : Nat → Int} {n k Lu : Nat} {V x : Int} (hT : ∀ i j, i < j → j < n → T i < T j) (h1 : ∀ i, i < k → T i < V) (h2 : k < n → V < T k) (h : Beside T Lo n Lu V x) : x = (Lu : Int) := by
  rcases h with ⟨i, hi, e, _⟩ | ⟨_, h⟩
  · exfalso
    by_cases g : i < k
    · have := h1 i g; omega
    · have h3 := h2 (by omega)
      by_cases e2 : i = k
      · subst e2; omega
      · have := hT k i (by omega) hi; omega
  · exact h

theorem beside_after {T Lo : Nat → Int} {n k Lu : Nat} {V lo x : Int} (hk : k ≤ n) (hT : ∀ i j, i < j → j < n → T i < T j) (h1 : ∀ i, i < k → T i < V) (h2 : k < n → V < T k) (h : Beside (ins k V T) (ins k lo Lo) (n + 1) Lu V x) : x = lo - 1 := by
  have hm := ins_mono hk hT h1 h2
  rcases h with ⟨i, hi, e, hx⟩ | ⟨h, _⟩
  · have : i = k := inj_of_mono hm hi (by omega) (by rw [e, ins_at])
    subst this
    rw [hx, ins_at]
  · exact absurd ins_at (h k (by omega))

theorem beside_same {T Lo : Nat → Int} {n k Lu : Nat} {V lo u x0 x1 : Int} (hk : k ≤ n) (hT : ∀ i j, i < j → j < n → T i < T j) (hu : u ≠ V) (h0 : Beside T Lo n Lu u x0) (h1 : Beside (ins k V T) (ins k lo Lo) (n + 1) Lu u x1) : x1 = x0 := by
  rcases h1 with ⟨i, hi, e, hx⟩ | ⟨hno, hx⟩
  · have hit : ∃ j, j < n ∧ T j = u ∧ x1 = Lo j - 1 := by
      rcases ins_cases hk hi with g | g | ⟨j', rfl, g3, g4⟩
      · rw [ins_lt g] at e hx; exact ⟨i, by omega, e, hx⟩
      · subst g; rw [ins_at] at e; exact absurd e.symm hu
      · rw [ins_gt g3] at e hx; exact ⟨j', g4, e, hx⟩
    obtain ⟨j, hj, e2, hx2⟩ := hit
    rcases h0 with ⟨i0, hi0, e0, hx0⟩ | ⟨hno, _⟩
    · have : i0 = j := inj_of_mono hT hi0 hj (by rw [e0, e2])
      subst this
      rw [hx2, hx0]
    · exact absurd e2 (hno j hj)
  · rcases h0 with ⟨i0, hi0, e0, hx0⟩ | ⟨_, hx0⟩
    · exfalso
      by_cases g : i0 < k
      · exact hno i0 (by omega) (by rw [ins_lt g]; exact e0)
      · exact hno (i0 + 1) (by omega) (by rw [ins_gt (by omega)]; exact e0)
    · rw [hx, hx0]

theorem WF.lo {m : Nat} {L : Nat → Nat} {T Lo Hi : Nat → Int} {n : Nat} (h : WF m L T Lo Hi n) (hL : ∀ r, r < m → L r ≤ 1048576) : ∀ i, i < n → 1 ≤ Lo i ∧ Lo i ≤ 1048576 := by
  intro i hi
  obtain ⟨⟨t, _, ht, he⟩, _, h1, h2⟩ := h i hi
  have := hL t ht
  exact ⟨h1, by omega⟩

theorem ins_lo {Lo : Nat → Int} {n k : Nat} {lo : Int} (hk : k ≤ n) (h : ∀ i, i < n → 1 ≤ Lo i ∧ Lo i ≤ 1048576) (h1 : 1 ≤ lo) (h2 : lo ≤ 1048576) : ∀ i, i < n + 1 → 1 ≤ ins k lo Lo i ∧ ins k lo Lo i ≤ 1048576 := by
  intro i hi
  rcases ins_cases hk hi with g | g | ⟨j', rfl, g3, g4⟩
  · rw [ins_lt g]; exact h i (by omega)
  · subst g; rw [ins_at]; exact ⟨h1, h2⟩
  · rw [ins_gt g3]; exact h j' g4

/-! ### Off the graph -/
theorem glast (ci : Nat) (hci : ci = 0 ∨ ci = 1) {G m n0 n1 U : Nat} {L : Nat → Nat} {T0 Lo0 Hi0 T1 Lo1 Hi1 : Nat → Int} (w : World) (hG : Graph w G m L n0 n1 T0 Lo0 Hi0 T1 Lo1 Hi1) (hU : U < m) (hm : m ≤ 1048576) (n : Nat) (T Lo : Nat → Int)
    (hsel : (ci = 0 ∧ n = n0 ∧ T = T0 ∧ Lo = Lo0) ∨ (ci = 1 ∧ n = n1 ∧ T = T1 ∧ Lo = Lo1)) (hn : n ≤ 2097152) (hT : ∀ i j, i < j → j < n → T i < T j) (hLo : ∀ i, i < n → 1 ≤ Lo i ∧ Lo i ≤ 1048576) :
    Calls Try.prog 11 #[.pointer (some ⟨G, 0, none⟩), .int .i64 ci, .int .i64 U] w fun e w' => ∃ x : Int, e = .returned (.int .i64 x) ∧ Beside T Lo n (L U) U x ∧ Below w.heap.size w w' := by
  obtain ⟨R, ss, Cb, v0, v1, N, h1, h2, h3, h4, h5, h6, h7, h8⟩ := hG
  obtain ⟨ar, cr, hrow⟩ := h4 U hU
  rcases hsel with ⟨rfl, rfl, rfl, rfl⟩ | ⟨rfl, rfl, rfl, rfl⟩
  · obtain ⟨a, b, rfl, _, _, ha, hS⟩ := h6
    exact zzlast_any G R Cb ss 0 U m n n (L U) cr m a ar b 0 w T Lo Hi0 (by omega) hU hm hn h1 h2 h3 hrow h5 ha hS hT hLo
  · obtain ⟨a, b, rfl, _, _, ha, hS⟩ := h8
    exact zzlast_any G R Cb ss 1 U m n n (L U) cr m a ar b 0 w T Lo Hi1 (by omega) hU hm hn h1 h2 h3 hrow h7 ha hS hT hLo

theorem gall {G m n0 n1 U : Nat} {L : Nat → Nat} {T0 Lo0 Hi0 T1 Lo1 Hi1 : Nat → Int} (w : World) (hG : Graph w G m L n0 n1 T0 Lo0 Hi0 T1 Lo1 Hi1) (hU : U < m) (hm : m ≤ 1048576) :
    Calls Try.prog 12 #[.pointer (some ⟨G, 0, none⟩), .int .i64 U] w fun e w' => e = .returned (.agg #[.int .i64 U, .int .i64 0, .int .i64 (L U)]) ∧ Below w.heap.size w w' := by
  obtain ⟨R, ss, Cb, v0, v1, N, h1, h2, h3, h4, h5, h6, h7, h8⟩ := hG
  obtain ⟨ar, cr, hrow⟩ := h4 U hU
  exact zzall_any G R ss U m (L U) cr m ar w hU hm h1 h3 hrow

theorem glast0 {G m n0 n1 U : Nat} {L : Nat → Nat} {T0 Lo0 Hi0 T1 Lo1 Hi1 : Nat → Int} (w : World) (hG : Graph w G m L n0 n1 T0 Lo0 Hi0 T1 Lo1 Hi1) (hU : U < m) (hm : m ≤ 1048576)
    (hn : n0 ≤ 2097152) (hT : ∀ i j, i < j → j < n0 → T0 i < T0 j) (hLo : ∀ i, i < n0 → 1 ≤ Lo0 i ∧ Lo0 i ≤ 1048576) :
    Calls Try.prog 11 #[.pointer (some ⟨G, 0, none⟩), .int .i64 0, .int .i64 U] w fun e w' => ∃ x : Int, e = .returned (.int .i64 x) ∧ Beside T0 Lo0 n0 (L U) U x ∧ Below w.heap.size w w' :=
  glast 0 (.inl rfl) w hG hU hm n0 T0 Lo0 (.inl ⟨rfl, rfl, rfl, rfl⟩) hn hT hLo

theorem glast1 {G m n0 n1 U : Nat} {L : Nat → Nat} {T0 Lo0 Hi0 T1 Lo1 Hi1 : Nat → Int} (w : World) (hG : Graph w G m L n0 n1 T0 Lo0 Hi0 T1 Lo1 Hi1) (hU : U < m) (hm : m ≤ 1048576)
    (hn : n1 ≤ 2097152) (hT : ∀ i j, i < j → j < n1 → T1 i < T1 j) (hLo : ∀ i, i < n1 → 1 ≤ Lo1 i ∧ Lo1 i ≤ 1048576) :
    Calls Try.prog 11 #[.pointer (some ⟨G, 0, none⟩), .int .i64 1, .int .i64 U] w fun e w' => ∃ x : Int, e = .returned (.int .i64 x) ∧ Beside T1 Lo1 n1 (L U) U x ∧ Below w.heap.size w w' :=
  glast 1 (.inr rfl) w hG hU hm n1 T1 Lo1 (.inr ⟨rfl, rfl, rfl, rfl⟩) hn hT hLo

theorem choose_rows {w : World} {m N : Nat} {L : Nat → Nat} {F : Nat → Value} (h : ∀ r, r < m → Good w N (F r) (L r)) : ∃ (A : Nat → Option Addr) (C : Nat → Nat), ∀ r, r < m → F r = .slice (A r) (L r) (C r) ∧ StepRow w (A r) (L r) := by
  have key : ∀ r, ∃ x : Option Addr × Nat, r < m → F r = .slice x.1 (L r) x.2 ∧ StepRow w x.1 (L r) := by
    intro r
    by_cases hr : r < m
    · obtain ⟨a, c, h1, h2⟩ := (h r hr).row
      exact ⟨(a, c), fun _ => ⟨h1, h2⟩⟩
    · exact ⟨(none, 0), fun h' => absurd h' hr⟩
  exact ⟨fun r => (Classical.choose (key r)).1, fun r => (Classical.choose (key r)).2, fun r hr => Classical.choose_spec (key r) hr⟩
end Go.Proofs.Qxb6613311a
