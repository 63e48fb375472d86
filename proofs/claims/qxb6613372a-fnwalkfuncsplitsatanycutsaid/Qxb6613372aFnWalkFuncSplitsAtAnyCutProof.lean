/-
  Proof of 'Rows.FnWalkFuncSplitsAtAnyCutSaid': the row, typed after the guide's shells; the walk is Qxb6613372aWS's.
-/
import Derived.Test.Qxb6613372aWS
import Derived.ShutString
import Derived.ChangeOld
import Derived.Deep.Strs
import Derived.Deep.SlicePairs
namespace Go.Proofs.Qxb6613372a.fnWalkFuncSplitsAtAnyCut
open Go.ChangeShapes Go.WideShapes Go.ChangeAt Go.RowKit
open Go.Proofs.Qxb6613372a
set_option linter.unusedVariables false

theorem own : ownKnob Try.prog.godebug = none := by kernel_rfl
theorem laidOut : laidOutB Try.prog = true := by kernel_rfl

section
variable {H : Type} {enc : TypeId × Value → H} {W : World}
theorem cells9 : Try.prog.cellsOf 9 = 1 := by kernel_rfl
theorem cells4 : Try.prog.cellsOf 4 = 1 := by kernel_rfl
theorem cells40 : Try.prog.cellsOf 40 = 2 := by kernel_rfl

theorem spot_none {a : Addr} {v : Value} (h : W.cell? (a.add 0) = some v) : ∃ b o, a = ⟨b, o, none⟩ := by
  obtain ⟨b, o, s⟩ := a
  have hs : s = none := by simpa [Addr.add] using World.cell?_spot h
  subst hs
  exact ⟨b, o, rfl⟩

theorem open_params {fuel n c : Nat} {a : Option Addr} {x : DataW H × List MemPlace} (h : DataW.trod enc Try.prog W 0 (fun _ => true) true fuel 30 [.slice a n c] = some x) :
    (a = none → n = 0) ∧ n ≤ maxLen ∧ ∃ (b o : Nat) (S : Nat → ByteArray), (0 < n → a = some ⟨b, o, none⟩) ∧ StrAt W b o n S ∧ ∀ i, i < n → (S i).size ≤ maxLen := by
  rcases Deep.open_strs Try.underlying30 Try.underlying9 cells9 h with ⟨h0, _⟩ | ⟨a', len, cap, m, S, hcs, _, hl, hm, hmm, _, hx⟩
  · simp at h0
    obtain ⟨rfl, rfl, rfl⟩ := h0
    exact ⟨fun _ => rfl, Nat.zero_le _, 0, 0, fun _ => ByteArray.empty, fun h => absurd h (Nat.lt_irrefl _), fun i hi => absurd hi (Nat.not_lt_zero _), fun i hi => absurd hi (Nat.not_lt_zero _)⟩
  · simp at hcs
    obtain ⟨rfl, rfl, rfl⟩ := hcs
    simp only [if_true] at hmm
    refine ⟨(fun h => by cases h), by omega, ?_⟩
    by_cases hn : 0 < n
    · obtain ⟨b, o, rfl⟩ := spot_none (hx 0 (by omega)).1
      refine ⟨b, o, S, fun _ => rfl, fun i hi => ?_, fun i hi => (hx i (by omega)).2⟩
      have := (hx i (by omega)).1
      rwa [add_plain] at this
    · exact ⟨0, 0, S, fun h => absurd h hn, fun i hi => by omega, fun i hi => by omega⟩

theorem open_stmts {fuel n c : Nat} {a : Option Addr} {x : DataW H × List MemPlace} (h : DataW.trod enc Try.prog W 0 (fun _ => true) true fuel 31 [.slice a n c] = some x) :
    (a = none → n = 0) ∧ n ≤ maxLen ∧ ∃ (b o : Nat) (Rt : Nat → Bool) (Nm : Nat → ByteArray), (0 < n → a = some ⟨b, o, none⟩) ∧ StmAt W b o n Rt Nm ∧ ∀ i, i < n → (Nm i).size ≤ maxLen := by
  rcases Deep.open_slice_pairs Try.underlying31 Try.underlying40 cells40 rfl rfl cells4 cells9 h with ⟨h0, _⟩ | ⟨a', len, cap, m, k, V0, V1, D0, D1, P0, P1, hcs, _, hl, hm, hmm, _, hx⟩
  · simp at h0
    obtain ⟨rfl, rfl, rfl⟩ := h0
    exact ⟨fun _ => rfl, Nat.zero_le _, 0, 0, fun _ => false, fun _ => ByteArray.empty, fun h => absurd h (Nat.lt_irrefl _), fun i hi => absurd hi (Nat.not_lt_zero _), fun i hi => absurd hi (Nat.not_lt_zero _)⟩
  · simp at hcs
    obtain ⟨rfl, rfl, rfl⟩ := hcs
    simp only [if_true] at hmm
    refine ⟨(fun h => by cases h), by omega, ?_⟩
    have each : ∀ i, i < n → ∃ q : Bool × ByteArray, W.cell? (a'.add (i * 2)) = some (.bool q.1) ∧ W.cell? (a'.add (i * 2 + 1)) = some (.string q.2) ∧ q.2.size ≤ maxLen := by
      intro i hi
      obtain ⟨h1, h2, h3, h4⟩ := hx i (by omega)
      obtain ⟨r, e1, _⟩ := DataW.trod_bool Try.underlying4 h3
      obtain ⟨s, e2, _, e3⟩ := DataW.trod_string Try.underlying9 h4
      simp at e1 e2
      rw [e1] at h1
      rw [e2] at h2
      exact ⟨(r, s), h1, h2, e3⟩
    obtain ⟨q, hq⟩ := Deep.choose_lt each
    by_cases hn : 0 < n
    · obtain ⟨b, o, rfl⟩ := spot_none (by simpa using (hq 0 hn).1)
      refine ⟨b, o, fun i => (q i).1, fun i => (q i).2, fun _ => rfl, fun i hi => ?_, fun i hi => (hq i hi).2.2⟩
      obtain ⟨h1, h2, _⟩ := hq i hi
      rw [add_plain] at h1 h2
      exact ⟨h1, h2⟩
    · exact ⟨0, 0, fun i => (q i).1, fun i => (q i).2, fun h => absurd h hn, fun i hi => by omega, fun i hi => by omega⟩
end

theorem below_of {w w' : World} (h : w.grownBy w' none) : Below w.heap.size w w' := ⟨h.os, h.tape, h.output, h.size, fun k hk => h.block k hk (by simp)⟩

set_option maxRecDepth 100000 in
theorem lifted (os : Os) (started : os.Started) (H : Type) (enc : TypeId × Value → H) :
    ReturnsInHanded {} Try.checked os 5 .any (Rows.fnWalkFuncSplitsAtAnyCutSpec.pre6 enc Try.prog Try.f5 Rows.fnWalkFuncSplitsAtAnyCutRow.domain false) (Rows.fnWalkFuncSplitsAtAnyCutSpec.post enc Try.prog Try.f5 false true false false) := by
  refine returnsInHanded_of_change (C := Try.checked) own started (by kernel_rfl) Try.func5
    (ChangeSpec.witness6 (enc := enc) (C := Try.checked) false ⟨#[], #[.slice none 0 0, .slice none 0 0, .int .i64 0], []⟩ 8 (by kernel_rfl) (by kernel_rfl) (by kernel_rfl) (by kernel_rfl)) ?_
  intro W base args ds gs before hval0 hW hcnd _
  have hval : ∀ (j : Nat) t v, Try.f5.params[j]? = some t → args[j]? = some v → Value.okWide Try.prog W .any base t v := hval0
  have hW' := hW
  obtain ⟨p, q, hA0, hV, rfl, hfz, hnd⟩ := hW
  have hA : DataW.TrodAll enc Try.prog W 0 (fun _ => true) true Try.f5.params.toList args.toList ds p := hA0
  rw [Try.params5] at hA hval
  obtain ⟨v0, vs0, d0, ds0, p0, q0, hargs, rfl, rfl, h0, r0⟩ := trodAll_cons hA
  obtain ⟨v1, vs1, d1, ds1, p1, q1, rfl, rfl, rfl, h1, r1⟩ := trodAll_cons r0
  obtain ⟨v2, vs2, d2, ds2, p2, q2, rfl, rfl, rfl, h2, r2⟩ := trodAll_cons r1
  obtain ⟨rfl, rfl, rfl⟩ := trodAll_nil r2
  obtain rfl : args = #[v0, v1, v2] := by cases args; simp_all
  obtain ⟨rfl, rfl⟩ := trodVars_none hV
  obtain ⟨a0, len0, cap0, rfl⟩ := okWide_slice Try.underlying30 (hval 0 30 v0 rfl rfl)
  obtain ⟨a1, len1, cap1, rfl⟩ := okWide_slice Try.underlying31 (hval 1 31 v1 rfl rfl)
  have k0 := h0
  have k1 := h1
  have lt0 : ∀ x ∈ p0, x.block < W.heap.size := by obtain ⟨m, hm⟩ := k0; exact DataW.trod_lt m _ _ _ hm
  have lt1 : ∀ x ∈ p1, x.block < W.heap.size := by obtain ⟨m, hm⟩ := k1; exact DataW.trod_lt m _ _ _ hm
  obtain ⟨kk, rfl, rfl, rfl, w2⟩ := open_int Try.underlying3 (hval 2 3 v2 rfl rfl) h2
  obtain ⟨fuel0, hf0⟩ := h0
  obtain ⟨fuel1, hf1⟩ := h1
  obtain ⟨z0, l0, b0, o0, S, ha0, hS, s0⟩ := open_params (by simpa [Value.cells] using hf0)
  obtain ⟨z1, l1, b1, o1, Rt, Nm, ha1, hM, s1⟩ := open_stmts (by simpa [Value.cells] using hf1)
  clear hA0 hval0
  refine (law_any a0 b0 o0 len0 cap0 S z0 ha0 hS s0 l0 a1 b1 o1 len1 cap1 Rt Nm z1 ha1 hM s1 l1 kk (bounds_i64 w2)).mono fun e W' ⟨he, hg⟩ => ?_
  subst he
  have bel := below_of hg
  exact ⟨_, rfl, _, _, _, [], _, [], hW', trodAll_mk1 (shut_bool Try.underlying4 _), (trodAll_cons_mk (Below.trod laidOut (by kernel_rfl) (of_decide_eq_true (by kernel_rfl)) k0 bel lt0) (trodAll_cons_mk (Below.trod laidOut (by kernel_rfl) (of_decide_eq_true (by kernel_rfl)) k1 bel lt1)
    (trodAll_cons_mk (shut_int Try.underlying3 w2) trodAll_mk0))), rfl, bel.frame _, fun h => by cases h⟩

theorem over : Rows.fnWalkFuncSplitsAtAnyCutRow.holds Try.pinned (OpenSpec.ofChange Rows.fnWalkFuncSplitsAtAnyCutSpec) :=
  OpenClaim.holds_of_wide 5 Try.f5 rfl rfl rfl rfl rfl rfl rfl ⟨rfl, rfl, rfl, rfl, rfl⟩ rfl rfl rfl rfl rfl (by kernel_rfl) Try.func5 (by kernel_rfl)
    (of_decide_eq_true (by kernel_rfl)) (by unfold Func.isWrapper; first | (rw [if_pos (by decide +kernel)]; kernel_rfl) | (rw [if_neg (by decide +kernel)]; exact ⟨rfl, rfl⟩))
    (fun os started H enc _ => lifted os started H enc)

theorem proved : Rows.FnWalkFuncSplitsAtAnyCutSaid := over
#print axioms proved
end Go.Proofs.Qxb6613372a.fnWalkFuncSplitsAtAnyCut
