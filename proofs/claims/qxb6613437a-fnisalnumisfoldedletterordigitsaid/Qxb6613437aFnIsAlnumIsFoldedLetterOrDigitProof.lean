/-
  Proof of 'Rows.FnIsAlnumIsFoldedLetterOrDigitSaid': the frame is the guide's shell for this function; the walk is filled in by hand over contracts of 'isAlnum' and 'ZZisAlnum'.
-/
import Derived.Test.Qxb6613437aRows
import Derived.WalkKit
import Derived.ProofKit
import Derived.OpenShut
import Derived.ShutString
import Derived.Test.Qxb6613437aPlain
namespace Go.Proofs.Qxb6613437a.fnIsAlnumIsFoldedLetterOrDigit
open Go.ChangeShapes Go.WideShapes Go.ChangeAt Go.RowKit
open Go.ChangeMaps (open_string shut_string)
set_option linter.unusedVariables false      -- a walk need not use every 'w<i>' (that an integer argument fits its kind)

theorem own : ownKnob Try.prog.godebug = none := by kernel_rfl

/-! ### STEP 1: THE WALK: the Go text returns true. 'Grown w w'': the world has at most new blocks (Derived/RowKit3.lean). Part the cases AHEAD of 'go_enter' where a test parts the walk; take each callee by a contract of your own. -/
theorem al_of (x : Int) (w : World) (b : Bool) (hb0 : alB x = b) :
    Calls Try.prog 5 #[.int .i32 x] w fun e w' => e = .returned (.bool b) ∧ w' = w := by
  have HB : Hid (alB x = b) := hb0
  clear hb0
  rcases (show x < 48 ∨ (48 ≤ x ∧ x ≤ 57) ∨ (58 ≤ x ∧ x ≤ 64) ∨ (65 ≤ x ∧ x ≤ 90) ∨ (91 ≤ x ∧ x ≤ 96) ∨ (97 ≤ x ∧ x ≤ 122) ∨ 123 ≤ x from by omega) with h | ⟨h, h'⟩ | ⟨h, h'⟩ | ⟨h, h'⟩ | ⟨h, h'⟩ | ⟨h, h'⟩ | h
  all_goals
    go_enter Try.func5, Try.ntmps5
    go_wp2
    go_ret
    refine ⟨?_, rfl⟩
    have hb := HB.out
    unfold alB at hb
    first
      | (have hb' : b = true := by rw [← hb]; exact decide_eq_true (by omega)
         subst hb'; simp; try omega)
      | (have hb' : b = false := by rw [← hb]; exact decide_eq_false (by omega)
         subst hb'; simp; try omega)

theorem zz_of (x : Int) (w : World) (b : Bool) (hb0 : alB x = b) :
    Calls Try.prog 4 #[.int .i32 x] w fun e w' => e = .returned (.bool b) ∧ w' = w := by
  have HB : Hid (alB x = b) := hb0
  clear hb0
  go_enter Try.func4, Try.ntmps4
  go_wp2_with (go_at_call 5; refine (al_of _ _ b HB.out).mono ?_; rintro e w' ⟨rfl, rfl⟩)
  go_ret
  exact ⟨rfl, rfl⟩

theorem walk (a0 : Int) (w0 : (Lit.int .i32 a0).wf = true) (w : World) :
    Calls Try.prog 3 #[.int .i32 a0] w fun e w' => e = .returned (.bool true) ∧ Grown w w' := by
  have hb : -2147483648 ≤ a0 ∧ a0 ≤ 2147483647 := bounds_i32 w0
  obtain ⟨h1, h2⟩ := hb
  have eL := letter_eq a0 h1 h2
  have eD := digit_eq a0 h1 h2
  clear w0
  by_cases hl : (97 ≤ a0 ∧ a0 ≤ 122) ∨ (65 ≤ a0 ∧ a0 ≤ 90)
  · have HA : Hid (alB a0 = true) := decide_eq_true (by omega)
    have HT : Hid (alB (bits .xor .i32 a0 32) = true) := twin a0 hl
    rw [decide_eq_true hl] at eL
    have hL0 : (bits .or .i32 a0 32 - 97) % 4294967296 < 26 := of_decide_eq_true eL
    have hL : (bits .or .i32 a0 32 - 97) % 4294967296 < 26 := hL0
    have hL2 : bits .or .i32 a0 32 % 4294967296 - 97 < 26 := by omega
    have hL3 : 97 ≤ bits .or .i32 a0 32 % 4294967296 := by omega
    have hL4 : decide (bits .or .i32 a0 32 % 4294967296 - 97 < 26) = true := decide_eq_true hL2
    have hD : ¬ (a0 - 48) % 4294967296 < 10 := by omega
    clear hL0
    clear eL eD hl h1 h2
    go_enter Try.func3, Try.ntmps3
    go_wp2_with fail
    refine (zz_of _ _ true HA.out).mono ?_
    rintro e w' ⟨rfl, rfl⟩
    go_wp2_with fail
    refine (zz_of _ _ true HT.out).mono ?_
    rintro e w' ⟨rfl, rfl⟩
    go_wp2
    go_ret
    exact ⟨rfl, Grown.refl _⟩
  · have hL : ¬ (bits .or .i32 a0 32 - 97) % 4294967296 < 26 := by
      rw [decide_eq_false hl] at eL; exact of_decide_eq_false eL
    clear eL
    by_cases hd : 48 ≤ a0 ∧ a0 ≤ 57
    · have HA : Hid (alB a0 = true) := decide_eq_true (by omega)
      have hD : (a0 - 48) % 4294967296 < 10 := by
        rw [decide_eq_true hd] at eD; exact of_decide_eq_true eD
      clear eD hl h1 h2 hd
      go_enter Try.func3, Try.ntmps3
      go_wp2_with fail
      refine (zz_of _ _ true HA.out).mono ?_
      rintro e w' ⟨rfl, rfl⟩
      go_wp2
      go_ret
      exact ⟨rfl, Grown.refl _⟩
    · have HA : Hid (alB a0 = false) := decide_eq_false (by omega)
      have hD : ¬ (a0 - 48) % 4294967296 < 10 := by
        rw [decide_eq_false hd] at eD; exact of_decide_eq_false eD
      clear eD hl h1 h2 hd
      go_enter Try.func3, Try.ntmps3
      go_wp2_with fail
      refine (zz_of _ _ false HA.out).mono ?_
      rintro e w' ⟨rfl, rfl⟩
      go_wp2
      go_ret
      exact ⟨rfl, Grown.refl _⟩

/-! ### THE ROW's STEP: WRITTEN OUT: LEAVE IT -/
set_option maxRecDepth 100000 in
theorem lifted (os : Os) (started : os.Started) (H : Type) (enc : TypeId × Value → H) :
    ReturnsInHanded {} Try.checked os 3 .any (Rows.fnIsAlnumIsFoldedLetterOrDigitSpec.pre6 enc Try.prog Try.f3 Rows.fnIsAlnumIsFoldedLetterOrDigitRow.domain false) (Rows.fnIsAlnumIsFoldedLetterOrDigitSpec.post enc Try.prog Try.f3 false true false false) := by
  refine returnsInHanded_of_change (C := Try.checked) own started (by kernel_rfl) Try.func3
    (ChangeSpec.witness6 (enc := enc) (C := Try.checked) false ⟨#[], #[.int .i32 0], []⟩ 8 (by kernel_rfl) (by kernel_rfl) (by kernel_rfl) (by kernel_rfl)) ?_
  intro W base args ds gs before hval0 hW hcnd _
  have hval : ∀ (j : Nat) t v, Try.f3.params[j]? = some t → args[j]? = some v → Value.okWide Try.prog W .any base t v := hval0
  have hW' := hW
  obtain ⟨p, q, hA0, hV, rfl, hfz, hnd⟩ := hW
  have hA : DataW.TrodAll enc Try.prog W 0 (fun _ => true) true Try.f3.params.toList args.toList ds p := hA0
  rw [Try.params3] at hA hval
  obtain ⟨v0, vs0, d0, ds0, p0, q0, hargs, rfl, rfl, h0, r0⟩ := trodAll_cons hA
  obtain ⟨rfl, rfl, rfl⟩ := trodAll_nil r0
  obtain rfl : args = #[v0] := by cases args; simp_all
  obtain ⟨rfl, rfl⟩ := trodVars_none hV
  obtain ⟨a0, rfl, rfl, rfl, w0⟩ := open_int Try.underlying21 (hval 0 21 v0 rfl rfl) h0
  clear hA0 hval0
  simp only [List.append_nil] at hW'
  refine (walk a0 w0 W).mono fun e W' ⟨he, hg⟩ => ?_
  subst he
  exact ⟨_, rfl, post_of_same (pa := []) (pv := []) hW' (fun _ _ _ => (trodAll_cons_mk (shut_bool Try.underlying4 _) trodAll_mk0)) (fun sp _ => (trodAll_cons_mk (shut_int Try.underlying21 w0) trodAll_mk0)) (fun _ _ => rfl) rfl
    (hg.frame _) hg.2.1 (ok_one (by kernel_rfl) rfl (okWide_bool_mk Try.underlying4 _))⟩

theorem over : Rows.fnIsAlnumIsFoldedLetterOrDigitRow.holds Try.pinned (OpenSpec.ofChange Rows.fnIsAlnumIsFoldedLetterOrDigitSpec) :=
  OpenClaim.holds_of_wide 3 Try.f3 rfl rfl rfl rfl rfl rfl rfl ⟨rfl, rfl, rfl, rfl, rfl⟩ rfl rfl rfl rfl rfl (by kernel_rfl) Try.func3 (by kernel_rfl)
    (of_decide_eq_true (by kernel_rfl)) (by unfold Func.isWrapper; first | (rw [if_pos (by decide +kernel)]; kernel_rfl) | (rw [if_neg (by decide +kernel)]; exact ⟨rfl, rfl⟩))
    (fun os started H enc _ => lifted os started H enc)

/-- ████ THE STATEMENT ████ -/
theorem proved : Rows.FnIsAlnumIsFoldedLetterOrDigitSaid :=
  over
#print axioms proved
end Go.Proofs.Qxb6613437a.fnIsAlnumIsFoldedLetterOrDigit
