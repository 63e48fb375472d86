/-
  Seat b6613462aF: the contract of literalModel.
-/
import Derived.Test.Qxb6613462aFmtC
namespace Go.Proofs.Qxb6613462aFmt
open Go.ChangeShapes Go.WideShapes Go.ChangeAt Go.RowKit
open Go.Extern.Stop Go.Stop Go.Extern
set_option linter.unusedVariables false

theorem size5 (w : World) : (Go.sizeOf 5).run Tryf.prog w = .ok 1 w := by kernel_rfl

theorem slice_lh (base : Option Addr) (len cap : Nat) (l h : Nat) (H : Int) (hH : H = (h : Int)) (hlh : l ≤ h) (hh : h ≤ cap) :
    ∃ A2, ∀ W, (Instr.slice 22 (.slice base len cap) (some (.int .i64 (l : Int))) (some (.int .i64 H)) none).run Tryf.prog W = .ok (.slice A2 (h - l) (cap - l)) W := by
  subst hH
  have ht' : Tryf.prog.underlying 22 = some (.slice (Tryf.prog.elem 22)) := by simp [Program.elem, Tryf.underlying22]
  have he : Tryf.prog.elem 22 = 5 := by simp [Program.elem, Tryf.underlying22]
  refine ⟨if cap = l then base else base.map (·.add (l * 1)), fun W => ?_⟩
  rw [run_slice_lh W 22 _ _ _ ht' .i64 .i64 _ _ (by omega) (by omega) (by omega), he, size5]
  simp [Result.andThen, sliced]

theorem conv_empty (A : Option Addr) (c : Nat) (W : World) : (convert 22 9 (.slice A 0 c)).run Tryf.prog W = .ok (.string ⟨#[]⟩) W := by
  cases A with
  | none =>
    rw [run_convert_bytes_string W 22 9 5 none 0 c Tryf.underlying22 Tryf.underlying5 Tryf.underlying9]
    simp [Conv.bytesToString]
    rfl
  | some a => exact run_convert_bytes_back (P := Tryf.prog) W 22 9 5 a c [] Tryf.underlying22 Tryf.underlying5 Tryf.underlying9 (fun j hj => absurd hj (Nat.not_lt_zero _))

/-- 'string(data[p:q])'. -/
theorem cut_string (ao : Option Addr) (b o : Nat) (D : ByteArray) (p q m : Nat) (hm : m = q - p) (H : Int) (hH : H = (q : Int)) (hao : 0 < D.size → ao = some ⟨b, o, none⟩) (hpq : p ≤ q) (hq : q ≤ D.size) :
    ∃ A2, (∀ W, (Instr.slice 22 (.slice ao D.size D.size) (some (.int .i64 (p : Int))) (some (.int .i64 H)) none).run Tryf.prog W = .ok (.slice A2 m (D.size - p)) W) ∧
      ∀ W, Lib.Bytes W b o D → (convert 22 9 (.slice A2 m (D.size - p))).run Tryf.prog W = .ok (.string (D.extract p q)) W := by
  subst hm
  by_cases h : p < q
  · subst hH
    obtain rfl := hao (by omega)
    refine ⟨some ⟨b, o + p, none⟩, fun W => Lib.run_slice_window (P := Tryf.prog) W 22 5 Tryf.underlying22 size5 b o D.size D.size p q h hq, fun W hW => ?_⟩
    have := Lib.run_convert_window (P := Tryf.prog) W 22 5 9 Tryf.underlying22 Tryf.underlying5 Tryf.underlying9 b o D hW p (q - p) (D.size - p) (by omega)
    rw [show p + (q - p) = q by omega] at this
    exact this
  · obtain rfl : p = q := by omega
    obtain ⟨A2, h2⟩ := slice_lh ao D.size D.size p p H hH (Nat.le_refl _) hq
    refine ⟨A2, h2, fun W _ => ?_⟩
    rw [Nat.sub_self, conv_empty]
    congr 2
    apply ba_ext
    rw [Lib.extract_data]
    simp

set_option maxHeartbeats 1600000 in
theorem model_ok (ao : Option Addr) (b o p : Nat) (D s : ByteArray) (w : World) (hn : D.size ≤ 1048576) (hs : s.size ≤ 1048576) (hao : 0 < D.size → ao = some ⟨b, o, none⟩) (hD : Lib.Bytes w b o D)
    (hSt : Stops (gOf D) D.size p (gOf s) s.size s.size) :
    Calls Tryf.prog 11 #[.slice ao D.size D.size, .int .i64 p, .string s, .bool true, .int .i64 ((p : Int) + (s.size : Int))] w fun e w' => e = .returned (.bool true) ∧ Below w.heap.size w w' := by
  obtain ⟨_, h2, h3, _⟩ := hSt
  obtain ⟨A2, hsl, hcv⟩ := cut_string ao b o D p (p + s.size) s.size (by omega) ((p : Int) + (s.size : Int)) (by omega) hao (by omega) h2
  have hcv' := hcv w hD
  have hx : D.extract p (p + s.size) = s := (ext_eq D s p s.size h2 (Nat.le_refl _) h3).trans (ext_all s)
  rw [hx] at hcv'
  have hg : (s.size : Int) ≤ (D.size : Int) - p := by omega
  clear hcv hD h3 hx
  go_enter Tryf.func11, Tryf.ntmps11
  go_wp2
  go_ret
  exact ⟨by simp, Below.refl _ _⟩

set_option maxHeartbeats 1600000 in
/-- The scanner failed: k bytes agree. -/
theorem model_no (ao : Option Addr) (b o p k : Nat) (D s : ByteArray) (w : World) (hn : D.size ≤ 1048576) (hs : s.size ≤ 1048576) (hao : 0 < D.size → ao = some ⟨b, o, none⟩) (hD : Lib.Bytes w b o D)
    (hk : k < s.size) (hSt : Stops (gOf D) D.size p (gOf s) s.size k) :
    Calls Tryf.prog 11 #[.slice ao D.size D.size, .int .i64 p, .string s, .bool false, .int .i64 ((p : Int) + (k : Int))] w fun e w' => e = .returned (.bool true) ∧ Below w.heap.size w w' := by
  obtain ⟨_, h2, h3, h4⟩ := hSt
  have H4 := (show Hid (p + k = D.size ∨ (p + k < D.size ∧ gOf D (p + k) ≠ gOf s k)) from h4 hk)
  clear h4
  obtain ⟨B2, hslB, hcvB⟩ := cut_string ao b o D p (p + k) k (by omega) ((p : Int) + (k : Int)) (by omega) hao (by omega) h2
  have hxB : D.extract p (p + k) = s.extract 0 k := ext_eq D s p k h2 (by omega) h3
  rw [hxB] at hcvB
  have hcvB' : ∀ q, (convert 22 9 (.slice B2 k (D.size - p))).run Tryf.prog (w.drewN q) = .ok (.string (s.extract 0 k)) (w.drewN q) := fun q => hcvB _ (hD.drewN q)
  have hcvB0 := hcvB w hD
  have hks : (k : Int) < s.size := by omega
  have hks2 : ¬ (s.size : Int) ≤ k := by omega
  have hk0 : (0 : Int) ≤ k := by omega
  have hpk : ((p : Int) + k) ≤ D.size := by omega
  have hkp : (p : Int) + k - p = k := by omega
  have hgk := gOf_at s k hk
  have HG := (show Hid (gOf s k = ((s[k]'hk).toNat : Int)) from hgk)
  have HD := (show Hid (Lib.Bytes w b o D) from hD)
  clear hgk
  clear hcvB hxB h3
  by_cases hg : (s.size : Int) ≤ (D.size : Int) - p
  · obtain ⟨A2, hsl, hcv⟩ := cut_string ao b o D p (p + s.size) s.size (by omega) ((p : Int) + (s.size : Int)) (by omega) hao (by omega) (by omega)
    have hcv' := hcv w hD
    have hne : D.extract p (p + s.size) ≠ s := by
      rcases H4.out with h | ⟨_, h⟩
      · omega
      · exact ext_ne D s p k (by omega) hk h
    have hne2 : ((D.extract p (p + s.size)).toList == s.toList) = false := by
      rw [beq_eq_false_iff_ne]
      intro e
      apply hne
      apply ba_ext
      rw [Go.ByteArray.toList_eq, Go.ByteArray.toList_eq] at e
      exact e
    clear hcv hD hne
    go_enter Tryf.func11, Tryf.ntmps11
    go_wp2
    go_quiet (fail)
    go_wp2
    rcases H4.out with h | ⟨h, h'⟩
    · have he : (((p : Int) + k) == (D.size : Int)) = true := by simp; omega
      go_quiet (fail)
      go_wp2
      go_ret
      first
        | exact ⟨by simp, below_drewN (Below.refl _ _) _⟩
        | exact ⟨by simp, below_drewN (below_drewN (Below.refl _ _) _) _⟩
    · have he : (((p : Int) + k) == (D.size : Int)) = false := by simp; omega
      have hpk2 : (p : Int) + k < D.size := by omega
      obtain rfl := hao (by omega)
      have hdc : w.cell? ⟨b, o + (p + k), none⟩ = some (.int .u8 (((D[p + k]'h).toNat : Nat) : Int)) := HD.out (p + k) h
      have hb : ((((D[p + k]'h).toNat : Nat) : Int) != ((s[k]'hk).toNat : Int)) = true := by
        rw [← HG.out, ← gOf_at D (p + k) h]; simp [h']
      go_quiet (fail)
      go_wp2
      go_ret
      first
        | exact ⟨by simp, below_drewN (Below.refl _ _) _⟩
        | exact ⟨by simp, below_drewN (below_drewN (Below.refl _ _) _) _⟩
  · have hg' : decide ((s.size : Int) ≤ (D.size : Int) - p) = false := decide_eq_false hg
    clear hD
    go_enter Tryf.func11, Tryf.ntmps11
    go_wp2
    go_quiet (fail)
    go_wp2
    rcases H4.out with h | ⟨h, h'⟩
    · have he : (((p : Int) + k) == (D.size : Int)) = true := by simp; omega
      go_quiet (fail)
      go_wp2
      go_ret
      first
        | exact ⟨by simp, below_drewN (Below.refl _ _) _⟩
        | exact ⟨by simp, below_drewN (below_drewN (Below.refl _ _) _) _⟩
    · have he : (((p : Int) + k) == (D.size : Int)) = false := by simp; omega
      have hpk2 : (p : Int) + k < D.size := by omega
      obtain rfl := hao (by omega)
      have hdc : w.cell? ⟨b, o + (p + k), none⟩ = some (.int .u8 (((D[p + k]'h).toNat : Nat) : Int)) := HD.out (p + k) h
      have hb : ((((D[p + k]'h).toNat : Nat) : Int) != ((s[k]'hk).toNat : Int)) = true := by
        rw [← HG.out, ← gOf_at D (p + k) h]; simp [h']
      go_quiet (fail)
      go_wp2
      go_ret
      first
        | exact ⟨by simp, below_drewN (Below.refl _ _) _⟩
        | exact ⟨by simp, below_drewN (below_drewN (Below.refl _ _) _) _⟩
end Go.Proofs.Qxb6613462aFmt
