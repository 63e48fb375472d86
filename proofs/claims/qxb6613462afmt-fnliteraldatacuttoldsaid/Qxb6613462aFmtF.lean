/-
  Seat b6613462aF: the walk of FnLiteralWordCut.
-/
import Derived.Test.Qxb6613462aFmtE
namespace Go.Proofs.Qxb6613462aFmt
open Go.ChangeShapes Go.WideShapes Go.ChangeAt Go.RowKit
open Go.Extern.Stop Go.Stop Go.Extern
set_option linter.unusedVariables false

theorem hd {p : Prop} (h : p) : Hid p := h

theorem newb {w : World} {o : Obj} : (w.alloc o).heap[w.heap.size]? = some o := Deep.blk_alloc_new _ _

theorem model_ok' (ao : Option Addr) (b o p : Nat) (D s : ByteArray) (w : World) (P : Int) (hn : D.size ≤ 1048576) (hs : s.size ≤ 1048576) (hao : 0 < D.size → ao = some ⟨b, o, none⟩) (hD : Lib.Bytes w b o D)
    (hSt : Stops (gOf D) D.size p (gOf s) s.size s.size) (hP : P = (p : Int) + (s.size : Int)) :
    Calls Tryf.prog 11 #[.slice ao D.size D.size, .int .i64 p, .string s, .bool true, .int .i64 P] w fun e w' => e = .returned (.bool true) ∧ Below w.heap.size w w' := by
  subst hP
  exact model_ok ao b o p D s w hn hs hao hD hSt

theorem model_no' (ao : Option Addr) (b o p k : Nat) (D s : ByteArray) (w : World) (P : Int) (hn : D.size ≤ 1048576) (hs : s.size ≤ 1048576) (hao : 0 < D.size → ao = some ⟨b, o, none⟩) (hD : Lib.Bytes w b o D)
    (hk : k < s.size) (hSt : Stops (gOf D) D.size p (gOf s) s.size k) (hP : P = (p : Int) + (k : Int)) :
    Calls Tryf.prog 11 #[.slice ao D.size D.size, .int .i64 p, .string s, .bool false, .int .i64 P] w fun e w' => e = .returned (.bool true) ∧ Below w.heap.size w w' := by
  subst hP
  exact model_no ao b o p k D s w hn hs hao hD hk hSt

set_option maxHeartbeats 1600000 in
set_option maxRecDepth 100000 in
theorem early3 (ao : Option Addr) (n c : Nat) (v u : Int) (s : ByteArray) (w : World) (hs : s.size ≤ maxLen)
    (h : ¬ (n ≤ 524288 ∧ s.size ≤ 524288 ∧ 0 ≤ v ∧ v ≤ n ∧ 0 ≤ u ∧ u ≤ s.size)) :
    Calls Tryf.prog 3 #[.slice ao n c, .int .i64 v, .string s, .int .i64 u] w fun e w' => e = .returned (.bool true) ∧ Below w.heap.size w w' := by
  have H := (show Hid (¬ (n ≤ 524288 ∧ s.size ≤ 524288 ∧ 0 ≤ v ∧ v ≤ n ∧ 0 ≤ u ∧ u ≤ s.size)) from h)
  clear h
  go_enter Tryf.func3, Tryf.ntmps3
  go_wp2_with fail
  refine (bytesW_any ao n c v u s _ hs 5 (.inl rfl)).mono ?_
  rintro e w ⟨he, rfl⟩
  rcases he with rfl | ⟨rfl, h1, h2⟩
  · go_wp2
    go_ret
    exact ⟨rfl, Below.refl _ _⟩
  · by_cases g1 : 524288 < n
    · go_wp2
      go_ret
      exact ⟨rfl, Below.refl _ _⟩
    · by_cases g2 : 524288 < s.size
      · go_wp2
        go_ret
        exact ⟨rfl, Below.refl _ _⟩
      · by_cases g3 : v < 0
        · go_wp2
          go_ret
          exact ⟨rfl, Below.refl _ _⟩
        · by_cases g4 : (n : Int) < v
          · go_wp2
            go_ret
            exact ⟨rfl, Below.refl _ _⟩
          · by_cases g5 : u < 0
            · go_wp2
              go_ret
              exact ⟨rfl, Below.refl _ _⟩
            · by_cases g6 : (s.size : Int) < u
              · go_wp2
                go_ret
                exact ⟨rfl, Below.refl _ _⟩
              · exact absurd ⟨by omega, by omega, by omega, by omega, by omega, by omega⟩ H.out

set_option maxHeartbeats 1600000 in
set_option maxRecDepth 100000 in
theorem early4 (ao : Option Addr) (n c : Nat) (v u : Int) (s : ByteArray) (w : World) (hs : s.size ≤ maxLen)
    (h : ¬ (n ≤ 524288 ∧ s.size ≤ 524288 ∧ 0 ≤ v ∧ v ≤ n ∧ v ≤ u ∧ u ≤ n)) :
    Calls Tryf.prog 4 #[.slice ao n c, .int .i64 v, .string s, .int .i64 u] w fun e w' => e = .returned (.bool true) ∧ Below w.heap.size w w' := by
  have H := (show Hid (¬ (n ≤ 524288 ∧ s.size ≤ 524288 ∧ 0 ≤ v ∧ v ≤ n ∧ v ≤ u ∧ u ≤ n)) from h)
  clear h
  go_enter Tryf.func4, Tryf.ntmps4
  go_wp2_with fail
  refine (bytesW_any ao n c v u s _ hs 12 (.inr rfl)).mono ?_
  rintro e w ⟨he, rfl⟩
  rcases he with rfl | ⟨rfl, h1, h2⟩
  · go_wp2
    go_ret
    exact ⟨rfl, Below.refl _ _⟩
  · by_cases g1 : 524288 < n
    · go_wp2
      go_ret
      exact ⟨rfl, Below.refl _ _⟩
    · by_cases g2 : 524288 < s.size
      · go_wp2
        go_ret
        exact ⟨rfl, Below.refl _ _⟩
      · by_cases g3 : v < 0
        · go_wp2
          go_ret
          exact ⟨rfl, Below.refl _ _⟩
        · by_cases g4 : (n : Int) < v
          · go_wp2
            go_ret
            exact ⟨rfl, Below.refl _ _⟩
          · by_cases g5 : u < v
            · go_wp2
              go_ret
              exact ⟨rfl, Below.refl _ _⟩
            · by_cases g6 : (n : Int) < u
              · go_wp2
                go_ret
                exact ⟨rfl, Below.refl _ _⟩
              · exact absurd ⟨by omega, by omega, by omega, by omega, by omega, by omega⟩ H.out

set_option maxHeartbeats 4000000 in
set_option maxRecDepth 100000 in
theorem word_in (ao : Option Addr) (c p cut : Nat) (D s : ByteArray) (w : World) (a : Addr) (st : ByteArray) (hD : D.size ≤ 524288) (hs : s.size ≤ 524288) (hp : p ≤ D.size) (hc : cut ≤ s.size)
    (ha : ∀ x, ao = some x → 0 < D.size → x.spot = none ∧ x.block < w.heap.size ∧ ∀ i, i < D.size → w.cell? ⟨x.block, x.off + i, none⟩ = some (.int .u8 (gOf D i)))
    (h0 : ao = none → D.size = 0) (hS : Sent w a st) :
    Calls Tryf.prog 3 #[.slice ao D.size c, .int .i64 p, .string s, .int .i64 cut] w fun e w' => e = .returned (.bool true) ∧ Below w.heap.size w w' := by
  have C := hd (clone_any ao D.size c w (gOf D) (by omega) ha h0)
  have HS := hd hS
  clear ha h0 hS
  have hp0 : (0 : Int) ≤ p := by omega
  have hp1 : (p : Int) ≤ D.size := by omega
  have hc0 : (0 : Int) ≤ cut := by omega
  have hc1 : (cut : Int) ≤ s.size := by omega
  go_enter Tryf.func3, Tryf.ntmps3
  go_wp2_with fail
  refine (bytesW_any ao D.size c p cut s _ (by unfold maxLen; omega) 5 (.inl rfl)).mono ?_
  rintro e w ⟨he, rfl⟩
  rcases he with rfl | ⟨rfl, _, _⟩
  · go_wp2
    go_ret
    exact ⟨rfl, Below.refl _ _⟩
  · go_wp2_with fail
    refine C.out.mono ?_
    rintro e w1 ⟨a', rfl, hnil, hsome, hcell, hbel⟩
    have HA : Hid (0 < D.size → a' = some ⟨w.heap.size, 0, none⟩) := by
      intro h1
      cases a' with
      | none => have := hnil rfl; omega
      | some x => have := hsome x rfl; rw [this.1]
    have E1 : Hid (Env w w1 D a st) := by
      refine ⟨hbel, fun i hi => ?_, ⟨(hbel.cell (p := ⟨0, 0, none⟩) (lt_of_cell HS.out.1)).trans HS.out.1, (hbel.cell (lt_of_cell HS.out.2)).trans HS.out.2⟩, fun h1 => ?_, lt_of_cell HS.out.1, lt_of_cell HS.out.2⟩
      · rw [Nat.zero_add, ← gOf_at D i hi]; exact hcell i hi
      · cases a' with
        | none => have := hnil rfl; omega
        | some x => exact (hsome x rfl).2
    clear hnil hsome hcell hbel C
    go_wp2_with fail
    refine (newAt_any a' D.size D.size p _).mono ?_
    rintro e w2 ⟨rfl, hw2⟩
    have HB2 : Hid (w2.heap[w1.heap.size]? = some (scan (.slice a' D.size D.size) p .nilIface)) := by rw [hw2]; exact newb
    have E2 : Hid (Env w w2 D a st) := by rw [hw2]; exact E1.out.alloc _
    clear hw2
    have hB1 : w.heap.size ≤ w1.heap.size := E1.out.bel.size
    have hBN1 := hd (fun h : 0 < D.size => Nat.ne_of_gt (E1.out.big h))
    go_wp2_with fail
    refine (lit_env a' D.size D.size p w1.heap.size w w2 D s a st E2.out HB2.out hB1 hBN1.out (Nat.le_refl _) hD hs hp HA.out).mono ?_
    rintro e w3 ⟨k, hk, hE3, hsz3, hcase⟩
    have HK := hd hk
    have E3 := hd hE3
    have hBB : w1.heap.size < w2.heap.size := lt_block HB2.out
    clear hk hE3 E2 HB2
    rcases hcase with ⟨hkL, rfl, hB3⟩ | ⟨hkL, N, rfl, hB3⟩
    case' inl => subst hkL
    all_goals
      have hp3 := cell_block hB3 1
      have he3 := cell_block hB3 5
      simp at hp3 he3
      clear hB3
      go_wp2_with fail
      refine (pos_any w1.heap.size _ w3 hp3).mono ?_
      rintro e w3 ⟨rfl, rfl⟩
      go_wp2_with fail
      refine (err_any w1.heap.size _ w3 he3).mono ?_
      rintro e w3 ⟨rfl, rfl⟩
      clear hp3 he3
      go_wp2_with fail
      refine (newAt_any a' D.size D.size p _).mono ?_
      rintro e w4 ⟨rfl, hw4⟩
      have HB4 : Hid (w4.heap[w3.heap.size]? = some (scan (.slice a' D.size D.size) p .nilIface)) := by rw [hw4]; exact newb
      have E4 : Hid (Env w w4 D a st) := by rw [hw4]; exact E3.out.alloc _
      have hB3' : w.heap.size ≤ w3.heap.size := E3.out.bel.size
      have hBN3 := hd (fun h : 0 < D.size => Nat.ne_of_gt (E3.out.big h))
      have hes : (s.extract 0 cut).size = cut := by simp [ByteArray.size_extract]; omega
      have hes2 : (s.extract cut s.size).size = s.size - cut := by simp [ByteArray.size_extract]
      have HE1 := hd hes
      have HE2 := hd hes2
      clear hw4 hes hes2
      go_wp2_with fail
      refine (lit_env a' D.size D.size p w3.heap.size w w4 D (s.extract 0 cut) a st E4.out HB4.out hB3' hBN3.out (Nat.le_refl _) hD (by rw [HE1.out]; omega) hp HA.out).mono ?_
      rintro e w5 ⟨k1, hk1, hE5, hsz5, hcase1⟩
      rw [HE1.out] at hk1 hcase1
      have HK1 := hd hk1
      have E5 := hd hE5
      clear hk1 hE5 E4 HB4
      rcases hcase1 with ⟨hk1L, rfl, hB5⟩ | ⟨hk1L, N1, rfl, hB5⟩
      · subst hk1L
        have HB5 := hd hB5
        have hpc : p + k1 ≤ D.size := HK1.out.2.1
        clear hB5
        go_wp2_with fail
        refine (lit_env a' D.size D.size (p + k1) w3.heap.size w w5 D (s.extract k1 s.size) a st E5.out HB5.out hB3' hBN3.out (Nat.le_refl _) hD (by rw [HE2.out]; omega) hpc HA.out).mono ?_
        rintro e w6 ⟨k2, hk2, hE6, hsz6, hcase2⟩
        rw [HE2.out] at hk2 hcase2
        have hkk := Stops.unique HK.out (stops_second hc HK1.out hk2)
        have E6 := hd hE6
        clear hk2 hE6 E5 HB5
        rcases hcase2 with ⟨hk2L, rfl, hB6⟩ | ⟨hk2L, N2, rfl, hB6⟩
        all_goals
          first
            | (exfalso; omega)
            | (have i1 := Int.ofNat_le.2 (Nat.le_of_eq hkk)
               have i2 := Int.ofNat_le.2 (Nat.le_of_eq hkk.symm)
               have hp6 := cell_block hB6 1
               have he6 := cell_block hB6 5
               simp at hp6 he6
               clear hB6 hkk hk2L
               go_wp2_with fail
               refine (pos_any w3.heap.size _ w6 hp6).mono ?_
               rintro e w6 ⟨rfl, rfl⟩
               go_wp2_with fail
               refine (err_any w3.heap.size _ w6 he6).mono ?_
               rintro e w6 ⟨rfl, rfl⟩
               clear hp6 he6
               go_wp2_with fail
               first
                 | (have hkL' := hkL
                    refine (model_no' a' w.heap.size 0 p k D s _ _ (by omega) (by omega) HA.out E6.out.bytes hkL' HK.out (by omega)).mono ?_)
                 | (refine (model_ok' a' w.heap.size 0 p D s _ _ (by omega) (by omega) HA.out E6.out.bytes HK.out (by omega)).mono ?_)
               rintro e w7 ⟨rfl, hb7⟩
               have HB7 := hd (E6.out.bel.trans (hb7.mono E6.out.bel.size))
               clear hb7
               go_wp2
               go_ret
               exact ⟨rfl, HB7.out⟩)
      · have hkk := Stops.unique HK.out (stops_first hc HK1.out hk1L)
        first
          | (exfalso; omega)
          | (have i1 := Int.ofNat_le.2 (Nat.le_of_eq hkk)
             have i2 := Int.ofNat_le.2 (Nat.le_of_eq hkk.symm)
             have hp6 := cell_block hB5 1
             have he6 := cell_block hB5 5
             simp at hp6 he6
             clear hB5 hkk
             go_wp2_with fail
             refine (pos_any w3.heap.size _ w5 hp6).mono ?_
             rintro e w6 ⟨rfl, rfl⟩
             go_wp2_with fail
             refine (err_any w3.heap.size _ w6 he6).mono ?_
             rintro e w6 ⟨rfl, rfl⟩
             clear hp6 he6
             go_wp2_with fail
             refine (model_no' a' w.heap.size 0 p k D s _ _ (by omega) (by omega) HA.out E5.out.bytes hkL HK.out (by omega)).mono ?_
             rintro e w7 ⟨rfl, hb7⟩
             have HB7 := hd (E5.out.bel.trans (hb7.mono E5.out.bel.size))
             clear hb7
             go_wp2
             go_ret
             exact ⟨rfl, HB7.out⟩)
end Go.Proofs.Qxb6613462aFmt
