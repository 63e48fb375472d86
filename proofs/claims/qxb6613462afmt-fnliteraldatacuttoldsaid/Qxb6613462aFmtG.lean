/-
  Seat b6613462aF: the walk of FnLiteralDataCut.
-/
import Derived.Test.Qxb6613462aFmtF
namespace Go.Proofs.Qxb6613462aFmt
open Go.ChangeShapes Go.WideShapes Go.ChangeAt Go.RowKit
open Go.Extern.Stop Go.Stop Go.Extern
set_option linter.unusedVariables false

theorem slice_h (base : Option Addr) (len cap h : Nat) (hh : h ≤ cap) (W : World) :
    (Instr.slice 22 (.slice base len cap) none (some (.int .i64 (h : Int))) none).run Tryf.prog W = .ok (.slice base h cap) W := by
  have ht' : Tryf.prog.underlying 22 = some (.slice (Tryf.prog.elem 22)) := by simp [Program.elem, Tryf.underlying22]
  have he : Tryf.prog.elem 22 = 5 := by simp [Program.elem, Tryf.underlying22]
  rw [run_slice_h W 22 _ _ _ ht' .i64 _ (by omega) (by omega), he, size5]
  have hm : base.map (fun x => x.add 0) = base := by cases base <;> simp [Addr.add]
  simp [Result.andThen, sliced, hm]

set_option maxHeartbeats 4000000 in
set_option maxRecDepth 100000 in
theorem data_in (ao : Option Addr) (c p cut : Nat) (D s : ByteArray) (w : World) (a : Addr) (st : ByteArray) (hD : D.size ≤ 524288) (hs : s.size ≤ 524288) (hp : p ≤ cut) (hc : cut ≤ D.size)
    (ha : ∀ x, ao = some x → 0 < D.size → x.spot = none ∧ x.block < w.heap.size ∧ ∀ i, i < D.size → w.cell? ⟨x.block, x.off + i, none⟩ = some (.int .u8 (gOf D i)))
    (h0 : ao = none → D.size = 0) (hS : Sent w a st) :
    Calls Tryf.prog 4 #[.slice ao D.size c, .int .i64 p, .string s, .int .i64 cut] w fun e w' => e = .returned (.bool true) ∧ Below w.heap.size w w' := by
  have C := hd (clone_any ao D.size c w (gOf D) (by omega) ha h0)
  have HS := hd hS
  clear ha h0 hS
  have hp0 : (0 : Int) ≤ p := by omega
  have hp1 : (p : Int) ≤ D.size := by omega
  have hc0 : (p : Int) ≤ cut := by omega
  have hc1 : (cut : Int) ≤ D.size := by omega
  go_enter Tryf.func4, Tryf.ntmps4
  go_wp2_with fail
  refine (bytesW_any ao D.size c p cut s _ (by unfold maxLen; omega) 12 (.inr rfl)).mono ?_
  rintro e w ⟨he, rfl⟩
  rcases he with rfl | ⟨rfl, _, _⟩
  · go_wp2
    go_ret
    exact ⟨rfl, Below.refl _ _⟩
  · go_wp2_with fail
    refine C.out.mono ?_
    rintro e w1 ⟨a', rfl, hnil, hsome, hcell, hbel⟩
    have HA : Hid (0 < D.size → a' = some ⟨w.heap.size, 0, none⟩) := by
      intro h1
      cases a' with
      | none => have := hnil rfl; omega
      | some x => have := hsome x rfl; rw [this.1]
    have E1 : Hid (Env w w1 D a st) := by
      refine ⟨hbel, fun i hi => ?_, ⟨(hbel.cell (p := ⟨0, 0, none⟩) (lt_of_cell HS.out.1)).trans HS.out.1, (hbel.cell (lt_of_cell HS.out.2)).trans HS.out.2⟩, fun h1 => ?_, lt_of_cell HS.out.1, lt_of_cell HS.out.2⟩
      · rw [Nat.zero_add, ← gOf_at D i hi]; exact hcell i hi
      · cases a' with
        | none => have := hnil rfl; omega
        | some x => exact (hsome x rfl).2
    clear hnil hsome hcell hbel C
    go_wp2_with fail
    refine (newAt_any a' D.size D.size p _).mono ?_
    rintro e w2 ⟨rfl, hw2⟩
    have HB2 : Hid (w2.heap[w1.heap.size]? = some (scan (.slice a' D.size D.size) p .nilIface)) := by rw [hw2]; exact newb
    have E2 : Hid (Env w w2 D a st) := by rw [hw2]; exact E1.out.alloc _
    clear hw2
    have hB1 : w.heap.size ≤ w1.heap.size := E1.out.bel.size
    have hBN1 := hd (fun h : 0 < D.size => Nat.ne_of_gt (E1.out.big h))
    go_wp2_with fail
    refine (lit_env a' D.size D.size p w1.heap.size w w2 D s a st E2.out HB2.out hB1 hBN1.out (Nat.le_refl _) hD hs (by omega) HA.out).mono ?_
    rintro e w3 ⟨k, hk, hE3, hsz3, hcase⟩
    have HK := hd hk
    have E3 := hd hE3
    have hBB : w1.heap.size < w2.heap.size := lt_block HB2.out
    have hpk : p + k ≤ D.size := hk.2.1
    have hkle : k ≤ s.size := hk.1
    clear hk hE3 E2 HB2
    have hslc := fun W => slice_h a' D.size D.size cut hc W
    rcases hcase with ⟨hkL, rfl, hB3⟩ | ⟨hkL, N, rfl, hB3⟩
    · subst hkL
      have hp3 := cell_block hB3 1
      have he3 := cell_block hB3 5
      simp at hp3 he3
      clear hB3
      go_wp2_with fail
      refine (pos_any w1.heap.size _ w3 hp3).mono ?_
      rintro e w3 ⟨rfl, rfl⟩
      go_wp2_with fail
      refine (err_any w1.heap.size _ w3 he3).mono ?_
      rintro e w3 ⟨rfl, rfl⟩
      clear hp3 he3
      go_wp2_with fail
      refine (newAt_any a' cut D.size p _).mono ?_
      rintro e w4 ⟨rfl, hw4⟩
      have HB4 : Hid (w4.heap[w3.heap.size]? = some (scan (.slice a' cut D.size) p .nilIface)) := by rw [hw4]; exact newb
      have E4 : Hid (Env w w4 D a st) := by rw [hw4]; exact E3.out.alloc _
      have hB3' : w.heap.size ≤ w3.heap.size := E3.out.bel.size
      have hBN3 := hd (fun h : 0 < D.size => Nat.ne_of_gt (E3.out.big h))
      clear hw4 hslc
      go_wp2_with fail
      refine (lit_env a' cut D.size p w3.heap.size w w4 D s a st E4.out HB4.out hB3' hBN3.out hc hD hs hp (fun h => HA.out (by omega))).mono ?_
      rintro e w5 ⟨k1, hk1, hE5, hsz5, hcase1⟩
      have hkk := Stops.unique hk1 (stops_cut HK.out hp hc)
      have E5 := hd hE5
      clear hk1 hE5 E4 HB4
      obtain ⟨A2, hsl, hcv⟩ := cut_string a' w.heap.size 0 D p (p + s.size) s.size (by omega) ((p : Int) + (s.size : Int)) (by omega) HA.out (by omega) hpk
      have hcv' := hcv w5 E5.out.bytes
      rw [(ext_eq D s p s.size hpk (Nat.le_refl _) HK.out.2.2.1).trans (ext_all s)] at hcv'
      have hg : (s.size : Int) ≤ (D.size : Int) - p := by omega
      clear hcv
      by_cases hcp : cut < p + s.size
      · have hcp' : (cut : Int) < (p : Int) + s.size := by omega
        rcases hcase1 with ⟨hk1L, rfl, hB5⟩ | ⟨hk1L, N1, rfl, hB5⟩
        all_goals
          first
            | (exfalso; omega)
            | (have hp6 := cell_block hB5 1
               have he6 := cell_block hB5 5
               simp at hp6 he6
               clear hB5
               have i1 : (p : Int) + (k1 : Int) ≤ (cut : Int) := by omega
               have i2 : (cut : Int) ≤ (p : Int) + (k1 : Int) := by omega
               have HKK := hd hkk
               have HK1 := hd hk1L
               clear hkk hk1L
               go_wp2_with fail
               refine (pos_any w3.heap.size _ w5 hp6).mono ?_
               rintro e w5 ⟨rfl, rfl⟩
               go_wp2_with fail
               refine (err_any w3.heap.size _ w5 he6).mono ?_
               rintro e w5 ⟨rfl, rfl⟩
               clear hp6 he6
               go_wp2
               go_ret
               exact ⟨by simp, E5.out.bel⟩)
      · have hcp' : (p : Int) + s.size ≤ cut := by omega
        rcases hcase1 with ⟨hk1L, rfl, hB5⟩ | ⟨hk1L, N1, rfl, hB5⟩
        all_goals
          first
            | (exfalso; omega)
            | (have hp6 := cell_block hB5 1
               have he6 := cell_block hB5 5
               simp at hp6 he6
               clear hB5
               have i1 : (p : Int) + (k1 : Int) ≤ (p : Int) + (s.size : Int) := by omega
               have i2 : (p : Int) + (s.size : Int) ≤ (p : Int) + (k1 : Int) := by omega
               have HKK := hd hkk
               have HK1 := hd hk1L
               clear hkk hk1L
               go_wp2_with fail
               refine (pos_any w3.heap.size _ w5 hp6).mono ?_
               rintro e w5 ⟨rfl, rfl⟩
               go_wp2_with fail
               refine (err_any w3.heap.size _ w5 he6).mono ?_
               rintro e w5 ⟨rfl, rfl⟩
               clear hp6 he6
               go_wp2
               go_ret
               exact ⟨by simp, E5.out.bel⟩)
    · have hp3 := cell_block hB3 1
      have he3 := cell_block hB3 5
      simp at hp3 he3
      clear hB3
      go_wp2_with fail
      refine (pos_any w1.heap.size _ w3 hp3).mono ?_
      rintro e w3 ⟨rfl, rfl⟩
      go_wp2_with fail
      refine (err_any w1.heap.size _ w3 he3).mono ?_
      rintro e w3 ⟨rfl, rfl⟩
      clear hp3 he3
      go_wp2_with fail
      refine (newAt_any a' cut D.size p _).mono ?_
      rintro e w4 ⟨rfl, hw4⟩
      have HB4 : Hid (w4.heap[w3.heap.size]? = some (scan (.slice a' cut D.size) p .nilIface)) := by rw [hw4]; exact newb
      have E4 : Hid (Env w w4 D a st) := by rw [hw4]; exact E3.out.alloc _
      have hB3' : w.heap.size ≤ w3.heap.size := E3.out.bel.size
      have hBN3 := hd (fun h : 0 < D.size => Nat.ne_of_gt (E3.out.big h))
      clear hw4 hslc
      go_wp2_with fail
      refine (lit_env a' cut D.size p w3.heap.size w w4 D s a st E4.out HB4.out hB3' hBN3.out hc hD hs hp (fun h => HA.out (by omega))).mono ?_
      rintro e w5 ⟨k1, hk1, hE5, hsz5, hcase1⟩
      have hkk := Stops.unique hk1 (stops_cut HK.out hp hc)
      have E5 := hd hE5
      clear hk1 hE5 E4 HB4
      have H4 := hd (HK.out.2.2.2 hkL)
      by_cases hg : (s.size : Int) ≤ (D.size : Int) - p
      · obtain ⟨A2, hsl, hcv⟩ := cut_string a' w.heap.size 0 D p (p + s.size) s.size (by omega) ((p : Int) + (s.size : Int)) (by omega) HA.out (by omega) (by omega)
        have hcv' := hcv w5 E5.out.bytes
        have hne : D.extract p (p + s.size) ≠ s := by
          rcases H4.out with h | ⟨_, h⟩
          · omega
          · exact ext_ne D s p k (by omega) hkL h
        have hne2 : ((D.extract p (p + s.size)).toList == s.toList) = false := by
          rw [beq_eq_false_iff_ne]
          intro e
          apply hne
          apply ba_ext
          rw [Go.ByteArray.toList_eq, Go.ByteArray.toList_eq] at e
          exact e
        clear hcv hne
        by_cases hcp : cut < p + k
        · have hcp' : (cut : Int) < (p : Int) + k := by omega
          rcases hcase1 with ⟨hk1L, rfl, hB5⟩ | ⟨hk1L, N1, rfl, hB5⟩
          all_goals
            first
              | (exfalso; omega)
              | (have hp6 := cell_block hB5 1
                 have he6 := cell_block hB5 5
                 simp at hp6 he6
                 clear hB5
                 have i1 : (p : Int) + (k1 : Int) ≤ (cut : Int) := by omega
                 have i2 : (cut : Int) ≤ (p : Int) + (k1 : Int) := by omega
                 have HKK := hd hkk
                 have HK1 := hd hk1L
                 clear hkk hk1L
                 go_wp2_with fail
                 refine (pos_any w3.heap.size _ w5 hp6).mono ?_
                 rintro e w5 ⟨rfl, rfl⟩
                 go_wp2_with fail
                 refine (err_any w3.heap.size _ w5 he6).mono ?_
                 rintro e w5 ⟨rfl, rfl⟩
                 clear hp6 he6
                 go_wp2
                 go_ret
                 exact ⟨by simp, E5.out.bel⟩)
        · have hcp' : (p : Int) + k ≤ cut := by omega
          rcases hcase1 with ⟨hk1L, rfl, hB5⟩ | ⟨hk1L, N1, rfl, hB5⟩
          all_goals
            first
              | (exfalso; omega)
              | (have hp6 := cell_block hB5 1
                 have he6 := cell_block hB5 5
                 simp at hp6 he6
                 clear hB5
                 have i1 : (p : Int) + (k1 : Int) ≤ (p : Int) + (k : Int) := by omega
                 have i2 : (p : Int) + (k : Int) ≤ (p : Int) + (k1 : Int) := by omega
                 have HKK := hd hkk
                 have HK1 := hd hk1L
                 clear hkk hk1L
                 go_wp2_with fail
                 refine (pos_any w3.heap.size _ w5 hp6).mono ?_
                 rintro e w5 ⟨rfl, rfl⟩
                 go_wp2_with fail
                 refine (err_any w3.heap.size _ w5 he6).mono ?_
                 rintro e w5 ⟨rfl, rfl⟩
                 clear hp6 he6
                 go_wp2
                 go_ret
                 exact ⟨by simp, E5.out.bel⟩)
      · have hg' : decide ((s.size : Int) ≤ (D.size : Int) - p) = false := decide_eq_false hg
        by_cases hcp : cut < p + k
        · have hcp' : (cut : Int) < (p : Int) + k := by omega
          rcases hcase1 with ⟨hk1L, rfl, hB5⟩ | ⟨hk1L, N1, rfl, hB5⟩
          all_goals
            first
              | (exfalso; omega)
              | (have hp6 := cell_block hB5 1
                 have he6 := cell_block hB5 5
                 simp at hp6 he6
                 clear hB5
                 have i1 : (p : Int) + (k1 : Int) ≤ (cut : Int) := by omega
                 have i2 : (cut : Int) ≤ (p : Int) + (k1 : Int) := by omega
                 have HKK := hd hkk
                 have HK1 := hd hk1L
                 clear hkk hk1L
                 go_wp2_with fail
                 refine (pos_any w3.heap.size _ w5 hp6).mono ?_
                 rintro e w5 ⟨rfl, rfl⟩
                 go_wp2_with fail
                 refine (err_any w3.heap.size _ w5 he6).mono ?_
                 rintro e w5 ⟨rfl, rfl⟩
                 clear hp6 he6
                 go_wp2
                 go_ret
                 exact ⟨by simp, E5.out.bel⟩)
        · have hcp' : (p : Int) + k ≤ cut := by omega
          rcases hcase1 with ⟨hk1L, rfl, hB5⟩ | ⟨hk1L, N1, rfl, hB5⟩
          all_goals
            first
              | (exfalso; omega)
              | (have hp6 := cell_block hB5 1
                 have he6 := cell_block hB5 5
                 simp at hp6 he6
                 clear hB5
                 have i1 : (p : Int) + (k1 : Int) ≤ (p : Int) + (k : Int) := by omega
                 have i2 : (p : Int) + (k : Int) ≤ (p : Int) + (k1 : Int) := by omega
                 have HKK := hd hkk
                 have HK1 := hd hk1L
                 clear hkk hk1L
                 go_wp2_with fail
                 refine (pos_any w3.heap.size _ w5 hp6).mono ?_
                 rintro e w5 ⟨rfl, rfl⟩
                 go_wp2_with fail
                 refine (err_any w3.heap.size _ w5 he6).mono ?_
                 rintro e w5 ⟨rfl, rfl⟩
                 clear hp6 he6
                 go_wp2
                 go_ret
                 exact ⟨by simp, E5.out.bel⟩)
end Go.Proofs.Qxb6613462aFmt
