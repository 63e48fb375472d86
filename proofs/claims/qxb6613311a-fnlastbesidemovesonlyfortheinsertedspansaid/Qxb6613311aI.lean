/-
  Seat b6613311a: the law's walk.
-/
import Derived.Test.Qxb6613311aJ
import Derived.OwnWalk
namespace Go.Proofs.Qxb6613311a
open Go.ChangeShapes Go.WideShapes Go.ChangeAt Go.RowKit
set_option linter.unusedVariables false

theorem hd {p : Prop} (h : p) : Hid p := h

theorem info31 : (Try.prog.info? 31).map (fun i => (i.zero, i.size, i.bytes)) = some (some (.agg #[.int .i64 0, .int .i64 0, .int .i64 0]), 3, 24) := by kernel_rfl

/-- The cells of the first k spans, flat. -/
def flat3 (T Lo Hi : Nat → Int) : Nat → List Value
  | 0 => []
  | k + 1 => flat3 T Lo Hi k ++ [.int .i64 (T k), .int .i64 (Lo k), .int .i64 (Hi k)]

theorem flat3_length (T Lo Hi : Nat → Int) : ∀ k, (flat3 T Lo Hi k).length = k * 3
  | 0 => rfl
  | k + 1 => by simp [flat3, flat3_length T Lo Hi k]; omega

theorem flat3_get (T Lo Hi : Nat → Int) : ∀ k i, i < k → (flat3 T Lo Hi k)[i * 3]? = some (.int .i64 (T i)) ∧ (flat3 T Lo Hi k)[i * 3 + 1]? = some (.int .i64 (Lo i)) ∧ (flat3 T Lo Hi k)[i * 3 + 2]? = some (.int .i64 (Hi i))
  | 0, i, h => absurd h (Nat.not_lt_zero _)
  | k + 1, i, h => by
    have hl := flat3_length T Lo Hi k
    by_cases e : i = k
    · subst e
      simp only [flat3]
      refine ⟨?_, ?_, ?_⟩
      · rw [List.getElem?_append_right (by omega), hl]; simp
      · rw [List.getElem?_append_right (by omega), hl]; simp
      · rw [List.getElem?_append_right (by omega), hl]; simp
    · obtain ⟨h1, h2, h3⟩ := flat3_get T Lo Hi k i (by omega)
      simp only [flat3]
      refine ⟨?_, ?_, ?_⟩
      · rw [List.getElem?_append_left (by omega)]; exact h1
      · rw [List.getElem?_append_left (by omega)]; exact h2
      · rw [List.getElem?_append_left (by omega)]; exact h3

theorem spans_of_owns {w : World} {base g n cap : Nat} {T Lo Hi : Nat → Int} (h : w.ownsRow base 31 3 (.slice (some ⟨g, 0, none⟩) n cap) n (flat3 T Lo Hi n)) : SpansAt w g 0 n T Lo Hi := by
  intro i hi
  obtain ⟨h1, h2, h3⟩ := flat3_get T Lo Hi n i hi
  refine ⟨?_, ?_, ?_⟩
  · rw [Nat.zero_add, h.cellAt _ (by omega), h1]
  · rw [Nat.zero_add, h.cellAt _ (by omega), h2]
  · rw [Nat.zero_add, h.cellAt _ (by omega), h3]

theorem flat_lt {k : Nat} {x y z : Int} {T Lo Hi : Nat → Int} {i : Nat} (h : i < k) : flat3 (ins k x T) (ins k y Lo) (ins k z Hi) i ++ [.int .i64 (T i), .int .i64 (Lo i), .int .i64 (Hi i)] = flat3 (ins k x T) (ins k y Lo) (ins k z Hi) (i + 1) := by
  simp only [flat3, ins_lt h]
theorem flat_at {k : Nat} {x y z : Int} {T Lo Hi : Nat → Int} : flat3 (ins k x T) (ins k y Lo) (ins k z Hi) k ++ [.int .i64 x, .int .i64 y, .int .i64 z] = flat3 (ins k x T) (ins k y Lo) (ins k z Hi) (k + 1) := by
  simp only [flat3, ins_at]
theorem flat_gt {k : Nat} {x y z : Int} {T Lo Hi : Nat → Int} {i : Nat} (h : k ≤ i) : flat3 (ins k x T) (ins k y Lo) (ins k z Hi) (i + 1) ++ [.int .i64 (T i), .int .i64 (Lo i), .int .i64 (Hi i)] = flat3 (ins k x T) (ins k y Lo) (ins k z Hi) (i + 2) := by
  simp only [flat3, ins_gt h]

theorem cells3 (w : World) (x y z : Value) (t : TypeId) : ∀ (j : Nat) (u : Value), [x, y, z][j]? = some u → (w.alloc (.cells #[x, y, z] t)).cell? ((⟨w.heap.size, 0, none⟩ : Addr).add j) = some u := by
  intro j u h
  rw [add_plain, Nat.zero_add, World.cell?_alloc_at _ _ _ _ rfl]
  match j, h with
  | 0, h => simpa using h
  | 1, h => simpa using h
  | 2, h => simpa using h

theorem one3 (x y z : Int) : ∀ u ∈ ([.int .i64 x, .int .i64 y, .int .i64 z] : List Value), u.oneCell' = true := by
  intro u hu
  simp at hu
  rcases hu with rfl | rfl | rfl <;> rfl

set_option maxHeartbeats 4000000 in
set_option maxRecDepth 100000 in
theorem law_any (a p : Option Addr) (sb so m cm b o n cn : Nat) (v lo u : Int) (w : World) (A : Nat → Option Addr) (L C : Nat → Nat) (T Lo Hi : Nat → Int)
    (ha : 0 < m → a = some ⟨sb, so, none⟩) (hR : RowsAt w sb so m A L C) (hE : ∀ r, r < m → StepRow w (A r) (L r)) (hp0 : p = none → n = 0) (hp : 0 < n → p = some ⟨b, o, none⟩) (hS : SpansAt w b o n T Lo Hi)
    (hv : -9223372036854775808 ≤ v ∧ v ≤ 9223372036854775807) (hlo : -9223372036854775808 ≤ lo ∧ lo ≤ 9223372036854775807) (hu : -9223372036854775808 ≤ u ∧ u ≤ 9223372036854775807) :
    Calls Try.prog 3 #[.slice a m cm, .slice p n cn, .int .i64 v, .int .i64 lo, .int .i64 u] w fun e w' => e = .returned (.bool true) ∧ Below w.heap.size w w' := by
  have HA : Hid (0 < m → a = some ⟨sb, so, none⟩) := ha
  have HR : Hid (RowsAt w sb so m A L C) := hR
  have HE : Hid (∀ r, r < m → StepRow w (A r) (L r)) := hE
  have HP0 : Hid (p = none → n = 0) := hp0
  have HP : Hid (0 < n → p = some ⟨b, o, none⟩) := hp
  have HS : Hid (SpansAt w b o n T Lo Hi) := hS
  clear ha hR hE hp0 hp hS
  go_enter Try.func3, Try.ntmps3
  go_wp2_with fail
  refine (bytes_any a p sb so m cm n cn v lo u _ A L C HA.out HR.out).mono ?_
  rintro e w ⟨⟨t, rfl, ht⟩, rfl⟩
  cases t with
  | false =>
    go_wp2
    go_ret
    exact ⟨rfl, Below.refl _ _⟩
  | true =>
    obtain ⟨hm, hn, hL⟩ := ht rfl
    have HL : Hid (∀ r, r < m → L r ≤ 1048576) := hL
    clear ht hL
    go_wp2_with fail
    refine (steps_any a sb so m cm _ A L C hm HL.out HA.out HR.out).mono ?_
    rintro e w ⟨⟨z, t, rfl, hz⟩, rfl⟩
    cases t with
    | true =>
      clear hz
      go_wp2
      go_ret
      exact ⟨rfl, Below.refl _ _⟩
    | false =>
      obtain ⟨hz0, hz1⟩ := hz rfl
      clear hz
      go_wp2_with fail
      refine (spansBig_any p n cn z _ hn hz0 hz1).mono ?_
      rintro e w ⟨⟨z2, t, rfl, _⟩, rfl⟩
      cases t with
      | true =>
        go_wp2
        go_ret
        exact ⟨rfl, Below.refl _ _⟩
      | false =>
        by_cases hv0 : v < 0
        · go_wp2
          go_ret
          exact ⟨rfl, Below.refl _ _⟩
        · by_cases hv1 : (m : Int) ≤ v
          · go_wp2
            go_ret
            exact ⟨rfl, Below.refl _ _⟩
          · by_cases hu0 : u < 0
            · go_wp2
              go_ret
              exact ⟨rfl, Below.refl _ _⟩
            · by_cases hu1 : (m : Int) ≤ u
              · go_wp2
                go_ret
                exact ⟨rfl, Below.refl _ _⟩
              · obtain ⟨V, rfl⟩ : ∃ V : Nat, v = (V : Int) := ⟨v.toNat, by omega⟩
                obtain ⟨U, rfl⟩ : ∃ U : Nat, u = (U : Int) := ⟨u.toNat, by omega⟩
                go_wp2_with fail
                refine (wf_any a p sb so m cm b o n cn _ A L C T Lo Hi hm hn HL.out HA.out HR.out HP.out HS.out).mono ?_
                rintro e w1 ⟨⟨t, rfl, ht⟩, hb1⟩
                cases t with
                | false =>
                  go_wp2
                  go_ret
                  exact ⟨rfl, hb1⟩
                | true =>
                  have HW : Hid (WF m L T Lo Hi n) := ht rfl
                  have HB1 : Hid (Below w.heap.size w w1) := hb1
                  obtain rfl := HA.out (by omega)
                  have hrow := (HR.out.below hb1 (Nat.le_refl _)) V (by omega)
                  have hlv := HL.out V (by omega)
                  have hV' : (V : Int) < m := by omega
                  have hV0 : (0 : Int) ≤ V := by omega
                  have HS1 : Hid (SpansAt w1 b o n T Lo Hi) := HS.out.below hb1 (Nat.le_refl _)
                  clear ht hb1 hv0 hv1 hu0
                  by_cases hlo1 : lo < 1
                  · go_wp2
                    go_ret
                    exact ⟨rfl, HB1.out⟩
                  · by_cases hlo2 : (L V : Int) < lo
                    · go_wp2
                      go_ret
                      exact ⟨rfl, HB1.out⟩
                    · have dlo1 : decide (lo < 1) = false := decide_eq_false hlo1
                      have dlo2 : decide ((L V : Int) < lo) = false := decide_eq_false hlo2
                      go_wp2
                      clear hrow dlo1 dlo2
                      go_loopg [14] n (fun g x wr => ∃ k : Nat, k ≤ n ∧ g = n - k ∧ x = .int .i64 k ∧ Hid (∀ i, i < k → T i < V) ∧ wr = w1)
                      case atStart => exact ⟨0, Nat.zero_le _, rfl, rfl, (fun i hi => absurd hi (Nat.not_lt_zero _)), rfl⟩
                      case round =>
                        obtain ⟨k, hk, rfl, rfl, HT, rfl⟩ := hrel
                        have hk' : (k : Int) ≤ n := by omega
                        have key : (k < n ∧ T k < V) ∨ (k < n ∧ T k = V) ∨ (k ≤ n ∧ (k < n → (V : Int) < T k)) := by
                          by_cases h1 : k < n
                          · rcases Int.lt_trichotomy (T k) V with h2 | h2 | h2
                            · exact .inl ⟨h1, h2⟩
                            · exact .inr (.inl ⟨h1, h2⟩)
                            · exact .inr (.inr ⟨hk, fun _ => h2⟩)
                          · exact .inr (.inr ⟨hk, fun h => absurd h h1⟩)
                        rcases key with ⟨hkn, hTk⟩ | ⟨hkn, hTk⟩ | ⟨_, hTk⟩
                        · obtain rfl := HP.out (by omega)
                          obtain ⟨hc0, _, _⟩ := HS1.out k hkn
                          have hkn' : (k : Int) < n := by omega
                          go_wp2
                          go_roundg (n - (k + 1))
                          case measure => omega
                          case rel => exact ⟨k + 1, by omega, rfl, by go_num, (fun i hi => by
                            by_cases e : i = k
                            · rw [e]; exact hTk
                            · exact HT.out i (by omega)), rfl⟩
                        · obtain rfl := HP.out (by omega)
                          obtain ⟨hc0, _, _⟩ := HS1.out k hkn
                          have hkn' : (k : Int) < n := by omega
                          rw [hTk] at hc0
                          clear hTk
                          go_wp2
                          go_ret
                          exact ⟨rfl, HB1.out⟩
                        · have HTk : Hid (k < n → (V : Int) < T k) := hTk
                          clear hTk
                          obtain ⟨i0, hi, hz0, hz1, hz2⟩ := info_parts info31
                          obtain ⟨w1, rfl⟩ : ∃ w1 : World, w1 = wr := ⟨_, rfl⟩
                          rcases (show (0 < n ∧ k < n) ∨ (0 < n ∧ k = n) ∨ (n = 0 ∧ k = n) from by omega) with ⟨hn0, hkn⟩ | ⟨hn0, hkn⟩ | ⟨hn0, hkn⟩
                          case' inr.inr.inl =>
                            obtain rfl := HP.out hn0
                            obtain ⟨hc0, _, _⟩ := HS1.out k hkn
                            have hkn' : (k : Int) < n := by omega
                            have hTk1 : ¬ T k < V := by have := HTk.out hkn; omega
                            have hTk2 : (T k == (V : Int)) = false := by have := HTk.out hkn; simp; omega
                            have hTk3 : (V : Int) < T k := HTk.out hkn
                            go_wp2_with (at_make; refine wpList_make_own _ rfl (.const (.int .i64 0)) (.tmp 107) 23 rfl w1.heap.size 31 i0 _ 3 Try.underlying23 hi hz0 hz1 .i64 .i64 _ (n + 1) rfl rfl (by omega) (by rw [hz2]; omega) (by unfold maxLen; omega) (Nat.le_refl _) ?_; intro w2 hown2 hgr2)
                            clear hTk1 hTk2 hTk3 hc0 hkn'
                          case' inr.inr.inr.inl =>
                            obtain rfl := HP.out hn0
                            have HK : Hid (k = n) := hkn
                            have hkn' : ¬ (k : Int) < n := by omega
                            have hkd : decide ((k : Int) < n) = false := decide_eq_false hkn'
                            have hkn2 : n ≤ k := by omega
                            clear hkn
                            go_wp2_with (at_make; refine wpList_make_own _ rfl (.const (.int .i64 0)) (.tmp 107) 23 rfl w1.heap.size 31 i0 _ 3 Try.underlying23 hi hz0 hz1 .i64 .i64 _ (n + 1) rfl rfl (by omega) (by rw [hz2]; omega) (by unfold maxLen; omega) (Nat.le_refl _) ?_; intro w2 hown2 hgr2)
                            clear hkd hkn'
                          case' inr.inr.inr.inr =>
                            have HK : Hid (k = n) := hkn
                            have hn1 : n ≤ 0 := by omega
                            have hkn' : ¬ (k : Int) < n := by omega
                            have hkd : decide ((k : Int) < n) = false := decide_eq_false hkn'
                            have hkn2 : n ≤ k := by omega
                            clear hkn hn0
                            go_wp2_with (at_make; refine wpList_make_own _ rfl (.const (.int .i64 0)) (.tmp 107) 23 rfl w1.heap.size 31 i0 _ 3 Try.underlying23 hi hz0 hz1 .i64 .i64 _ (n + 1) rfl rfl (by omega) (by rw [hz2]; omega) (by unfold maxLen; omega) (Nat.le_refl _) ?_; intro w2 hown2 hgr2)
                            clear hkd hkn'
                          all_goals
                            have hB2 : Below w1.heap.size w1 w2 := (Below.refl _ _).grown hgr2 (Nat.le_refl _) (fun _ h => by cases h)
                            have hN1 : w1.heap.size < w2.heap.size := (hown2.lt w1.heap.size rfl).2
                            have HO2 : Hid (w2.ownsRow w1.heap.size 31 3 (.slice (some ⟨w1.heap.size, 0, none⟩) 0 (n + 1)) 0 []) := hown2
                            clear hown2 hgr2
                            go_loopg [15, 16] k (fun g x y wr => ∃ j : Nat, j ≤ k ∧ g = k - j ∧ x = .slice (some ⟨w1.heap.size, 0, none⟩) j (n + 1) ∧ y = .int .i64 j ∧ Hid (wr.ownsRow w1.heap.size 31 3 (.slice (some ⟨w1.heap.size, 0, none⟩) j (n + 1)) j (flat3 (ins k V T) (ins k lo Lo) (ins k (L V : Int) Hi) j)) ∧ Hid (Below w1.heap.size w1 wr))
                            case atStart => exact ⟨0, Nat.zero_le _, rfl, rfl, rfl, HO2.out, hB2⟩
                            case round =>
                              obtain ⟨j, hj, rfl, rfl, rfl, HO, HBr⟩ := hrel
                              by_cases hjk : j < k
                              · first
                                  | (exfalso; omega)
                                  | (obtain ⟨hc0, hc1, hc2⟩ := (HS1.out.below HBr.out (Nat.le_refl _)) j (by omega)
                                     have hjk' : (j : Int) < k := by omega
                                     have hjn : (j : Int) < n := by omega
                                     have hszr : w1.heap.size ≤ wr.heap.size := HBr.out.size
                                     go_wp2_with (at_builtin; refine wpList_append_fits _ rfl (.tmp 114) (.tmp 119) 23 rfl w1.heap.size 31 i0 3 Try.underlying23 hi hz1 w1.heap.size j (n + 1) (flat3 (ins k V T) (ins k lo Lo) (ins k (L V : Int) Hi) j) rfl (HO.out.alloc _) ⟨wr.heap.size, 0, none⟩ 1 1 [.int .i64 (T j), .int .i64 (Lo j), .int .i64 (Hi j)] rfl rfl (cells3 _ _ _ _ _) (one3 _ _ _) (by omega) ?_; intro w3 hown3 hgr3)
                                     rw [flat_lt hjk] at hown3
                                     have HO3 := hd (hown3)
                                     have HB3 : Hid (Below w1.heap.size w1 w3) := (HBr.out.alloc HBr.out.size _).grown hgr3 (by simp; omega) (fun _ h => by cases h; exact Nat.le_refl _)
                                     clear hown3 hgr3 hc0 hc1 hc2
                                     go_wp2
                                     go_roundg (k - (j + 1))
                                     case measure => omega
                                     case rel => exact ⟨j + 1, by omega, rfl, by simp, by go_num, HO3, HB3⟩)
                              · obtain rfl : j = k := by omega
                                have hszr : w1.heap.size ≤ wr.heap.size := HBr.out.size
                                go_wp2_with (at_builtin; refine wpList_append_fits _ rfl (.tmp 121) (.tmp 126) 23 rfl w1.heap.size 31 i0 3 Try.underlying23 hi hz1 w1.heap.size j (n + 1) (flat3 (ins j V T) (ins j lo Lo) (ins j (L V : Int) Hi) j) rfl (HO.out.alloc _) ⟨wr.heap.size, 0, none⟩ 1 1 [.int .i64 V, .int .i64 lo, .int .i64 (L V)] rfl rfl (cells3 _ _ _ _ _) (one3 _ _ _) (by omega) ?_; intro w3 hown3 hgr3)
                                rw [flat_at] at hown3
                                have HO3 := (show Hid (w3.ownsRow w1.heap.size 31 3 (.slice (some ⟨w1.heap.size, 0, none⟩) (j + 1) (n + 1)) (j + 1) (flat3 (ins j V T) (ins j lo Lo) (ins j (L V : Int) Hi) (j + 1))) from hown3)
                                have HB3 : Hid (Below w1.heap.size w1 w3) := (HBr.out.alloc HBr.out.size _).grown hgr3 (by simp; omega) (fun _ h => by cases h; exact Nat.le_refl _)
                                clear hown3 hgr3 HO HBr hszr
                                go_loopg [15, 17] (n - j) (fun g x y wr => ∃ i : Nat, j ≤ i ∧ i ≤ n ∧ g = n - i ∧ x = .slice (some ⟨w1.heap.size, 0, none⟩) (i + 1) (n + 1) ∧ y = .int .i64 i ∧ Hid (wr.ownsRow w1.heap.size 31 3 (.slice (some ⟨w1.heap.size, 0, none⟩) (i + 1) (n + 1)) (i + 1) (flat3 (ins j V T) (ins j lo Lo) (ins j (L V : Int) Hi) (i + 1))) ∧ Hid (Below w1.heap.size w1 wr))
                                case atStart => exact ⟨j, Nat.le_refl _, by omega, rfl, rfl, rfl, HO3, HB3⟩
                                case round =>
                                  obtain ⟨i, hji, hin, rfl, rfl, rfl, HO, HBr⟩ := hrel
                                  have hszr : w1.heap.size ≤ wr.heap.size := HBr.out.size
                                  by_cases hik : i < n
                                  · first
                                      | (exfalso; omega)
                                      | (obtain ⟨hc0, hc1, hc2⟩ := (HS1.out.below HBr.out (Nat.le_refl _)) i (by omega)
                                         have hjn : (i : Int) < n := by omega
                                         go_wp2_with (at_builtin; refine wpList_append_fits _ rfl (.tmp 135) (.tmp 140) 23 rfl w1.heap.size 31 i0 3 Try.underlying23 hi hz1 w1.heap.size (i + 1) (n + 1) (flat3 (ins j V T) (ins j lo Lo) (ins j (L V : Int) Hi) (i + 1)) rfl (HO.out.alloc _) ⟨wr.heap.size, 0, none⟩ 1 1 [.int .i64 (T i), .int .i64 (Lo i), .int .i64 (Hi i)] rfl rfl (cells3 _ _ _ _ _) (one3 _ _ _) (by omega) ?_; intro w4 hown4 hgr4)
                                         rw [flat_gt hji] at hown4
                                         have HO4 := hd (hown4)
                                         have HB4 : Hid (Below w1.heap.size w1 w4) := (HBr.out.alloc HBr.out.size _).grown hgr4 (by simp; omega) (fun _ h => by cases h; exact Nat.le_refl _)
                                         clear hown4 hgr4 hc0 hc1 hc2
                                         go_wp2
                                         go_roundg (n - (i + 1))
                                         case measure => omega
                                         case rel => exact ⟨i + 1, by omega, by omega, rfl, by simp, by go_num, HO4, HB4⟩)
                                  · obtain rfl : i = n := by omega
                                    go_wp2_with fail
                                    have hS3 : SpansAt wr w1.heap.size 0 (i + 1) (ins j V T) (ins j lo Lo) (ins j (L V : Int) Hi) := spans_of_owns HO.out
                                    have hBw : Below w.heap.size w wr := HB1.out.trans (HBr.out.mono HB1.out.size)
                                    have hN1 : w1.heap.size < wr.heap.size := (HO.out.lt w1.heap.size rfl).2
                                    refine (toSteps_some ⟨sb, so, none⟩ sb so m cm _ A L C hm HL.out (fun _ => rfl) (HR.out.below (hBw.alloc hBw.size _) (Nat.le_refl _)) (fun r hr => (HE.out r hr).below (hBw.alloc hBw.size _) (Nat.le_refl _))).mono ?_
                                    rintro e w5 ⟨rfl, ⟨F, hF, hG⟩, hb5⟩
                                    have c0 := (hb5.cell (p := ⟨wr.heap.size, 0, none⟩) (by simp)).trans (World.cell?_alloc_at _ _ _ _ rfl)
                                    have c1 := (hb5.cell (p := ⟨wr.heap.size, 1, none⟩) (by simp)).trans (World.cell?_alloc_at _ _ _ _ rfl)
                                    have c2 := (hb5.cell (p := ⟨wr.heap.size, 2, none⟩) (by simp)).trans (World.cell?_alloc_at _ _ _ _ rfl)
                                    have c3 := (hb5.cell (p := ⟨wr.heap.size, 3, none⟩) (by simp)).trans (World.cell?_alloc_at _ _ _ _ rfl)
                                    have hb5' : Below wr.heap.size wr w5 := ((Below.refl _ _).alloc (Nat.le_refl _) _).trans (hb5.mono (by simp))
                                    have hBw5 : Below w.heap.size w w5 := hBw.trans (hb5'.mono hBw.size)
                                    rw [World.size_alloc] at hF hG
                                    have HSp := hd (HS1.out.below (HBr.out.trans (hb5'.mono hszr)) (Nat.le_refl _))
                                    have HSi := hd (hS3.below hb5' (Nat.le_refl _))
                                    have hWR : wr.heap.size + 1 < w5.heap.size := hF.lt
                                    have HF := (show Hid (w5.rowIs (wr.heap.size + 1) 46 m F) from hF)
                                    have HGd := (show Hid (∀ r, r < m → Good w5 (wr.heap.size + 1) (F r) (L r)) from hG)
                                    have HC0 := hd (c0)
                                    have HC1 := hd (c1)
                                    have HC2 := hd (c2)
                                    have HC3 := hd (c3)
                                    have HB5 := hd (hBw5)
                                    clear hF hG hb5 hb5' hBw5 hS3 c0 c1 c2 c3 hBw
                                    go_wp2_with fail
                                    refine (toConf_any wr.heap.size _ _ b o i cn w1.heap.size 0 (i + 1) (i + 1) w5 T Lo Hi (ins j V T) (ins j lo Lo) (ins j (L V : Int) Hi) (by omega) (by omega) HC0.out HC1.out HC2.out HC3.out (by first | exact HP0.out | (intro h; cases h)) (by first | exact HP.out | (intro _; rfl)) HSp.out (fun h => by cases h) (fun _ => rfl) HSi.out).mono ?_
                                    rintro e w6 ⟨rfl, ⟨F2, hF2, q0, q1, q2, q3⟩, hb6⟩
                                    obtain ⟨A2, C2, hAC⟩ := choose_rows HGd.out
                                    obtain ⟨a0', b0', e0, _, y0, s0', S0'⟩ := q0
                                    obtain ⟨a1', b1', e1, _, y1, s1', S1'⟩ := q2
                                    have d0 : w6.cell? ⟨w5.heap.size, 0, none⟩ = some (.slice a0' i i) := by rw [hF2.cell (by omega), e0]
                                    have d1 : w6.cell? ⟨w5.heap.size, 1, none⟩ = some (.slice none 0 0) := by rw [hF2.cell (by omega), q1]
                                    have d2 : w6.cell? ⟨w5.heap.size, 2, none⟩ = some (.slice a1' (i + 1) (i + 1)) := by rw [hF2.cell (by omega), e1]
                                    have d3 : w6.cell? ⟨w5.heap.size, 3, none⟩ = some (.slice none 0 0) := by rw [hF2.cell (by omega), q3]
                                    have hRw : RowsAt w6 (wr.heap.size + 1) 0 m A2 L C2 := fun r hr => by
                                      rw [Nat.zero_add]
                                      refine cell_below hb6 (Nat.le_refl _) ?_
                                      rw [HF.out.cell hr, (hAC r hr).1]
                                    have hEl : ∀ r, r < m → StepRow w6 (A2 r) (L r) := fun r hr => ((hAC r hr).2).below hb6 (Nat.le_refl _)
                                    have N : Hid (Calls Try.prog 8 _ w6 _) := newStops_any (wr.heap.size + 1) m m w5.heap.size a0' a1' b0' i b1' (i + 1) w6 A2 L C2 T Lo Hi (ins j V T) (ins j lo Lo) (ins j (L V : Int) Hi) hm HL.out (by omega) (by omega) hRw hEl d0 d1 d2 d3 y0 s0' S0' y1 s1' S1'
                                    have HB6 : Hid (Below w.heap.size w w6) := HB5.out.trans (hb6.mono HB5.out.size)
                                    clear d0 d1 d2 d3 hRw hEl hAC e0 e1 y0 s0' S0' y1 s1' S1' hF2 q1 q3 hb6 HF HGd HC0 HC1 HC2 HC3 HSp HSi HB5
                                    go_wp2_with fail
                                    refine N.out.mono ?_
                                    rintro e w7 ⟨G, rfl, hGr, hb7⟩
                                    have HGr := (show Hid (Graph w7 G m L i (i + 1) T Lo Hi (ins j V T) (ins j lo Lo) (ins j (L V : Int) Hi)) from hGr)
                                    have HB7 : Hid (Below w.heap.size w w7) := HB6.out.trans (hb7.mono HB6.out.size)
                                    have HM := hd (HW.out.mono)
                                    have HLo := hd (HW.out.lo HL.out)
                                    have HM1 := hd (ins_mono hk HM.out HT.out HTk.out)
                                    have HLo1 := hd (ins_lo (lo := lo) hk HLo.out (by omega) (by omega))
                                    clear hGr hb7 N HB6
                                    go_wp2_with fail
                                    refine (glast0 w7 HGr.out (by omega) hm (by omega) HM.out HLo.out).mono ?_
                                    rintro e w8 ⟨x0, rfl, hx0, hb8⟩
                                    have hx0' : x0 = (L V : Int) := beside_before HM.out HT.out HTk.out hx0
                                    subst hx0'
                                    have HGr8 := hd (HGr.out.below hb8 (Nat.le_refl _))
                                    have HB8 : Hid (Below w.heap.size w w8) := HB7.out.trans (hb8.mono HB7.out.size)
                                    clear hx0 hb8 HGr HB7
                                    go_wp2_with fail
                                    refine (glast1 w8 HGr8.out (by omega) hm (by omega) HM1.out HLo1.out).mono ?_
                                    rintro e w9 ⟨x1, rfl, hx1, hb9⟩
                                    have hx1' : x1 = lo - 1 := beside_after hk HM.out HT.out HTk.out hx1
                                    subst hx1'
                                    have HGr9 := hd (HGr8.out.below hb9 (Nat.le_refl _))
                                    have HB9 : Hid (Below w.heap.size w w9) := HB8.out.trans (hb9.mono HB8.out.size)
                                    clear hx1 hb9 HGr8 HB8
                                    go_wp2_with fail
                                    refine (gall w9 HGr9.out (by omega) hm).mono ?_
                                    rintro e wa ⟨rfl, hba⟩
                                    have HGra := hd (HGr9.out.below hba (Nat.le_refl _))
                                    have HBa : Hid (Below w.heap.size w wa) := HB9.out.trans (hba.mono HB9.out.size)
                                    clear hba HGr9 HB9
                                    by_cases hUV : U = V
                                    · subst hUV
                                      go_wp2
                                      go_ret
                                      exact ⟨rfl, HBa.out.alloc HBa.out.size _⟩
                                    · have hUV' : ((U : Int) != (V : Int)) = true := by simp; omega
                                      have hUV2 : ¬ (U : Int) = V := by omega
                                      have hUm : U < m := by omega
                                      go_wp2_with fail
                                      have HGrb := hd (HGra.out.below ((Below.refl _ _).alloc (Nat.le_refl wa.heap.size) (.cells #[.int .i64 V, .int .i64 0, .int .i64 (L V)] 43)) (Nat.le_refl _))
                                      have HBb := hd (HBa.out.alloc HBa.out.size (.cells #[.int .i64 V, .int .i64 0, .int .i64 (L V)] 43))
                                      refine (glast1 _ HGrb.out hUm hm (by omega) HM1.out HLo1.out).mono ?_
                                      rintro e wb ⟨y1, rfl, hy1, hbb⟩
                                      have HGrc := hd (HGrb.out.below hbb (Nat.le_refl _))
                                      have HBc : Hid (Below w.heap.size w wb) := HBb.out.trans (hbb.mono HBb.out.size)
                                      have HY1 := hd (hy1)
                                      clear hy1 hbb HGrb HGra
                                      go_wp2_with fail
                                      refine (glast0 _ HGrc.out hUm hm (by omega) HM.out HLo.out).mono ?_
                                      rintro e wd ⟨y0, rfl, hy0, hbd⟩
                                      have hyy : y1 = y0 := beside_same hk HM.out hUV2 hy0 HY1.out
                                      subst hyy
                                      have HBd : Hid (Below w.heap.size w wd) := HBc.out.trans (hbd.mono HBc.out.size)
                                      clear hy0 hbd HY1
                                      go_wp2
                                      go_ret
                                      exact ⟨rfl, HBd.out⟩
end Go.Proofs.Qxb6613311a
