/-
  Seat b6613372a: the law's walk.
-/
import Derived.Test.Qxb6613372aWR
namespace Go.Proofs.Qxb6613372a
open Go.ChangeShapes Go.WideShapes Go.ChangeAt Go.RowKit Go.MapKept
set_option linter.unusedSimpArgs false
set_option linter.unusedVariables false

set_option maxRecDepth 100000 in
set_option maxHeartbeats 2000000 in
theorem law_any {w : World} (a1 : Option Addr) (b1 o1 n c1 : Nat) (S : Nat → ByteArray) (z1 : a1 = none → n = 0) (ha1 : 0 < n → a1 = some ⟨b1, o1, none⟩) (h1 : StrAt w b1 o1 n S) (sz1 : ∀ i, i < n → (S i).size ≤ maxLen) (hn1 : n ≤ maxLen)
    (a2 : Option Addr) (b2 o2 m c2 : Nat) (Rt : Nat → Bool) (Nm : Nat → ByteArray) (z2 : a2 = none → m = 0) (ha2 : 0 < m → a2 = some ⟨b2, o2, none⟩) (h2 : StmAt w b2 o2 m Rt Nm) (sz2 : ∀ i, i < m → (Nm i).size ≤ maxLen) (hn2 : m ≤ maxLen) (kk : Int) (hk : -9223372036854775808 ≤ kk ∧ kk ≤ 9223372036854775807) :
    Calls Try.prog 5 #[.slice a1 n c1, .slice a2 m c2, .int .i64 kk] w fun e w' => e = .returned (.bool true) ∧ w.grownBy w' none := by
  have BR := hd (bytes_run a1 b1 o1 n c1 S ha1 h1 sz1 hn1 a2 b2 o2 m c2 Rt Nm ha2 h2 sz2 hn2 kk)
  have FR := hd (fun (s1 : ∀ i, i < n → (S i).size ≤ 1048576) (s2 : ∀ i, i < m → (Nm i).size ≤ 1048576) => fits_run a1 b1 o1 n c1 S ha1 h1 s1 hn1 a2 b2 o2 m c2 Rt Nm ha2 h2 s2 hn2)
  have CS := hd (fun (hn : n ≤ 60000) => cloneS_any a1 b1 o1 n c1 w S hn z1 ha1 h1)
  have CM := hd (fun (X : World) (hX : w.grownBy X none) (hm : m ≤ 60000) => cloneM_any a2 b2 o2 m c2 X Rt Nm hm z2 ha2 (h2.more hX))
  have gr : w.grownBy w none := grefl w none
  have GR := hd gr
  unfold maxLen at hn1 hn2
  clear z1 ha1 h1 sz1 z2 ha2 h2 sz2 gr
  go_enter Try.func5, Try.ntmps5
  go_wp2_with fail
  refine BR.out.mono ?_
  rintro e X ⟨hE, hX⟩
  subst X
  rcases hE with rfl | ⟨rfl, SZ⟩
  · clear BR FR CS CM
    go_wp2
    exact bodyPost_ret (v := .bool true) (by simp [results, Try.results5, go_sem]) rfl ⟨rfl, GR.out⟩
  clear BR
  by_cases qn : n ≤ 4096
  case neg =>
    have qn' : (4096 : Int) < n := by omega
    go_wp2
    exact bodyPost_ret (v := .bool true) (by simp [results, Try.results5, go_sem]) rfl ⟨rfl, GR.out⟩
  have qn' : ¬ (4096 : Int) < n := by omega
  by_cases qm : m ≤ 4096
  case neg =>
    have qm' : (4096 : Int) < m := by omega
    go_wp2
    exact bodyPost_ret (v := .bool true) (by simp [results, Try.results5, go_sem]) rfl ⟨rfl, GR.out⟩
  have qm' : ¬ (4096 : Int) < m := by omega
  go_wp2_with fail
  refine (FR.out SZ.out.1 SZ.out.2).mono ?_
  rintro e X ⟨hE, hX⟩
  subst X
  rcases hE with rfl | rfl
  · clear FR CS CM
    go_wp2
    exact bodyPost_ret (v := .bool true) (by simp [results, Try.results5, go_sem]) rfl ⟨rfl, GR.out⟩
  clear FR SZ qn' qm'
  by_cases k0 : kk < 0
  · go_wp2
    exact bodyPost_ret (v := .bool true) (by simp [results, Try.results5, go_sem]) rfl ⟨rfl, GR.out⟩
  by_cases k1 : (m : Int) < kk
  · go_wp2
    exact bodyPost_ret (v := .bool true) (by simp [results, Try.results5, go_sem]) rfl ⟨rfl, GR.out⟩
  obtain ⟨k, rfl⟩ : ∃ k : Nat, kk = k := ⟨kk.toNat, by omega⟩
  have hkm : k ≤ m := by omega
  have hkm' : (k : Int) ≤ m := by omega
  clear k0 k1 hk
  go_wp2_with fail
  refine (CS.out (by omega)).mono ?_
  rintro e w1 ⟨pa, rfl, hpa, hS, hg1⟩
  have HS := hd hS
  have HPA := hd hpa
  have CM1 := hd (CM.out w1 hg1 (by omega))
  have G1 := hd hg1
  clear CS CM hS hpa hg1
  go_wp2_with fail
  refine CM1.out.mono ?_
  rintro e w2 ⟨sa, rfl, hsa, hM, hg2⟩
  have HM := hd hM
  have HSA := hd hsa
  have G2 := hd (G1.out.trans hg2)
  have HS2 := hd (HS.out.more hg2)
  clear CM1 hM hsa hg2 G1 HS
  obtain ⟨MW, hMW⟩ : ∃ M, ((List.range m).map (fun i => (Rt i, Nm i))) = M := ⟨_, rfl⟩
  obtain ⟨MA, hMA⟩ : ∃ M, ((List.range k).map (fun i => (Rt i, Nm i))) = M := ⟨_, rfl⟩
  obtain ⟨MC, hMC⟩ : ∃ M, ((List.range (m - k)).map (fun i => (Rt (k + i), Nm (k + i)))) = M := ⟨_, rfl⟩
  obtain ⟨ps, hps⟩ : ∃ M, ((List.range n).map S) = M := ⟨_, rfl⟩
  have EW := hd hMW
  have EA := hd hMA
  have EC := hd hMC
  have EP := hd hps
  clear hMW hMA hMC hps
  have SM1 := hd (sum_run pa w.heap.size n n S (by omega) HPA.out HS2.out sa w1.heap.size 0 m m Rt Nm (by omega) (fun h => by rcases HSA.out with ⟨_, e⟩ | e; omega; exact e) HM.out)
  rw [EW.out, EP.out] at SM1
  go_wp2_with fail
  refine SM1.out.mono ?_
  rintro e w3 ⟨q1, u1, rfl, r1, y1, g3⟩
  have R1 := hd r1
  have Y1 := hd y1
  have G3 := hd (G2.out.trans g3)
  have HS3 := hd (HS2.out.more g3)
  have HM3 := hd (HM.out.more g3)
  have SM2 := hd (sum_run pa w.heap.size n n S (by omega) HPA.out HS3.out sa w1.heap.size 0 k m Rt Nm (by omega) (fun h => by rcases HSA.out with ⟨_, e⟩ | e; omega; exact e) (fun i hi => HM3.out i (by omega)))
  rw [EA.out, EP.out] at SM2
  clear SM1 r1 y1 g3 HS2 HM G2
  go_wp2_with fail
  refine SM2.out.mono ?_
  rintro e w4 ⟨q2, u2, rfl, r2, y2, g4⟩
  have R1' := hd (row_kept R1.out g4 (by simp))
  have R2 := hd r2
  have Y2 := hd y2
  have G4 := hd (G3.out.trans g4)
  have HS4 := hd (HS3.out.more g4)
  have HM4 := hd (HM3.out.more g4)
  clear SM2 r2 y2 g4 HS3 HM3 G3 R1
  have SM3 : Hid (∀ (sa' : Option Addr) (m' c' : Nat), m' = m - k → (0 < m' → sa' = some ⟨w1.heap.size, k * 2, none⟩) → Calls Try.prog 12 #[.slice pa n n, .slice sa' m' c'] w4 fun e w' => ∃ qb kU, e = .returned (.tuple #[.slice (some ⟨qb, 0, none⟩) n n, .int .i64 (cntP ps MC : Nat), .int .i64 (kU : Nat)]) ∧ Hid (w'.rowIs qb 5 n (fun j => .int .u8 ((uP MC (S j)).getD 0 : Nat)) ∧ Keys (uP MC) kU ∧ w4.grownBy w' none)) := by
    rw [← EC.out, ← EP.out]
    rintro sa' m' c' rfl hsa'
    refine (sum_run pa w.heap.size n n S (by omega) HPA.out HS4.out sa' w1.heap.size (k * 2) (m - k) c' (fun i => Rt (k + i)) (fun i => Nm (k + i)) (by omega) hsa' (fun i hi => ?_)).mono ?_
    · have := HM4.out (k + i) (by omega)
      rw [show 0 + (k + i) * 2 = k * 2 + i * 2 by omega] at this
      exact this
    · rintro e w' ⟨qb, kU, h1, h2, h3, h4⟩
      exact ⟨qb, kU, h1, h2, h3, h4⟩
  go_upto_region 15 with fail
  go_cut [13, 14, 15] from 62 (fun x y z wc => ∃ (qb kU : Nat), x = .slice (some ⟨qb, 0, none⟩) n n ∧ y = .int .i64 (cntP ps MC : Nat) ∧ z = .int .i64 (kU : Nat) ∧ Hid (wc.rowIs qb 5 n (fun j => .int .u8 ((uP MC (S j)).getD 0 : Nat)) ∧ Keys (uP MC) kU ∧ w4.grownBy wc none))
  case first =>
    by_cases hkm2 : k = m
    · subst hkm2
      go_wp2_with fail
      refine (SM3.out _ _ _ (by omega) (fun h => absurd h (by omega))).mono ?_
      rintro e w5 ⟨qb, kU, rfl, H5⟩
      go_wp2
      go_meet
      exact ⟨qb, kU, rfl, rfl, rfl, H5⟩
    · have hmk : ¬ m - k = 0 := by omega
      have hmk' : ¬ (m : Int) - k = 0 := by omega
      obtain rfl : sa = some ⟨w1.heap.size, 0, none⟩ := by
        rcases HSA.out with ⟨_, e⟩ | e
        · omega
        · exact e
      go_wp2_with fail
      refine (SM3.out _ _ _ rfl (fun h => ?_)).mono ?_
      · simp [Addr.add]
      rintro e w5 ⟨qb, kU, rfl, H5⟩
      go_wp2
      go_meet
      exact ⟨qb, kU, rfl, rfl, rfl, H5⟩
  case rest =>
    obtain ⟨q3, u3, rfl, rfl, rfl, H5⟩ := hcut
    obtain ⟨r3, y3, g5⟩ := H5.out
    have hcat : MW = MA ++ MC := by
      rw [← EW.out, ← EA.out, ← EC.out]
      exact mOf_cut Rt Nm k m hkm
    have PV : Hid (∀ s, (uP MW s).getD 0 = (uP MA s).getD 0 ||| (uP MC s).getD 0) := fun s => by rw [hcat]; exact (uP_append MA s MC).1
    obtain ⟨kl1, kl2, kl3⟩ := keys_law (hcat ▸ Y1.out) Y2.out y3
    have lW : MW.length = m := by rw [← EW.out]; simp
    have lA : MA.length = k := by rw [← EA.out]; simp
    have lC : MC.length = m - k := by rw [← EC.out]; simp
    have uu1 : u1 ≤ 4096 := by have := keys_le Y1.out; omega
    have uu2 : u2 ≤ 4096 := by omega
    have uu3 : u3 ≤ 4096 := by omega
    have cc : cntP ps MW = cntP ps MA + cntP ps MC := by rw [hcat]; exact cntP_append ps MA MC
    have cl1 : cntP ps MW ≤ 4096 := by have := cntP_le ps MW; omega
    have CE : Hid (cntP ps (mOf Rt Nm m) = cntP ps MW) := by rw [← EW.out]; rfl
    have KL1 : Hid (u1 ≤ u2 + u3 ∧ u2 ≤ u1 ∧ u3 ≤ u1) := ⟨kl1, kl2, kl3⟩
    obtain ⟨cW, hcW⟩ : ∃ c, cntP ps MW = c := ⟨_, rfl⟩
    obtain ⟨cA, hcA⟩ : ∃ c, cntP ps MA = c := ⟨_, rfl⟩
    obtain ⟨cC, hcC⟩ : ∃ c, cntP ps MC = c := ⟨_, rfl⟩
    rw [hcW, hcA, hcC] at cc
    rw [hcW] at cl1 CE
    have V : Hid (∀ X, wc.grownBy X none → ∀ i, i < n → ∃ x1 x2 x3 : Nat, X.cell? ⟨q1, i, none⟩ = some (.int .u8 x1) ∧ X.cell? ⟨q2, i, none⟩ = some (.int .u8 x2) ∧ X.cell? ⟨q3, i, none⟩ = some (.int .u8 x3) ∧ bits .or .u8 x2 x3 = (x1 : Int)) := fun X hX i hi => by
      refine ⟨_, _, _, (row_kept (row_kept R1'.out g5 (by simp)) hX (by simp)).cell hi, (row_kept (row_kept R2.out g5 (by simp)) hX (by simp)).cell hi, (row_kept r3 hX (by simp)).cell hi, ?_⟩
      rw [PV.out (S i)]
      exact bits_or5 _ _ (uP_lt _ _) (uP_lt _ _)
    have HSc : Hid (∀ X, wc.grownBy X none → StrAt X w.heap.size 0 n S ∧ StmAt X w1.heap.size 0 m Rt Nm) := fun X hX => ⟨(HS4.out.more g5).more hX, (HM4.out.more g5).more hX⟩
    have GW : Hid (w.grownBy wc none) := G4.out.trans g5
    clear SM3 H5 r3 y3 g5 hcat PV kl1 kl2 kl3 lW lA lC Y1 Y2 R1' R2 HS4 HM4 G4 EW EA EC
    go_wp2
    go_loopg [16] n (fun g x wr => ∃ i : Nat, g = n - i ∧ i ≤ n ∧ x = .int .i64 i ∧ Hid (wc.grownBy wr none))
    case atStart => exact ⟨0, by omega, by omega, rfl, grefl _ _⟩
    case round =>
      obtain ⟨i, rfl, hi, rfl, H⟩ := hrel
      by_cases hlt : i < n
      · have ltI : (i : Int) < n := by omega
        obtain ⟨x1, x2, x3, v1, v2, v3, hb⟩ := V.out wr H.out i hlt
        go_wp2
        go_quiet (fail)
        go_wp2
        go_roundg (n - (i + 1))
        case measure => omega
        case rel => exact ⟨i + 1, rfl, hlt, rfl, H.out.trans (gdrewN _ _ none)⟩
      · have ltI : ¬ (i : Int) < n := by omega
        have HW := hd (GW.out.trans H.out)
        obtain ⟨hSw, hMw⟩ := HSc.out wr H.out
        have HSw := hd hSw
        have HMw := hd hMw
        clear V H HSc hSw hMw
        go_wp2
        go_loopg [18, 17] m (fun g x y wr' => ∃ j : Nat, g = m - j ∧ j ≤ m ∧ x = .int .i64 j ∧ y = .int .i64 (cntP ps (mOf Rt Nm j) : Nat) ∧ wr' = wr)
        case atStart => exact ⟨0, by omega, by omega, rfl, rfl, rfl⟩
        case round =>
          obtain ⟨j, rfl, hj, rfl, rfl, rfl⟩ := hrel
          by_cases hltj : j < m
          · have ltJ : (j : Int) < m := by omega
            obtain rfl : sa = some ⟨w1.heap.size, 0, none⟩ := by
              rcases HSA.out with ⟨_, e⟩ | e
              · omega
              · exact e
            obtain ⟨m1, m2⟩ := HMw.out j hltj
            rw [Nat.zero_add] at m1 m2
            have cs := hd (cntP_succ ps Rt Nm j)
            have cle : cntP ps (mOf Rt Nm j) ≤ 4096 := by have := cntP_le ps (mOf Rt Nm j); rw [mOf_len] at this; omega
            obtain ⟨nj, hnj⟩ : ∃ s, Nm j = s := ⟨_, rfl⟩
            obtain ⟨rj, hrj⟩ : ∃ s, Rt j = s := ⟨_, rfl⟩
            obtain ⟨r, hr⟩ : ∃ r, (FVp ps nj).isSome = r := ⟨_, rfl⟩
            have CH := hd (has_run pa w.heap.size n n wr S (by omega) HPA.out HSw.out nj r (by
              rw [← hr, FVp_isSome, ← EP.out, List.mem_map]
              constructor
              · rintro ⟨x, hx, e⟩
                exact ⟨x, by simpa using hx, e⟩
              · rintro ⟨x, hx, e⟩
                exact ⟨x, by simpa using hx, e⟩))
            rw [hnj, hrj, hr] at cs
            rw [hnj] at m2
            rw [hrj] at m1
            obtain ⟨cj, hcj⟩ : ∃ c, cntP ps (mOf Rt Nm j) = c := ⟨_, rfl⟩
            rw [hcj] at cs cle ⊢
            obtain ⟨cj1, hcj1⟩ : ∃ c, cntP ps (mOf Rt Nm (j + 1)) = c := ⟨_, rfl⟩
            rw [hcj1] at cs
            have CJ1 := hd hcj1
            clear hnj hrj hr hcj hcj1
            cases rj with
            | false =>
              have hc1 : Hid (cj1 = cj) := hd (by have := cs.out; simpa using this)
              clear CH cs
              go_wp2
              go_roundg (m - (j + 1))
              case measure => omega
              case rel => exact ⟨j + 1, rfl, hltj, rfl, by rw [CJ1.out, hc1.out], rfl⟩
            | true =>
              go_wp2_with fail
              refine CH.out.mono ?_
              rintro e X ⟨rfl, hX⟩
              subst X
              cases r with
              | false =>
                have hc1 : Hid (cj1 = cj) := hd (by have := cs.out; simpa using this)
                clear CH cs
                go_wp2
                go_roundg (m - (j + 1))
                case measure => omega
                case rel => exact ⟨j + 1, rfl, hltj, rfl, by rw [CJ1.out, hc1.out], rfl⟩
              | true =>
                have hc1 : Hid (cj1 = cj + 1) := hd (by have := cs.out; simpa using this)
                clear CH cs
                go_wp2
                go_roundg (m - (j + 1))
                case measure => omega
                case rel => exact ⟨j + 1, rfl, hltj, rfl, by rw [CJ1.out, hc1.out]; simp, rfl⟩
          · have ltJ : ¬ (j : Int) < m := by omega
            obtain rfl : j = m := by omega
            rw [CE.out]
            have i1 : (cW : Int) = cA + cC := by omega
            have i2 : (u1 : Int) ≤ (u2 : Int) + u3 := by have := KL1.out; omega
            have i3 : (u2 : Int) ≤ u1 := by have := KL1.out; omega
            have i4 : (u3 : Int) ≤ u1 := by have := KL1.out; omega
            go_wp2
            exact bodyPost_ret (v := .bool true) (by simp [results, Try.results5, go_sem]) rfl ⟨rfl, HW.out⟩
end Go.Proofs.Qxb6613372a
