/-
  Seat b6613372a: walkStep at 'return p', p a parameter.
-/
import Derived.Test.Qxb6613372aWF0
namespace Go.Proofs.Qxb6613372a
open Go.ChangeShapes Go.WideShapes Go.ChangeAt Go.RowKit Go.MapKept
set_option linter.unusedSimpArgs false
set_option linter.unusedVariables false
set_option maxRecDepth 100000 in
set_option maxHeartbeats 1000000 in
theorem step_ret_hit {B R : Nat} {s : St} {w : World} (h : Inv B R s w) (nm : ByteArray) (idb eb : Nat) (hE : w.heap[eb]? = some (.cells #[.iface 57 (.pointer (some ⟨idb, 0, none⟩))] 71 (0, 0))) (hid : w.cell? ⟨idb, 2, none⟩ = some (.string nm)) (hidB : idb < B) (hidR : idb ≠ R) (hsp : s.step ≤ 65530) (j : Nat) (hj : s.FV nm = some j) (hjn : j < s.n) (hn : s.n ≤ 65536) (hm : s.m ≤ 65536) (htn : s.tn = 0)
    (st : Nat) (hst : s.xs[j * 10 + 6]? = some (.int .i64 st)) (hne : st ≤ s.step) (r : Value) (hr : s.xs[j * 10 + 7]? = some r) (p : Value) (hp : s.xs[j * 10 + 8]? = some p) (q : Value) (hq : s.xs[j * 10 + 9]? = some q)
    (pn : ByteArray) (b2 b3 b4 b5 : Bool) (x0 : s.xs[j * 10]? = some (.string pn)) (x1 : s.xs[j * 10 + 1]? = some (.int .i64 0)) (x2 : s.xs[j * 10 + 2]? = some (.bool b2)) (x3 : s.xs[j * 10 + 3]? = some (.bool b3)) (x4 : s.xs[j * 10 + 4]? = some (.bool b4)) (x5 : s.xs[j * 10 + 5]? = some (.bool b5)) :
    Calls Try.prog 26 #[.pointer (some ⟨s.Wb, 0, none⟩), .pointer none, .bool true, .bool false, .slice (some ⟨eb, 0, none⟩) 1 1] w fun e w' => e = .returned (.tuple #[]) ∧ ∃ kv tv ov, Inv B R { s with step := s.step + 1, kv := kv, kn := 0, ks := [], tv := tv, tn := 0, ts := [], xs := rdXs s.xs j (s.step + 1) idb false, ov := ov, m := s.m + 1, os := s.os ++ newOnly idb j (s.step + 1) false } w' ∧ Fr B R w w' := by
  obtain ⟨a8, k8, h8⟩ := slice_shape h.hk
  have c5 : w.cell? ⟨s.Wb, 5, none⟩ = some (.int .i64 s.step) := cell_blk h.hW 5
  have c8 : w.cell? ⟨s.Wb, 8, none⟩ = some (.slice a8 s.kn k8) := (cell_blk h.hW 8).trans (by rw [h8]; rfl)
  have f5 : w.frozen? ⟨s.Wb, 5, none⟩ = false := free_blk h.hW 5
  have f8 : w.frozen? ⟨s.Wb, 8, none⟩ = false := free_blk h.hW 8
  have kk : s.kn ≤ k8 := by
    rcases h.hk.2 with ⟨h1, h2⟩ | ⟨g, cap, cur, h1, _, _, h3, _⟩
    · omega
    · rw [h8] at h1; cases h1; exact h3
  -- behind 'step++' and 'stack[:0]'
  have hI2 : Inv B R (S2 s (.slice a8 0 k8)) ((w.setCell ⟨s.Wb, 5, none⟩ (.int .i64 (s.step + 1 : Nat))).setCell ⟨s.Wb, 8, none⟩ (.slice a8 0 k8)) := by
    have h1 := h.tick
    have hk1 := h1.hk
    have hk2 : (w.setCell ⟨s.Wb, 5, none⟩ (.int .i64 (s.step + 1 : Nat))).ownsRow B 126 2 (.slice a8 0 k8) 0 [] := own_cut (n := s.kn) (xs := s.ks) (by rw [← h8]; exact hk1)
    exact h1.pushK (grefl _ _) hk2
  have hf2 : Fr B R w ((w.setCell ⟨s.Wb, 5, none⟩ (.int .i64 (s.step + 1 : Nat))).setCell ⟨s.Wb, 8, none⟩ (.slice a8 0 k8)) := by
    have b1 := h.bW
    have hf1 := (Fr.refl B R w).grown (gset w ⟨s.Wb, 5, none⟩ (.int .i64 (s.step + 1 : Nat))) h.hB (fun k e => by simp at e; exact .inl (by omega))
    exact hf1.grown (gset _ ⟨s.Wb, 8, none⟩ (.slice a8 0 k8)) h.tick.hB (fun k e => by simp at e; exact .inl (by omega))
  have eE : eb ≠ s.Wb := ne_of_tag hE h.hW (by simp [tagOf])
  have hE2 : ((w.setCell ⟨s.Wb, 5, none⟩ (.int .i64 (s.step + 1 : Nat))).setCell ⟨s.Wb, 8, none⟩ (.slice a8 0 k8)).heap[eb]? = some (.cells #[.iface 57 (.pointer (some ⟨idb, 0, none⟩))] 71 (0, 0)) :=
    blk_kept (blk_kept hE (gset w ⟨s.Wb, 5, none⟩ (.int .i64 (s.step + 1 : Nat))) (by simpa using eE)) (gset _ ⟨s.Wb, 8, none⟩ (.slice a8 0 k8)) (by simpa using eE)
  have H0 : Hid (Inv B R (S2 s (.slice a8 0 k8)) ((w.setCell ⟨s.Wb, 5, none⟩ (.int .i64 (s.step + 1))).setCell ⟨s.Wb, 8, none⟩ (.slice a8 0 k8)) ∧ Fr B R w ((w.setCell ⟨s.Wb, 5, none⟩ (.int .i64 (s.step + 1))).setCell ⟨s.Wb, 8, none⟩ (.slice a8 0 k8)) ∧ ((w.setCell ⟨s.Wb, 5, none⟩ (.int .i64 (s.step + 1))).setCell ⟨s.Wb, 8, none⟩ (.slice a8 0 k8)).heap[eb]? = some (.cells #[.iface 57 (.pointer (some ⟨idb, 0, none⟩))] 71 (0, 0))) := ⟨hI2, hf2, hE2⟩
  obtain ⟨i0, hi, hz0, hz1, hz2⟩ := info_parts info126
  clear h hI2 hf2 hE2 hE
  go_enter Try.func26, Try.ntmps26
  go_wp2
  go_loopg [58] 1 (fun g x wr => (g = 1 ∧ x = .int .i64 0 ∧ Hid (Inv B R (S2 s (.slice a8 0 k8)) wr ∧ Fr B R w wr ∧ wr.heap[eb]? = some (.cells #[.iface 57 (.pointer (some ⟨idb, 0, none⟩))] 71 (0, 0)))) ∨ (g = 0 ∧ x = .int .i64 1 ∧ ∃ kg kc, Hid (Inv B R (S3 s (.slice (some ⟨kg, 0, none⟩) 1 kc) (.iface 57 (.pointer (some ⟨idb, 0, none⟩))) false) wr ∧ Fr B R w wr)))
  case atStart => exact .inl ⟨rfl, rfl, H0.out⟩
  case round =>
    obtain ⟨rfl, rfl, H⟩ | ⟨rfl, rfl, kg, kc, H⟩ := hrel
    · obtain ⟨hI, hf, hE⟩ := H.out
      have d8 : wr.cell? ⟨s.Wb, 8, none⟩ = some (.slice a8 0 k8) := cell_blk hI.hW 8
      have dE : wr.cell? ⟨eb, 0, none⟩ = some (.iface 57 (.pointer (some ⟨idb, 0, none⟩))) := cell_blk hE 0
      have HT : Hid (∀ o : Obj, (wr.alloc o).ownsRow B 126 2 (.slice a8 0 k8) 0 []) := fun o => (hI.alloc o).hk
      have HB : Hid (∀ o : Obj, B ≤ (wr.alloc o).heap.size) := fun o => (hI.alloc o).hB
      have HN : Hid (∀ cs : Array Value, ∀ (i : Nat) (u : Value), cs.toList[i]? = some u → (wr.alloc (.cells cs 126)).cell? ((⟨wr.heap.size, 0, none⟩ : Addr).add i) = some u) := fun cs => World.news_of_block (MapKept.heap_alloc wr (.cells cs 126)).1
      clear hI hf hE
      go_wp2_with (at_builtin; refine wpList_append_lies _ rfl _ _ 91 rfl B 126 i0 (.agg #[.nilIface, .bool false]) 2 24 Try.underlying91 hi hz0 hz1 hz2 rfl (by decide) (.slice a8 0 k8) 0 [] rfl (HT.out _) ⟨wr.heap.size, 0, none⟩ 1 1 [.iface 57 (.pointer (some ⟨idb, 0, none⟩)), .bool false] rfl rfl (HN.out _) (by simp [Value.oneCell']) (by decide) (by unfold maxLen; omega) (by omega) (HB.out _) _ rfl ?_)
      intro kg kc w3 hown3 hgrow3 hat3 hlt3
      obtain ⟨⟨e1, e2⟩, hI3, hf3⟩ := Inv.pushK_facts H.out.1 hgrow3 hown3
      have H3 : Hid (Inv B R (S3 s (.slice (some ⟨kg, 0, none⟩) 1 kc) (.iface 57 (.pointer (some ⟨idb, 0, none⟩))) false) (w3.setCell ⟨s.Wb, 8, none⟩ (.slice (some ⟨kg, 0, none⟩) 1 kc)) ∧ Fr B R w (w3.setCell ⟨s.Wb, 8, none⟩ (.slice (some ⟨kg, 0, none⟩) 1 kc))) := ⟨hI3, hf3 w H.out.2.1⟩
      clear hI3 hf3 hgrow3 hown3 HT HB HN
      have e1' : w3.cell? ⟨s.Wb, 8, none⟩ = some (.slice a8 0 k8) := e1
      have e2' : w3.frozen? ⟨s.Wb, 8, none⟩ = false := e2
      go_wp2
      go_roundg 0
      case measure => omega
      case rel => exact .inr ⟨rfl, rfl, kg, kc, H3.out⟩
    · go_wp2
      go_loopg [80] 1 (fun g x wr => (g = 1 ∧ Hid (Inv B R (S3 s (.slice (some ⟨kg, 0, none⟩) 1 kc) (.iface 57 (.pointer (some ⟨idb, 0, none⟩))) false) wr ∧ Fr B R w wr)) ∨ (g = 0 ∧ ∃ kv tv, Hid (Inv B R { s with step := s.step + 1, kv := kv, kn := 0, ks := [], tv := tv, tn := 1, ts := [.int .i64 j], xs := rdXs s.xs j (s.step + 1) idb false } wr ∧ Fr B R w wr)))
      case atStart => exact .inl ⟨rfl, H.out⟩
      case round =>
        clear H
        obtain ⟨rfl, H⟩ | ⟨rfl, kv, tv, H⟩ := hrel
        · obtain ⟨hI, hf⟩ := H.out
          have d8 : wr.cell? ⟨s.Wb, 8, none⟩ = some (.slice (some ⟨kg, 0, none⟩) 1 kc) := cell_blk hI.hW 8
          have k0 : wr.cell? ⟨kg, 0, none⟩ = some (.iface 57 (.pointer (some ⟨idb, 0, none⟩))) := own_cell hI.hk rfl
          have k1 : wr.cell? ⟨kg, 1, none⟩ = some (.bool false) := own_cell hI.hk rfl
          have g8 : wr.frozen? ⟨s.Wb, 8, none⟩ = false := free_blk hI.hW 8
          have lW := lt_of_blk hI.hW
          have lK := (hI.hk.lt kg rfl).2
          have d8' : ∀ o : Obj, (wr.alloc o).cell? ⟨s.Wb, 8, none⟩ = some (.slice (some ⟨kg, 0, none⟩) 1 kc) := fun o => (World.cell?_of_block (Below.heap_alloc wr o s.Wb lW)).trans d8
          have k0' : ∀ o : Obj, (wr.alloc o).cell? ⟨kg, 0, none⟩ = some (.iface 57 (.pointer (some ⟨idb, 0, none⟩))) := fun o => (World.cell?_of_block (Below.heap_alloc wr o kg lK)).trans k0
          have k1' : ∀ o : Obj, (wr.alloc o).cell? ⟨kg, 1, none⟩ = some (.bool false) := fun o => (World.cell?_of_block (Below.heap_alloc wr o kg lK)).trans k1
          have g8' : ∀ o : Obj, (wr.alloc o).frozen? ⟨s.Wb, 8, none⟩ = false := fun o => (World.frozen?_of_block (Below.heap_alloc wr o s.Wb lW)).trans g8
          have ta := fun w' => ta_hit (xT := 71) (.pointer (some ⟨idb, 0, none⟩)) w' Try.underlying57
          have wz : IntKind.i64.wrap 0 = 0 := rfl
          have n1 : wr.heap.size ≠ s.Wb := Nat.ne_of_gt (lt_of_blk hI.hW)
          have n2 : wr.heap.size ≠ kg := Nat.ne_of_gt (hI.hk.lt kg rfl).2
          have n3 : s.Wb ≠ wr.heap.size := n1.symm
          have n4 : kg ≠ wr.heap.size := n2.symm
          have RD : Hid (∀ o : Obj, Calls Try.prog 29 #[.pointer (some ⟨s.Wb, 0, none⟩), .pointer (some ⟨idb, 0, none⟩), .bool false] (((wr.alloc o).setCell ⟨s.Wb, 8, none⟩ (.slice (some ⟨kg, 0, none⟩) 0 kc)).drew.drew) fun e w' => ∃ tv, e = .returned (.tuple #[]) ∧
              Inv B R { s with step := s.step + 1, kv := .slice (some ⟨kg, 0, none⟩) 0 kc, kn := 0, ks := [], tv := tv, tn := 1, ts := [.int .i64 j], xs := rdXs s.xs j (s.step + 1) idb false } w' ∧ Fr B R w w') := fun o => by
            have i1 := hI.alloc o
            have i2 : Inv B R { s with step := s.step + 1, kv := .slice (some ⟨kg, 0, none⟩) 0 kc, kn := 0, ks := [] } ((wr.alloc o).setCell ⟨s.Wb, 8, none⟩ (.slice (some ⟨kg, 0, none⟩) 0 kc)) := i1.pushK (grefl _ _) (own_cut i1.hk)
            have i3 := i2.drew.drew
            have f1 : Fr B R w (((wr.alloc o).setCell ⟨s.Wb, 8, none⟩ (.slice (some ⟨kg, 0, none⟩) 0 kc)).drew.drew) := by
              have b1 := hI.bW
              have g1 := hf.grown (galloc wr o none) hI.hB (by simp)
              have g2 := g1.grown (gset (wr.alloc o) ⟨s.Wb, 8, none⟩ (.slice (some ⟨kg, 0, none⟩) 0 kc)) i1.hB (fun k e => by simp at e; subst e; exact .inl b1)
              have g3 := g2.grown (gdrew _ none) i2.hB (by simp)
              exact g3.grown (gdrew _ none) i2.drew.hB (by simp)
            refine (read_hit i3 nm idb (cell_fr hid f1 hidB hidR) hidB hidR j hj hjn hn false htn st hst (Nat.lt_succ_of_le hne) (by show s.step + 1 ≤ 65536; omega) r hr p hp q hq).mono ?_
            rintro e w' ⟨tv, he, hi', hf'⟩
            exact ⟨tv, he, hi', f1.trans hf'⟩
          clear hI hf
          go_wp2
          go_region
          go_wp2
          go_region
          go_wp2_with fail
          refine (RD.out _).mono ?_
          rintro e w5 ⟨tv, rfl, hI5, hf5⟩
          have H5 : Hid (Inv B R { s with step := s.step + 1, kv := .slice (some ⟨kg, 0, none⟩) 0 kc, kn := 0, ks := [], tv := tv, tn := 1, ts := [.int .i64 j], xs := rdXs s.xs j (s.step + 1) idb false } w5 ∧ Fr B R w w5) := ⟨hI5, hf5⟩
          clear hI5 hf5 RD
          go_wp2
          go_roundg 0
          case measure => omega
          case rel => exact .inr ⟨rfl, _, tv, H5.out⟩
        · obtain ⟨hI, hf⟩ := H.out
          have d8 : wr.cell? ⟨s.Wb, 8, none⟩ = some kv := cell_blk hI.hW 8
          obtain ⟨a9, c9, hkv⟩ := slice_shape hI.hk
          have hkv' : kv = .slice a9 0 c9 := hkv
          rw [hkv'] at d8
          obtain ⟨tg, tc, htv⟩ : ∃ tg tc, tv = .slice (some ⟨tg, 0, none⟩) 1 tc := by
            rcases hI.ht.2 with ⟨_, h2⟩ | ⟨g, cap, cur, h1, _⟩
            · cases h2
            · exact ⟨g, cap, h1⟩
          have d6 : wr.cell? ⟨s.Wb, 6, none⟩ = some tv := cell_blk hI.hW 6
          rw [htv] at d6
          clear hkv hkv'
          clear hI hf
          go_wp2
          go_loopg [207] 1 (fun g x wr => (g = 1 ∧ x = .int .i64 0 ∧ Hid (Inv B R { s with step := s.step + 1, kv := kv, kn := 0, ks := [], tv := tv, tn := 1, ts := [.int .i64 j], xs := rdXs s.xs j (s.step + 1) idb false } wr ∧ Fr B R w wr)) ∨
            (g = 0 ∧ x = .int .i64 1 ∧ ∃ ov, Hid (Inv B R { s with step := s.step + 1, kv := kv, kn := 0, ks := [], tv := tv, tn := 1, ts := [.int .i64 j], xs := rdXs s.xs j (s.step + 1) idb false, ov := ov, m := s.m + 1, os := s.os ++ newOnly idb j (s.step + 1) false } wr ∧ Fr B R w wr)))
          case atStart => exact .inl ⟨rfl, rfl, H.out⟩
          case round =>
            clear H d6 d8
            obtain ⟨rfl, rfl, H⟩ | ⟨rfl, rfl, ov, H⟩ := hrel
            · obtain ⟨hI, hf⟩ := H.out
              obtain ⟨vg, vc, hvv⟩ : ∃ g cap, s.vv = .slice (some ⟨g, 0, none⟩) s.n cap := by
                rcases hI.hv.2 with ⟨_, h2⟩ | ⟨g, cap, cur, h1, _⟩
                · exact absurd h2 (by show ¬ s.n = 0; omega)
                · exact ⟨g, cap, h1⟩
              have c6 : wr.cell? ⟨s.Wb, 6, none⟩ = some (.slice (some ⟨tg, 0, none⟩) 1 tc) := (cell_blk hI.hW 6).trans (by rw [← htv]; rfl)
              have t0 : wr.cell? ⟨tg, 0, none⟩ = some (.int .i64 j) := by
                have := hI.ht
                rw [show St.tv { s with step := s.step + 1, kv := kv, kn := 0, ks := [], tv := tv, tn := 1, ts := [.int .i64 j], xs := rdXs s.xs j (s.step + 1) idb false } = .slice (some ⟨tg, 0, none⟩) 1 tc from htv] at this
                exact own_cell this rfl
              have c2 : wr.cell? ⟨s.Wb, 2, none⟩ = some (.slice (some ⟨vg, 0, none⟩) s.n vc) := (cell_blk hI.hW 2).trans (by rw [← hvv]; rfl)
              have hv : wr.ownsRow B 95 10 (.slice (some ⟨vg, 0, none⟩) s.n vc) s.n (rdXs s.xs j (s.step + 1) idb false) := by rw [← hvv]; exact hI.hv
              have V := rdXs_cells s.xs j (s.step + 1) idb false (by have := hv.1; simp [rdXs, rd4] at this; omega)
              obtain ⟨X0, X1, X2, X3, X4, X5, X6, X7, X8, X9⟩ := V
              have y0 := own_cell hv (X0.trans x0)
              have y1 := own_cell hv (X1.trans x1)
              have y2 := own_cell hv (X2.trans x2)
              have y3 := own_cell hv (X3.trans x3)
              have y4 := own_cell hv (X4.trans x4)
              have y5 := own_cell hv (X5.trans x5)
              have y6 := own_cell hv X6
              have y7 := own_cell hv X7
              have y8 := own_cell hv X8
              have y9 := own_cell hv X9
              have jl : (j : Int) < s.n := by omega
              obtain ⟨z, hz⟩ : ∃ z, z = wr.heap.size := ⟨_, rfl⟩
              obtain ⟨w4, hw4⟩ : ∃ w4, w4 = wr.alloc (Obj.cells #[.string pn, .int .i64 0, .bool b2, .bool b3, .bool b4, .bool b5, .int .i64 (s.step + 1 : Nat), .int .i64 1, .pointer (some ⟨idb, 0, none⟩), .bool false] 95) := ⟨_, rfl⟩
              have hI4 : Inv B R { s with step := s.step + 1, kv := kv, kn := 0, ks := [], tv := tv, tn := 1, ts := [.int .i64 j], xs := rdXs s.xs j (s.step + 1) idb false } w4 := by rw [hw4]; exact hI.alloc _
              have hf4 : Fr B R w w4 := by rw [hw4]; exact hf.grown (galloc wr (Obj.cells #[.string pn, .int .i64 0, .bool b2, .bool b3, .bool b4, .bool b5, .int .i64 (s.step + 1 : Nat), .int .i64 1, .pointer (some ⟨idb, 0, none⟩), .bool false] 95) none) hI.hB (by simp)
              have hb4 : w4.heap[z]? = some (Obj.cells #[.string pn, .int .i64 0, .bool b2, .bool b3, .bool b4, .bool b5, .int .i64 (s.step + 1 : Nat), .int .i64 1, .pointer (some ⟨idb, 0, none⟩), .bool false] 95) := by rw [hw4, hz]; exact (MapKept.heap_alloc wr (Obj.cells #[.string pn, .int .i64 0, .bool b2, .bool b3, .bool b4, .bool b5, .int .i64 (s.step + 1 : Nat), .int .i64 1, .pointer (some ⟨idb, 0, none⟩), .bool false] 95)).1
              obtain ⟨a0, cp0, hov⟩ := slice_shape hI4.ho
              have hov' : s.ov = .slice a0 s.m cp0 := hov
              have ho0 : w4.ownsRow B 123 6 (.slice a0 s.m cp0) s.m s.os := by rw [← hov']; exact hI4.ho
              have m8 : w4.cell? ⟨z, 8, none⟩ = some (.pointer (some ⟨idb, 0, none⟩)) := cell_blk hb4 8
              have m1 : w4.cell? ⟨z, 1, none⟩ = some (.int .i64 0) := cell_blk hb4 1
              have m9 : w4.cell? ⟨z, 9, none⟩ = some (.bool false) := cell_blk hb4 9
              have m7 : w4.cell? ⟨s.Wb, 7, none⟩ = some (.slice a0 s.m cp0) := (cell_blk hI4.hW 7).trans (by rw [← hov']; rfl)
              have m5 : w4.cell? ⟨s.Wb, 5, none⟩ = some (.int .i64 (s.step + 1 : Nat)) := cell_blk hI4.hW 5
              have m4 : w4.cell? ⟨s.Wb, 4, none⟩ = some (.int .i64 0) := cell_blk hI4.hW 4
              have nW : w4.heap.size ≠ s.Wb := Nat.ne_of_gt (lt_of_blk hI4.hW)
              have nZ : w4.heap.size ≠ z := Nat.ne_of_gt (lt_of_blk hb4)
              have m7' : ∀ o : Obj, (w4.alloc o).cell? ⟨s.Wb, 7, none⟩ = some (.slice a0 s.m cp0) := fun o => (World.cell?_of_block (Below.heap_alloc w4 o s.Wb (lt_of_blk hI4.hW))).trans m7
              have HOWN : Hid (∀ o : Obj, ((w4.alloc o).drew).ownsRow B 123 6 (.slice a0 s.m cp0) s.m s.os) := fun o => own_kept ho0 ((galloc w4 o none).trans (gdrew _ none)) (by cases h : (Value.slice a0 s.m cp0).ownBlock <;> simp)
              have HNEWS : Hid (∀ cs : Array Value, ∀ (j : Nat) (u : Value), cs.toList[j]? = some u → ((w4.alloc (.cells cs 123)).drew).cell? ((⟨w4.heap.size, 0, none⟩ : Addr).add j) = some u) := fun cs => World.news_of_block (w := (w4.alloc (.cells cs 123)).drew) (MapKept.heap_alloc w4 (.cells cs 123)).1
              have HBASE : Hid (∀ o : Obj, B ≤ ((w4.alloc o).drew).heap.size) := fun o => by have := hI4.hB; simp; omega
              have KS : Hid (∀ o : Obj, (w4.alloc o).cell? ⟨s.Wb, 5, none⟩ = some (.int .i64 (s.step + 1 : Nat)) ∧ (w4.alloc o).cell? ⟨s.Wb, 4, none⟩ = some (.int .i64 0) ∧ (w4.alloc o).cell? ⟨z, 8, none⟩ = some (.pointer (some ⟨idb, 0, none⟩)) ∧ (w4.alloc o).cell? ⟨z, 1, none⟩ = some (.int .i64 0) ∧ (w4.alloc o).cell? ⟨z, 9, none⟩ = some (.bool false)) := fun o => by
                have e1 := lt_of_blk hI4.hW
                have e2 := lt_of_blk hb4
                exact ⟨(World.cell?_of_block (Below.heap_alloc w4 o s.Wb e1)).trans m5, (World.cell?_of_block (Below.heap_alloc w4 o s.Wb e1)).trans m4, (World.cell?_of_block (Below.heap_alloc w4 o z e2)).trans m8, (World.cell?_of_block (Below.heap_alloc w4 o z e2)).trans m1, (World.cell?_of_block (Below.heap_alloc w4 o z e2)).trans m9⟩
              have T : Hid (∀ (g cap : Nat) (w3 : World) (o : Obj), ((w4.alloc o).drew).grownBy w3 (Value.slice a0 s.m cp0).ownBlock → w3.ownsRow B 123 6 (.slice (some ⟨g, 0, none⟩) (s.m + 1) cap) (s.m + 1) (s.os ++ newOnly idb j (s.step + 1) false) →
                  Hid (Inv B R { s with step := s.step + 1, kv := kv, kn := 0, ks := [], tv := tv, tn := 1, ts := [.int .i64 j], xs := rdXs s.xs j (s.step + 1) idb false, ov := .slice (some ⟨g, 0, none⟩) (s.m + 1) cap, m := s.m + 1, os := s.os ++ newOnly idb j (s.step + 1) false } (w3.setCell ⟨s.Wb, 7, none⟩ (.slice (some ⟨g, 0, none⟩) (s.m + 1) cap)) ∧ Fr B R w (w3.setCell ⟨s.Wb, 7, none⟩ (.slice (some ⟨g, 0, none⟩) (s.m + 1) cap))) ∧ w3.frozen? ⟨s.Wb, 7, none⟩ = false ∧ w3.cell? ⟨s.Wb, 7, none⟩ = some (.slice a0 s.m cp0) ∧ (w3.cell? ⟨s.Wb, 5, none⟩ = some (.int .i64 (s.step + 1 : Nat)) ∧ w3.cell? ⟨s.Wb, 4, none⟩ = some (.int .i64 0) ∧ w3.cell? ⟨z, 8, none⟩ = some (.pointer (some ⟨idb, 0, none⟩)) ∧ w3.cell? ⟨z, 1, none⟩ = some (.int .i64 0) ∧ w3.cell? ⟨z, 9, none⟩ = some (.bool false)) ∧ ((w3.setCell ⟨s.Wb, 7, none⟩ (.slice (some ⟨g, 0, none⟩) (s.m + 1) cap)).cell? ⟨s.Wb, 5, none⟩ = some (.int .i64 (s.step + 1 : Nat)) ∧ (w3.setCell ⟨s.Wb, 7, none⟩ (.slice (some ⟨g, 0, none⟩) (s.m + 1) cap)).cell? ⟨s.Wb, 4, none⟩ = some (.int .i64 0) ∧ (w3.setCell ⟨s.Wb, 7, none⟩ (.slice (some ⟨g, 0, none⟩) (s.m + 1) cap)).cell? ⟨z, 8, none⟩ = some (.pointer (some ⟨idb, 0, none⟩)) ∧ (w3.setCell ⟨s.Wb, 7, none⟩ (.slice (some ⟨g, 0, none⟩) (s.m + 1) cap)).cell? ⟨z, 1, none⟩ = some (.int .i64 0) ∧ (w3.setCell ⟨s.Wb, 7, none⟩ (.slice (some ⟨g, 0, none⟩) (s.m + 1) cap)).cell? ⟨z, 9, none⟩ = some (.bool false))) := fun g cap w3 o hg3 ho3 => by
                have hg : w4.grownBy w3 (Value.slice a0 s.m cp0).ownBlock := ((galloc w4 o _).trans (gdrew _ _)).trans hg3
                have hg' : w4.grownBy w3 (St.ov { s with step := s.step + 1, kv := kv, kn := 0, ks := [], tv := tv, tn := 1, ts := [.int .i64 j], xs := rdXs s.xs j (s.step + 1) idb false }).ownBlock := by rw [show St.ov { s with step := s.step + 1, kv := kv, kn := 0, ks := [], tv := tv, tn := 1, ts := [.int .i64 j], xs := rdXs s.xs j (s.step + 1) idb false } = .slice a0 s.m cp0 from hov']; exact hg
                obtain ⟨⟨e1, e2⟩, e3, e4⟩ := hI4.pushO_facts hg' ho3
                have hW3 := blk_kept hI4.hW hg' (fun e => own_ne hI4.ho hI4.hW (by simp [tagOf]) e.symm)
                have hz3 := blk_kept hb4 hg (fun e => own_ne ho0 hb4 (by simp [tagOf]) e.symm)
                have hz5 := blk_kept hz3 (gset w3 ⟨s.Wb, 7, none⟩ (.slice (some ⟨g, 0, none⟩) (s.m + 1) cap)) (fun e => ne_of_tag hb4 hI4.hW (by simp [tagOf]) (by simpa using e))
                refine ⟨⟨e3, e4 w hf4⟩, e2, by rw [← hov']; exact e1, ⟨cell_blk hW3 5, cell_blk hW3 4, cell_blk hz3 8, cell_blk hz3 1, cell_blk hz3 9⟩, ⟨cell_blk e3.hW 5, cell_blk e3.hW 4, cell_blk hz5 8, cell_blk hz5 1, cell_blk hz5 9⟩⟩
              obtain ⟨i1, hi1, hy0, hy1, hy2⟩ := info_parts info123
              clear hov hov' ho0 hI4 hf4 hb4 hI hf hv X0 X1 X2 X3 X4 X5 X6 X7 X8 X9
              have hw5 : w4 = wr.alloc (Obj.cells #[.string pn, .int .i64 0, .bool b2, .bool b3, .bool b4, .bool b5, .int .i64 (s.step + 1), .int .i64 1, .pointer (some ⟨idb, 0, none⟩), .bool false] 95) := hw4
              go_wp2
              rw [← hw5, ← hz]
              clear hw4 hw5 hz c6 t0 c2 y0 y1 y2 y3 y4 y5 y6 y7 y8 y9
              refine wp_region_held_drew (S := fun w' => w'.cell? ⟨s.Wb, 5, none⟩ = some (.int .i64 (s.step + 1 : Nat)) ∧ w'.cell? ⟨s.Wb, 4, none⟩ = some (.int .i64 0) ∧ w'.cell? ⟨z, 8, none⟩ = some (.pointer (some ⟨idb, 0, none⟩)) ∧ w'.cell? ⟨z, 1, none⟩ = some (.int .i64 0) ∧ w'.cell? ⟨z, 9, none⟩ = some (.bool false)) (by kernel_rfl) (by go_keep) (fun hHeld => ?_)
              refine wpAnyH_take (i := 0) (v := ?v0) rfl (by kernel_rfl) (by kernel_rfl) (by kernel_rfl) (fun _ _ _ h => h) (Or.inl ⟨by rfl, ?y0⟩) (by assumption) ?r0
              case y0 => intro w hSw; (try dsimp only at hSw); go_simp; try with_reducible rfl
              simp only [Act.put, List.setIfInBounds_toArray, List.set_cons_zero, List.set_cons_succ]
              refine wpAnyH_take (i := 1) (v := ?v1) rfl (by kernel_rfl) (by kernel_rfl) (by kernel_rfl) (fun _ _ _ h => h) (Or.inl ⟨by rfl, ?y1⟩) (by assumption) ?r1
              case y1 => intro w hSw; (try dsimp only at hSw); go_simp; try with_reducible rfl
              simp only [Act.put, List.setIfInBounds_toArray, List.set_cons_zero, List.set_cons_succ]
              refine wpAnyH_take (i := 2) (v := ?v2) rfl (by kernel_rfl) (by kernel_rfl) (by kernel_rfl) (fun _ _ _ h => h) (Or.inl ⟨by rfl, ?y2⟩) (by assumption) ?r2
              case y2 => intro w hSw; (try dsimp only at hSw); go_simp; try with_reducible rfl
              simp only [Act.put, List.setIfInBounds_toArray, List.set_cons_zero, List.set_cons_succ]
              refine wpAnyH_take (i := 3) (v := ?v3) rfl (by kernel_rfl) (by kernel_rfl) (by kernel_rfl) (fun _ _ _ h => h) (Or.inl ⟨by rfl, ?y3⟩) (by assumption) ?r3
              case y3 => intro w hSw; (try dsimp only at hSw); go_simp; try with_reducible rfl
              simp only [Act.put, List.setIfInBounds_toArray, List.set_cons_zero, List.set_cons_succ]
              refine wpAnyH_take (i := 5) (v := ?v5) rfl (by kernel_rfl) (by kernel_rfl) (by kernel_rfl) (fun _ _ _ h => h) (Or.inl ⟨by rfl, ?y5⟩) (by assumption) ?r5
              case y5 => intro w hSw; (try dsimp only at hSw); go_simp; try with_reducible rfl
              simp only [Act.put, List.setIfInBounds_toArray, List.set_cons_zero, List.set_cons_succ]
              refine wpAnyH_take (i := 6) (v := ?v6) rfl (by kernel_rfl) (by kernel_rfl) (by kernel_rfl) (fun _ _ _ h => h) (Or.inl ⟨by rfl, ?y6⟩) (by assumption) ?r6
              case y6 => intro w hSw; (try dsimp only at hSw); go_simp; try with_reducible rfl
              simp only [Act.put, List.setIfInBounds_toArray, List.set_cons_zero, List.set_cons_succ]
              refine wpAnyH_take (i := 7) (v := ?v7) rfl (by kernel_rfl) (by kernel_rfl) (by kernel_rfl) (fun _ _ _ h => h) (Or.inl ⟨by rfl, ?y7⟩) (by assumption) ?r7
              case y7 => intro w hSw; (try dsimp only at hSw); go_simp; try with_reducible rfl
              simp only [Act.put, List.setIfInBounds_toArray, List.set_cons_zero, List.set_cons_succ]
              refine wpAnyH_take (i := 8) (v := ?v8) rfl (by kernel_rfl) (by kernel_rfl) (by kernel_rfl) (fun _ _ _ h => h) (Or.inl ⟨by rfl, ?y8⟩) (by assumption) ?r8
              case y8 => intro w hSw; (try dsimp only at hSw); go_simp; try with_reducible rfl
              simp only [Act.put, List.setIfInBounds_toArray, List.set_cons_zero, List.set_cons_succ]
              refine wpAnyH_take (i := 9) (v := ?v9) rfl (by kernel_rfl) (by kernel_rfl) (by kernel_rfl) (fun _ _ _ h => h) (Or.inl ⟨by rfl, ?y9⟩) (by assumption) ?r9
              case y9 => intro w hSw; (try dsimp only at hSw); go_simp; try with_reducible rfl
              simp only [Act.put, List.setIfInBounds_toArray, List.set_cons_zero, List.set_cons_succ]
              refine wpAnyH_take (i := 10) (v := ?v10) rfl (by kernel_rfl) (by kernel_rfl) (by kernel_rfl) (fun _ _ _ h => h) (Or.inl ⟨by rfl, ?y10⟩) (by assumption) ?r10
              case y10 => intro w hSw; (try dsimp only at hSw); go_simp; try with_reducible rfl
              simp only [Act.put, List.setIfInBounds_toArray, List.set_cons_zero, List.set_cons_succ]
              refine wpAnyH_take (i := 11) (v := ?v11) rfl (by kernel_rfl) (by kernel_rfl) (by kernel_rfl) (fun _ _ _ h => h) (Or.inl ⟨by rfl, ?y11⟩) (by assumption) ?r11
              case y11 => intro w hSw; (try dsimp only at hSw); go_simp; try with_reducible rfl
              simp only [Act.put, List.setIfInBounds_toArray, List.set_cons_zero, List.set_cons_succ]
              refine wpAnyH_take (i := 12) (v := ?v12) rfl (by kernel_rfl) (by kernel_rfl) (by kernel_rfl) (fun _ _ _ h => h) (Or.inl ⟨by rfl, ?y12⟩) (by assumption) ?r12
              case y12 => intro w hSw; (try dsimp only at hSw); go_simp; try with_reducible rfl
              simp only [Act.put, List.setIfInBounds_toArray, List.set_cons_zero, List.set_cons_succ]
              refine wpAnyH_take (i := 13) (v := ?v13) rfl (by kernel_rfl) (by kernel_rfl) (by kernel_rfl) (fun _ _ _ h => h) (Or.inl ⟨by rfl, ?y13⟩) (by assumption) ?r13
              case y13 => intro w hSw; (try dsimp only at hSw); go_simp; try with_reducible rfl
              simp only [Act.put, List.setIfInBounds_toArray, List.set_cons_zero, List.set_cons_succ]
              refine wpAnyH_take (i := 14) (v := ?v14) rfl (by kernel_rfl) (by kernel_rfl) (by kernel_rfl) (fun _ _ _ h => h) (Or.inr ⟨by kernel_rfl, ?e14⟩) (by assumption) ?r14
              case e14 => rfl
              simp only [Act.put, List.setIfInBounds_toArray, List.set_cons_zero, List.set_cons_succ]
              refine wpAnyH_take (i := 15) (v := ?v15) rfl (by kernel_rfl) (by kernel_rfl) (by kernel_rfl) (fun _ _ _ h => h) (Or.inr ⟨by kernel_rfl, ?e15⟩) (by assumption) ?r15
              case e15 => rfl
              simp only [Act.put, List.setIfInBounds_toArray, List.set_cons_zero, List.set_cons_succ]
              refine wpAnyH_take (i := 16) (v := ?v16) rfl (by kernel_rfl) (by kernel_rfl) (by kernel_rfl) (fun _ _ _ h => h) (Or.inr ⟨by kernel_rfl, ?e16⟩) (by assumption) ?r16
              case e16 => rfl
              simp only [Act.put, List.setIfInBounds_toArray, List.set_cons_zero, List.set_cons_succ]
              refine wpAnyH_take (i := 17) (v := ?v17) rfl (by kernel_rfl) (by kernel_rfl) (by kernel_rfl) (fun _ _ _ h => h) (Or.inl ⟨by rfl, ?y17⟩) (by assumption) ?r17
              case y17 => intro w hSw; (try dsimp only at hSw); go_simp; try with_reducible rfl
              simp only [Act.put, List.setIfInBounds_toArray, List.set_cons_zero, List.set_cons_succ]
              refine wpAnyH_take (i := 18) (v := ?v18) rfl (by kernel_rfl) (by kernel_rfl) (by kernel_rfl) (fun _ _ _ h => h) (Or.inl ⟨by rfl, ?y18⟩) (by assumption) ?r18
              case y18 => intro w hSw; (try dsimp only at hSw); go_simp; try with_reducible rfl
              simp only [Act.put, List.setIfInBounds_toArray, List.set_cons_zero, List.set_cons_succ]
              refine wpAnyH_take (i := 19) (v := ?v19) rfl (by kernel_rfl) (by kernel_rfl) (by kernel_rfl) (fun _ _ _ h => h) (Or.inl ⟨by rfl, ?y19⟩) (by assumption) ?r19
              case y19 => intro w hSw; (try dsimp only at hSw); go_simp; try with_reducible rfl
              simp only [Act.put, List.setIfInBounds_toArray, List.set_cons_zero, List.set_cons_succ]
              refine wpAnyH_take (i := 20) (v := ?v20) rfl (by kernel_rfl) (by kernel_rfl) (by kernel_rfl) (fun _ _ _ h => h) (Or.inl ⟨by rfl, ?y20⟩) (by assumption) ?r20
              case y20 => intro w hSw; (try dsimp only at hSw); go_simp; try with_reducible rfl
              simp only [Act.put, List.setIfInBounds_toArray, List.set_cons_zero, List.set_cons_succ]
              refine wpAnyH_take (i := 21) (v := ?v21) rfl (by kernel_rfl) (by kernel_rfl) (by kernel_rfl) (fun _ _ _ h => h) (Or.inl ⟨by rfl, ?y21⟩) (by assumption) ?r21
              case y21 => intro w hSw; (try dsimp only at hSw); go_simp; try with_reducible rfl
              simp only [Act.put, List.setIfInBounds_toArray, List.set_cons_zero, List.set_cons_succ]
              refine wpAnyH_take (i := 22) (v := ?v22) rfl (by kernel_rfl) (by kernel_rfl) (by kernel_rfl) (fun _ _ _ h => h) (Or.inl ⟨by rfl, ?y22⟩) (by assumption) ?r22
              case y22 => intro w hSw; (try dsimp only at hSw); go_simp; try with_reducible rfl
              simp only [Act.put, List.setIfInBounds_toArray, List.set_cons_zero, List.set_cons_succ]
              refine wpAnyH_take (i := 23) (v := ?v23) rfl (by kernel_rfl) (by kernel_rfl) (by kernel_rfl) (fun _ _ _ h => h) (Or.inl ⟨by rfl, ?y23⟩) (by assumption) ?r23
              case y23 => intro w hSw; (try dsimp only at hSw); go_simp; try with_reducible rfl
              simp only [Act.put, List.setIfInBounds_toArray, List.set_cons_zero, List.set_cons_succ]
              refine wpAnyH_take (i := 24) (v := ?v24) rfl (by kernel_rfl) (by kernel_rfl) (by kernel_rfl) (fun _ _ _ h => h) (Or.inl ⟨by rfl, ?y24⟩) (by assumption) ?r24
              case y24 => intro w hSw; (try dsimp only at hSw); go_simp; try with_reducible rfl
              simp only [Act.put, List.setIfInBounds_toArray, List.set_cons_zero, List.set_cons_succ]
              refine wpAnyH_take (i := 25) (v := ?v25) rfl (by kernel_rfl) (by kernel_rfl) (by kernel_rfl) (fun _ _ _ h => h) (Or.inl ⟨by rfl, ?y25⟩) (by assumption) ?r25
              case y25 => intro w hSw; (try dsimp only at hSw); go_simp; try with_reducible rfl
              simp only [Act.put, List.setIfInBounds_toArray, List.set_cons_zero, List.set_cons_succ]
              refine wpAnyH_take (i := 26) (v := ?v26) rfl (by kernel_rfl) (by kernel_rfl) (by kernel_rfl) (fun _ _ _ h => h) (Or.inl ⟨by rfl, ?y26⟩) (by assumption) ?r26
              case y26 => intro w hSw; (try dsimp only at hSw); go_simp; try with_reducible rfl
              simp only [Act.put, List.setIfInBounds_toArray, List.set_cons_zero, List.set_cons_succ]
              refine wpAnyH_take (i := 27) (v := ?v27) rfl (by kernel_rfl) (by kernel_rfl) (by kernel_rfl) (fun _ _ _ h => h) (Or.inl ⟨by rfl, ?y27⟩) (by assumption) ?r27
              case y27 => intro w hSw; (try dsimp only at hSw); go_simp; try with_reducible rfl
              simp only [Act.put, List.setIfInBounds_toArray, List.set_cons_zero, List.set_cons_succ]
              clear m1 m4 m5 m8 m9
              refine wpAnyH_ready (rs := [4, 28]) (by kernel_rfl) (by simp) ?_
              refine AllReadyH.cons rfl (fun K hK => ?_) (AllReadyH.cons rfl (fun K hK => ?_) AllReadyH.nil)
              · go_simp
                refine hK.out _ _ (by first | assumption | exact KS.out _ | go_keep) (fun hHeld => ?_)
                clear hK K
                refine wpAnyH_ready (rs := [28]) (by kernel_rfl) (by simp) ?_
                refine AllReadyH.cons rfl (fun K hK => ?_) AllReadyH.nil
                go_simp
                refine hK.out _ _ (by first | assumption | exact KS.out _ | go_keep) (fun hHeld => ?_)
                clear hK K
                refine wpAnyH_ready (rs := [29]) (by kernel_rfl) (by simp) ?_
                refine AllReadyH.cons rfl (fun K hK => ?_) AllReadyH.nil
                refine step_append_lies _ rfl _ _ _ rfl B 123 i1 (.agg #[.pointer none, .int .i64 0, .int .i64 0, .bool false, .bool false, .bool false]) 6 32 Try.underlying90 hi1 hy0 hy1 hy2 rfl (by decide) (.slice a0 s.m cp0) s.m s.os rfl (HOWN.out _) ⟨w4.heap.size, 0, none⟩ 1 1 (newOnly idb j (s.step + 1) false) rfl rfl (HNEWS.out _) (own_newOnly _ _ _ _) (by decide) (by unfold maxLen; omega) (by omega) (HBASE.out _) (w4.heap.size + 1) (by simp) ?_
                intro g cap w3 hown3 hgrow3 hat3 hlt3
                obtain ⟨H3, f3, e2, e3, e4⟩ := T.out g cap w3 _ hgrow3 hown3
                clear hgrow3 hown3 hHeld
                refine hK.out _ _ e3 (fun hHeld => ?_)
                clear hK K
                refine wpAnyH_take (i := 30) (v := ?v30a) rfl (by kernel_rfl) (by kernel_rfl) (by kernel_rfl) (fun _ _ _ h => h) (Or.inl ⟨by rfl, ?y30a⟩) (by assumption) ?r30a
                case y30a => intro w hSw; (try dsimp only at hSw); go_simp; try with_reducible rfl
                simp only [Act.put, List.setIfInBounds_toArray, List.set_cons_zero, List.set_cons_succ]
                refine wpAnyH_take (i := 31) (v := ?v31a) rfl (by kernel_rfl) (by kernel_rfl) (by kernel_rfl) (fun _ _ _ h => h) (Or.inl ⟨by rfl, ?y31a⟩) (by assumption) ?r31a
                case y31a => intro w hSw; (try dsimp only at hSw); go_simp; try with_reducible rfl
                simp only [Act.put, List.setIfInBounds_toArray, List.set_cons_zero, List.set_cons_succ]
                refine wpAnyH_ready (rs := [32]) (by kernel_rfl) (by simp) ?_
                refine AllReadyH.cons rfl (fun K hK => ?_) AllReadyH.nil
                go_simp
                refine hK.out _ _ (by exact e4) (fun hHeld => ?_)
                clear hK K
                refine wpAnyH_done (by kernel_rfl) ?_ _
                clear hHeld
                have H4 := H3.out
                go_wp2
                go_roundg 0
                case measure => omega
                case rel => exact .inr ⟨rfl, rfl, _, H4⟩

              · go_simp
                refine hK.out _ _ (by first | assumption | exact KS.out _ | go_keep) (fun hHeld => ?_)
                clear hK K
                refine wpAnyH_ready (rs := [4]) (by kernel_rfl) (by simp) ?_
                refine AllReadyH.cons rfl (fun K hK => ?_) AllReadyH.nil
                go_simp
                refine hK.out _ _ (by first | assumption | exact KS.out _ | go_keep) (fun hHeld => ?_)
                clear hK K
                refine wpAnyH_ready (rs := [29]) (by kernel_rfl) (by simp) ?_
                refine AllReadyH.cons rfl (fun K hK => ?_) AllReadyH.nil
                refine step_append_lies _ rfl _ _ _ rfl B 123 i1 (.agg #[.pointer none, .int .i64 0, .int .i64 0, .bool false, .bool false, .bool false]) 6 32 Try.underlying90 hi1 hy0 hy1 hy2 rfl (by decide) (.slice a0 s.m cp0) s.m s.os rfl (HOWN.out _) ⟨w4.heap.size, 0, none⟩ 1 1 (newOnly idb j (s.step + 1) false) rfl rfl (HNEWS.out _) (own_newOnly _ _ _ _) (by decide) (by unfold maxLen; omega) (by omega) (HBASE.out _) (w4.heap.size + 1) (by simp) ?_
                intro g cap w3 hown3 hgrow3 hat3 hlt3
                obtain ⟨H3, f3, e2, e3, e4⟩ := T.out g cap w3 _ hgrow3 hown3
                clear hgrow3 hown3 hHeld
                refine hK.out _ _ e3 (fun hHeld => ?_)
                clear hK K
                refine wpAnyH_take (i := 30) (v := ?v30b) rfl (by kernel_rfl) (by kernel_rfl) (by kernel_rfl) (fun _ _ _ h => h) (Or.inl ⟨by rfl, ?y30b⟩) (by assumption) ?r30b
                case y30b => intro w hSw; (try dsimp only at hSw); go_simp; try with_reducible rfl
                simp only [Act.put, List.setIfInBounds_toArray, List.set_cons_zero, List.set_cons_succ]
                refine wpAnyH_take (i := 31) (v := ?v31b) rfl (by kernel_rfl) (by kernel_rfl) (by kernel_rfl) (fun _ _ _ h => h) (Or.inl ⟨by rfl, ?y31b⟩) (by assumption) ?r31b
                case y31b => intro w hSw; (try dsimp only at hSw); go_simp; try with_reducible rfl
                simp only [Act.put, List.setIfInBounds_toArray, List.set_cons_zero, List.set_cons_succ]
                refine wpAnyH_ready (rs := [32]) (by kernel_rfl) (by simp) ?_
                refine AllReadyH.cons rfl (fun K hK => ?_) AllReadyH.nil
                go_simp
                refine hK.out _ _ (by exact e4) (fun hHeld => ?_)
                clear hK K
                refine wpAnyH_done (by kernel_rfl) ?_ _
                clear hHeld
                have H4 := H3.out
                go_wp2
                go_roundg 0
                case measure => omega
                case rel => exact .inr ⟨rfl, rfl, _, H4⟩

            · obtain ⟨hI, hf⟩ := H.out
              have q6 : wr.cell? ⟨s.Wb, 6, none⟩ = some (.slice (some ⟨tg, 0, none⟩) 1 tc) := (cell_blk hI.hW 6).trans (by rw [← htv]; rfl)
              have g6 : wr.frozen? ⟨s.Wb, 6, none⟩ = false := free_blk hI.hW 6
              have tcl : 1 ≤ tc := by
                rcases hI.ht.2 with ⟨h1, h2⟩ | ⟨g, cap, cur, h1, _, _, h3, _⟩
                · cases h2
                · rw [show St.tv _ = .slice (some ⟨tg, 0, none⟩) 1 tc from htv] at h1; cases h1; exact h3
              have hI6 : Inv B R { s with step := s.step + 1, kv := kv, kn := 0, ks := [], tv := .slice (some ⟨tg, 0, none⟩) 0 tc, tn := 0, ts := [], xs := rdXs s.xs j (s.step + 1) idb false, ov := ov, m := s.m + 1, os := s.os ++ newOnly idb j (s.step + 1) false } (wr.setCell ⟨s.Wb, 6, none⟩ (.slice (some ⟨tg, 0, none⟩) 0 tc)) :=
                hI.pushT (grefl _ _) (own_cut (n := 1) (xs := [.int .i64 j]) (by rw [← htv]; exact hI.ht))
              have hf6 : Fr B R w (wr.setCell ⟨s.Wb, 6, none⟩ (.slice (some ⟨tg, 0, none⟩) 0 tc)) := hf.grown (gset wr ⟨s.Wb, 6, none⟩ (.slice (some ⟨tg, 0, none⟩) 0 tc)) hI.hB (fun k e => by simp at e; subst e; exact .inl hI.bW)
              have H6 : Hid (∃ kv tv ov, Inv B R { s with step := s.step + 1, kv := kv, kn := 0, ks := [], tv := tv, tn := 0, ts := [], xs := rdXs s.xs j (s.step + 1) idb false, ov := ov, m := s.m + 1, os := s.os ++ newOnly idb j (s.step + 1) false } (wr.setCell ⟨s.Wb, 6, none⟩ (.slice (some ⟨tg, 0, none⟩) 0 tc)) ∧ Fr B R w (wr.setCell ⟨s.Wb, 6, none⟩ (.slice (some ⟨tg, 0, none⟩) 0 tc))) := ⟨_, _, _, hI6, hf6⟩
              clear hI hf hI6 hf6
              go_wp2
              go_end0
              exact ⟨rfl, H6.out⟩
end Go.Proofs.Qxb6613372a
