/-
  Seat b6613372a: walkStep, a name that stands for no variable.
-/
import Derived.Test.Qxb6613372aWF0
namespace Go.Proofs.Qxb6613372a
open Go.ChangeShapes Go.WideShapes Go.ChangeAt Go.RowKit Go.MapKept
set_option linter.unusedSimpArgs false
set_option linter.unusedVariables false

theorem cutK {B R : Nat} {s : St} {w w1 : World} (h : Inv B R { s with step := s.step + 1 } w1) (hf : Fr B R w w1) {a8 : Option Addr} {k8 : Nat} (h8 : s.kv = .slice a8 s.kn k8) {eb : Nat} {o : Obj} (hE : w1.heap[eb]? = some o) (eE : eb ≠ s.Wb) :
    Inv B R (S2 s (.slice a8 0 k8)) (w1.setCell ⟨s.Wb, 8, none⟩ (.slice a8 0 k8)) ∧ Fr B R w (w1.setCell ⟨s.Wb, 8, none⟩ (.slice a8 0 k8)) ∧ (w1.setCell ⟨s.Wb, 8, none⟩ (.slice a8 0 k8)).heap[eb]? = some o := by
  have b1 := h.bW
  refine ⟨h.pushK (grefl _ _) (own_cut (n := s.kn) (xs := s.ks) (by rw [← h8]; exact h.hk)), hf.grown (gset w1 ⟨s.Wb, 8, none⟩ (.slice a8 0 k8)) h.hB (fun k e => by simp at e; subst e; exact .inl b1), blk_kept hE (gset w1 ⟨s.Wb, 8, none⟩ (.slice a8 0 k8)) (by simpa using eE)⟩

theorem cutT {B R : Nat} {s : St} {w w1 : World} (h : Inv B R s w1) (hf : Fr B R w w1) {a8 : Option Addr} {k8 : Nat} (h8 : s.tv = .slice a8 s.tn k8) :
    Inv B R { s with tv := .slice a8 0 k8, tn := 0, ts := [] } (w1.setCell ⟨s.Wb, 6, none⟩ (.slice a8 0 k8)) ∧ Fr B R w (w1.setCell ⟨s.Wb, 6, none⟩ (.slice a8 0 k8)) := by
  have b1 := h.bW
  exact ⟨h.pushT (grefl _ _) (own_cut (n := s.tn) (xs := s.ts) (by rw [← h8]; exact h.ht)), hf.grown (gset w1 ⟨s.Wb, 6, none⟩ (.slice a8 0 k8)) h.hB (fun k e => by simp at e; subst e; exact .inl b1)⟩

theorem cutC {B : Nat} {e : TypeId} {size : Nat} {w : World} {v : Value} {n : Nat} {xs : List Value} (h : w.ownsRow B e size v n xs) {a : Option Addr} {c : Nat} (hv : v = .slice a n c) : n ≤ c := by
  rcases h.2 with ⟨h1, h2⟩ | ⟨g, cap, cur, h1, _, _, h3, _⟩
  · omega
  · rw [hv] at h1; cases h1; exact h3

set_option maxRecDepth 100000 in
set_option maxHeartbeats 1000000 in
theorem step_ret_miss {B R : Nat} {s : St} {w : World} (h : Inv B R s w) (nm : ByteArray) (idb eb : Nat) (hE : w.heap[eb]? = some (.cells #[.iface 57 (.pointer (some ⟨idb, 0, none⟩))] 71 (0, 0))) (hid : w.cell? ⟨idb, 2, none⟩ = some (.string nm)) (hidB : idb < B) (hidR : idb ≠ R) (hsp : s.step ≤ 65530) (hj : s.FV nm = none) (htn : s.tn = 0) :
    Calls Try.prog 26 #[.pointer (some ⟨s.Wb, 0, none⟩), .pointer none, .bool true, .bool false, .slice (some ⟨eb, 0, none⟩) 1 1] w fun e w' => e = .returned (.tuple #[]) ∧ ∃ kv tv, Inv B R { s with step := s.step + 1, kv := kv, kn := 0, ks := [], tv := tv, tn := 0, ts := [] } w' ∧ Fr B R w w' := by
  obtain ⟨a8, k8, h8⟩ := slice_shape h.hk
  have c5 : w.cell? ⟨s.Wb, 5, none⟩ = some (.int .i64 s.step) := cell_blk h.hW 5
  have c8 : w.cell? ⟨s.Wb, 8, none⟩ = some (.slice a8 s.kn k8) := (cell_blk h.hW 8).trans (by rw [h8]; rfl)
  have f5 : w.frozen? ⟨s.Wb, 5, none⟩ = false := free_blk h.hW 5
  have f8 : w.frozen? ⟨s.Wb, 8, none⟩ = false := free_blk h.hW 8
  have kk : s.kn ≤ k8 := cutC h.hk h8
  have b1 := h.bW
  have eE : eb ≠ s.Wb := ne_of_tag hE h.hW (by simp [tagOf])
  have hT := h.tick
  have hTf : Fr B R w (w.setCell ⟨s.Wb, 5, none⟩ (.int .i64 (s.step + 1 : Nat))) := (Fr.refl B R w).grown (gset w ⟨s.Wb, 5, none⟩ (.int .i64 (s.step + 1 : Nat))) h.hB (fun k e => by simp at e; exact .inl (by omega))
  have hE1 : (w.setCell ⟨s.Wb, 5, none⟩ (.int .i64 (s.step + 1 : Nat))).heap[eb]? = some (.cells #[.iface 57 (.pointer (some ⟨idb, 0, none⟩))] 71 (0, 0)) := blk_kept hE (gset w ⟨s.Wb, 5, none⟩ (.int .i64 (s.step + 1 : Nat))) (by simpa using eE)
  have H0 : Hid (Inv B R (S2 s (.slice a8 0 k8)) ((w.setCell ⟨s.Wb, 5, none⟩ (.int .i64 (s.step + 1))).setCell ⟨s.Wb, 8, none⟩ (.slice a8 0 k8)) ∧ Fr B R w ((w.setCell ⟨s.Wb, 5, none⟩ (.int .i64 (s.step + 1))).setCell ⟨s.Wb, 8, none⟩ (.slice a8 0 k8)) ∧ ((w.setCell ⟨s.Wb, 5, none⟩ (.int .i64 (s.step + 1))).setCell ⟨s.Wb, 8, none⟩ (.slice a8 0 k8)).heap[eb]? = some (.cells #[.iface 57 (.pointer (some ⟨idb, 0, none⟩))] 71 (0, 0))) := cutK hT hTf h8 hE1 eE
  obtain ⟨i0, hi, hz0, hz1, hz2⟩ := info_parts info126
  clear h hT hTf hE1 hE
  go_enter Try.func26, Try.ntmps26
  go_wp2
  go_loopg [58] 1 (fun g x wr => (g = 1 ∧ x = .int .i64 0 ∧ Hid (Inv B R (S2 s (.slice a8 0 k8)) wr ∧ Fr B R w wr ∧ wr.heap[eb]? = some (.cells #[.iface 57 (.pointer (some ⟨idb, 0, none⟩))] 71 (0, 0)))) ∨ (g = 0 ∧ x = .int .i64 1 ∧ ∃ kg kc, Hid (Inv B R (S3 s (.slice (some ⟨kg, 0, none⟩) 1 kc) (.iface 57 (.pointer (some ⟨idb, 0, none⟩))) false) wr ∧ Fr B R w wr)))
  case atStart => exact .inl ⟨rfl, rfl, H0.out⟩
  case round =>
    obtain ⟨rfl, rfl, H⟩ | ⟨rfl, rfl, kg, kc, H⟩ := hrel
    · obtain ⟨hI, hf, hE⟩ := H.out
      have d8 : wr.cell? ⟨s.Wb, 8, none⟩ = some (.slice a8 0 k8) := cell_blk hI.hW 8
      have dE : wr.cell? ⟨eb, 0, none⟩ = some (.iface 57 (.pointer (some ⟨idb, 0, none⟩))) := cell_blk hE 0
      have HT : Hid (∀ o : Obj, (wr.alloc o).ownsRow B 126 2 (.slice a8 0 k8) 0 []) := fun o => (hI.alloc o).hk
      have HB : Hid (∀ o : Obj, B ≤ (wr.alloc o).heap.size) := fun o => (hI.alloc o).hB
      have HN : Hid (∀ cs : Array Value, ∀ (i : Nat) (u : Value), cs.toList[i]? = some u → (wr.alloc (.cells cs 126)).cell? ((⟨wr.heap.size, 0, none⟩ : Addr).add i) = some u) := fun cs => World.news_of_block (MapKept.heap_alloc wr (.cells cs 126)).1
      clear hI hf hE
      go_wp2_with (at_builtin; refine wpList_append_lies _ rfl _ _ 91 rfl B 126 i0 (.agg #[.nilIface, .bool false]) 2 24 Try.underlying91 hi hz0 hz1 hz2 rfl (by decide) (.slice a8 0 k8) 0 [] rfl (HT.out _) ⟨wr.heap.size, 0, none⟩ 1 1 [.iface 57 (.pointer (some ⟨idb, 0, none⟩)), .bool false] rfl rfl (HN.out _) (by simp [Value.oneCell']) (by decide) (by unfold maxLen; omega) (by omega) (HB.out _) _ rfl ?_)
      intro kg kc w3 hown3 hgrow3 hat3 hlt3
      obtain ⟨⟨e1, e2⟩, hI3, hf3⟩ := Inv.pushK_facts H.out.1 hgrow3 hown3
      have H3 : Hid (Inv B R (S3 s (.slice (some ⟨kg, 0, none⟩) 1 kc) (.iface 57 (.pointer (some ⟨idb, 0, none⟩))) false) (w3.setCell ⟨s.Wb, 8, none⟩ (.slice (some ⟨kg, 0, none⟩) 1 kc)) ∧ Fr B R w (w3.setCell ⟨s.Wb, 8, none⟩ (.slice (some ⟨kg, 0, none⟩) 1 kc))) := ⟨hI3, hf3 w H.out.2.1⟩
      clear hI3 hf3 hgrow3 hown3 HT HB HN
      have e1' : w3.cell? ⟨s.Wb, 8, none⟩ = some (.slice a8 0 k8) := e1
      have e2' : w3.frozen? ⟨s.Wb, 8, none⟩ = false := e2
      go_wp2
      go_roundg 0
      case measure => omega
      case rel => exact .inr ⟨rfl, rfl, kg, kc, H3.out⟩
    · go_wp2
      go_loopg [80] 1 (fun g x wr => (g = 1 ∧ Hid (Inv B R (S3 s (.slice (some ⟨kg, 0, none⟩) 1 kc) (.iface 57 (.pointer (some ⟨idb, 0, none⟩))) false) wr ∧ Fr B R w wr)) ∨ (g = 0 ∧ ∃ kv, Hid (Inv B R { s with step := s.step + 1, kv := kv, kn := 0, ks := [] } wr ∧ Fr B R w wr)))
      case atStart => exact .inl ⟨rfl, H.out⟩
      case round =>
        clear H
        obtain ⟨rfl, H⟩ | ⟨rfl, kv, H⟩ := hrel
        · obtain ⟨hI, hf⟩ := H.out
          have d8 : wr.cell? ⟨s.Wb, 8, none⟩ = some (.slice (some ⟨kg, 0, none⟩) 1 kc) := cell_blk hI.hW 8
          have k0 : wr.cell? ⟨kg, 0, none⟩ = some (.iface 57 (.pointer (some ⟨idb, 0, none⟩))) := own_cell hI.hk rfl
          have k1 : wr.cell? ⟨kg, 1, none⟩ = some (.bool false) := own_cell hI.hk rfl
          have g8 : wr.frozen? ⟨s.Wb, 8, none⟩ = false := free_blk hI.hW 8
          have lW := lt_of_blk hI.hW
          have lK := (hI.hk.lt kg rfl).2
          have d8' : ∀ o : Obj, (wr.alloc o).cell? ⟨s.Wb, 8, none⟩ = some (.slice (some ⟨kg, 0, none⟩) 1 kc) := fun o => (World.cell?_of_block (Below.heap_alloc wr o s.Wb lW)).trans d8
          have k0' : ∀ o : Obj, (wr.alloc o).cell? ⟨kg, 0, none⟩ = some (.iface 57 (.pointer (some ⟨idb, 0, none⟩))) := fun o => (World.cell?_of_block (Below.heap_alloc wr o kg lK)).trans k0
          have k1' : ∀ o : Obj, (wr.alloc o).cell? ⟨kg, 1, none⟩ = some (.bool false) := fun o => (World.cell?_of_block (Below.heap_alloc wr o kg lK)).trans k1
          have g8' : ∀ o : Obj, (wr.alloc o).frozen? ⟨s.Wb, 8, none⟩ = false := fun o => (World.frozen?_of_block (Below.heap_alloc wr o s.Wb lW)).trans g8
          have wz : IntKind.i64.wrap 0 = 0 := rfl
          have n1 : wr.heap.size ≠ s.Wb := Nat.ne_of_gt (lt_of_blk hI.hW)
          have n2 : wr.heap.size ≠ kg := Nat.ne_of_gt (hI.hk.lt kg rfl).2
          have n3 : s.Wb ≠ wr.heap.size := n1.symm
          have n4 : kg ≠ wr.heap.size := n2.symm
          have I2 : Hid (∀ o : Obj, Inv B R { s with step := s.step + 1, kv := .slice (some ⟨kg, 0, none⟩) 0 kc, kn := 0, ks := [] } (((wr.alloc o).setCell ⟨s.Wb, 8, none⟩ (.slice (some ⟨kg, 0, none⟩) 0 kc)).drew.drew) ∧ Fr B R w (((wr.alloc o).setCell ⟨s.Wb, 8, none⟩ (.slice (some ⟨kg, 0, none⟩) 0 kc)).drew.drew)) := fun o => by
            have i1 := hI.alloc o
            have i2 : Inv B R { s with step := s.step + 1, kv := .slice (some ⟨kg, 0, none⟩) 0 kc, kn := 0, ks := [] } ((wr.alloc o).setCell ⟨s.Wb, 8, none⟩ (.slice (some ⟨kg, 0, none⟩) 0 kc)) := i1.pushK (grefl _ _) (own_cut i1.hk)
            refine ⟨i2.drew.drew, ?_⟩
            have b1 := hI.bW
            have g1 := hf.grown (galloc wr o none) hI.hB (by simp)
            have g2 := g1.grown (gset (wr.alloc o) ⟨s.Wb, 8, none⟩ (.slice (some ⟨kg, 0, none⟩) 0 kc)) i1.hB (fun k e => by simp at e; subst e; exact .inl b1)
            have g3 := g2.grown (gdrew _ none) i2.hB (by simp)
            exact g3.grown (gdrew _ none) i2.drew.hB (by simp)
          have ta := fun w' => ta_hit (xT := 71) (.pointer (some ⟨idb, 0, none⟩)) w' Try.underlying57
          have RD : Hid (∀ o : Obj, Calls Try.prog 29 #[.pointer (some ⟨s.Wb, 0, none⟩), .pointer (some ⟨idb, 0, none⟩), .bool false] (((wr.alloc o).setCell ⟨s.Wb, 8, none⟩ (.slice (some ⟨kg, 0, none⟩) 0 kc)).drew.drew) fun e w' => e = .returned (.tuple #[]) ∧
              Inv B R { s with step := s.step + 1, kv := .slice (some ⟨kg, 0, none⟩) 0 kc, kn := 0, ks := [] } w' ∧ Fr B R w w') := fun o => by
            refine (read_miss (I2.out o).1 nm idb (cell_fr hid (I2.out o).2 hidB hidR) hj false).mono ?_
            rintro e w' ⟨he, hi', hf'⟩
            exact ⟨he, hi', (I2.out o).2.trans hf'⟩
          clear hI hf I2
          go_wp2
          go_region
          go_wp2
          go_region
          go_wp2_with fail
          refine (RD.out _).mono ?_
          rintro e w5 ⟨rfl, hI5, hf5⟩
          have H5 : Hid (Inv B R { s with step := s.step + 1, kv := .slice (some ⟨kg, 0, none⟩) 0 kc, kn := 0, ks := [] } w5 ∧ Fr B R w w5) := ⟨hI5, hf5⟩
          clear hI5 hf5 RD
          go_wp2
          go_roundg 0
          case measure => omega
          case rel => exact .inr ⟨rfl, _, H5.out⟩
        · obtain ⟨hI, hf⟩ := H.out
          have d8 : wr.cell? ⟨s.Wb, 8, none⟩ = some kv := cell_blk hI.hW 8
          obtain ⟨a9, c9, hkv⟩ := slice_shape hI.hk
          have hkv' : kv = .slice a9 0 c9 := hkv
          rw [hkv'] at d8
          obtain ⟨a6, c6, htv⟩ := slice_shape hI.ht
          have htv' : s.tv = .slice a6 0 c6 := htn ▸ htv
          have d6 : wr.cell? ⟨s.Wb, 6, none⟩ = some (.slice a6 0 c6) := (cell_blk hI.hW 6).trans (by rw [← htv']; rfl)
          have g6 : wr.frozen? ⟨s.Wb, 6, none⟩ = false := free_blk hI.hW 6
          have H6 : Hid (∃ kv tv, Inv B R { s with step := s.step + 1, kv := kv, kn := 0, ks := [], tv := tv, tn := 0, ts := [] } (wr.setCell ⟨s.Wb, 6, none⟩ (.slice a6 0 c6)) ∧ Fr B R w (wr.setCell ⟨s.Wb, 6, none⟩ (.slice a6 0 c6))) := by
            have := cutT hI hf htv
            exact ⟨_, _, this⟩
          clear hkv hkv' htv htv'
          clear hI hf
          go_wp2
          go_loopg [207] 0 (fun g x wr' => x = .int .i64 0 ∧ wr' = wr)
          case atStart => exact ⟨rfl, rfl⟩
          case round =>
            obtain ⟨rfl, rfl⟩ := hrel
            go_wp2
            go_end0
            exact ⟨rfl, H6.out⟩

end Go.Proofs.Qxb6613372a
