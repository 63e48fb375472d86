/-
  Seat b6613372a: read.
-/
import Derived.Test.Qxb6613372aWD
import Derived.OwnWalk
namespace Go.Proofs.Qxb6613372a
open Go.ChangeShapes Go.WideShapes Go.ChangeAt Go.RowKit Go.MapKept
set_option linter.unusedSimpArgs false
set_option linter.unusedVariables false

theorem info3 : (Try.prog.info? 3).map (fun i => (i.zero, i.size, i.bytes)) = some (some (.int .i64 0), 1, 8) := by kernel_rfl

section
variable {B R : Nat} {s : St} {w : World}
theorem take_set (l : List Value) (k i : Nat) (v : Value) : (l.set i v).take k = (l.take k).set i v := by
  rw [List.take_set]

theorem own_set {base : Nat} {e : TypeId} {size g cap n : Nat} {xs : List Value} (h : w.ownsRow base e size (.slice (some ⟨g, 0, none⟩) n cap) n xs) (i : Nat) (v : Value) : (w.setCell ⟨g, i, none⟩ v).ownsRow base e size (.slice (some ⟨g, 0, none⟩) n cap) n (xs.set i v) := by
  obtain ⟨hl, ⟨h1, _⟩ | ⟨g', cap', cur, h1, hbg, hg, hnc, hcm, hcs, ht⟩⟩ := h
  · cases h1
  · cases h1
    refine ⟨by simpa using hl, .inr ⟨g, cap, cur.setIfInBounds i v, rfl, hbg, blk_set hg i v, hnc, hcm, by simpa using hcs, ?_⟩⟩
    rw [Array.toList_setIfInBounds, take_set, ht]

theorem own_cell {base : Nat} {e : TypeId} {size g cap n : Nat} {xs : List Value} (h : w.ownsRow base e size (.slice (some ⟨g, 0, none⟩) n cap) n xs) {i : Nat} {v : Value} (hi : xs[i]? = some v) : w.cell? ⟨g, i, none⟩ = some v := by
  have := h.cells (g := g) rfl i v hi
  have hadd : (⟨g, 0, none⟩ : Addr).add i = ⟨g, i, none⟩ := by unfold Addr.add; split <;> simp_all
  rw [hadd] at this
  exact this

theorem own_free {base : Nat} {e : TypeId} {size g cap n : Nat} {xs : List Value} (h : w.ownsRow base e size (.slice (some ⟨g, 0, none⟩) n cap) n xs) (i : Nat) : w.frozen? ⟨g, i, none⟩ = false := by
  obtain ⟨hl, ⟨h1, _⟩ | ⟨g', cap', cur, h1, hbg, hg, hnc, hcm, hcs, ht⟩⟩ := h
  · cases h1
  · cases h1
    exact free_blk hg i

theorem Inv.setV (h : Inv B R s w) {g cap : Nat} (hvv : s.vv = .slice (some ⟨g, 0, none⟩) s.n cap) (i : Nat) (v : Value) : Inv B R { s with xs := s.xs.set i v } (w.setCell ⟨g, i, none⟩ v) := by
  obtain ⟨F', k', hR0⟩ := h.hR
  have hv := h.hv
  rw [hvv] at hv
  have hg := gset w ⟨g, i, none⟩ v
  have hb : (some g : Option Nat) = (Value.slice (some ⟨g, 0, none⟩) s.n cap).ownBlock := rfl
  refine ⟨Nat.le_trans h.hB hg.size, blk_kept h.hW hg (fun e => own_ne hv h.hW (by simp [tagOf]) (by simpa [Value.ownBlock] using e.symm)), blk_kept h.hS hg (fun e => own_ne hv h.hS (by simp [tagOf]) (by simpa [Value.ownBlock] using e.symm)), h.hU.kept hg (fun e => h.hU.ne_own hv (by simpa [Value.ownBlock] using e)), h.hV.kept hg (fun _ _ _ hb _ _ e => hb.ne_own hv (by simpa [Value.ownBlock] using e)), ⟨F', k', hR0.kept hg (fun e => hR0.ne_own hv (by simpa [Value.ownBlock] using e))⟩, h.bW, h.bS, h.bU, h.bR, ?_, ?_, ?_, ?_⟩
  · show (w.setCell ⟨g, i, none⟩ v).ownsRow B 95 10 s.vv s.n (s.xs.set i v)
    rw [hvv]; exact own_set hv i v
  · exact own_kept h.ht hg (own_own h.ht hv (by decide))
  · exact own_kept h.ho hg (own_own h.ho hv (by decide))
  · exact own_kept h.hk hg (own_own h.hk hv (by decide))
end

def rd4 (xs : List Value) (j step idb : Nat) (hb : Bool) : List Value := (((xs.set (j * 10 + 6) (.int .i64 step)).set (j * 10 + 7) (.int .i64 0)).set (j * 10 + 8) (.pointer (some ⟨idb, 0, none⟩))).set (j * 10 + 9) (.bool hb)
def rdXs (xs : List Value) (j step idb : Nat) (hb : Bool) : List Value := (rd4 xs j step idb hb).set (j * 10 + 7) (.int .i64 1)

theorem Inv.set4 {B R : Nat} {s : St} {w : World} (h : Inv B R s w) {g cap : Nat} (hvv : s.vv = .slice (some ⟨g, 0, none⟩) s.n cap) (j idb : Nat) (hb : Bool) :
    Inv B R { s with xs := rd4 s.xs j s.step idb hb } ((((w.setCell ⟨g, j * 10 + 6, none⟩ (.int .i64 s.step)).setCell ⟨g, j * 10 + 7, none⟩ (.int .i64 0)).setCell ⟨g, j * 10 + 8, none⟩ (.pointer (some ⟨idb, 0, none⟩))).setCell ⟨g, j * 10 + 9, none⟩ (.bool hb)) := by
  have a1 := h.setV hvv (j * 10 + 6) (.int .i64 s.step)
  have a2 := a1.setV (g := g) (cap := cap) hvv (j * 10 + 7) (.int .i64 0)
  have a3 := a2.setV (g := g) (cap := cap) hvv (j * 10 + 8) (.pointer (some ⟨idb, 0, none⟩))
  have a4 := a3.setV (g := g) (cap := cap) hvv (j * 10 + 9) (.bool hb)
  exact a4

set_option maxRecDepth 100000 in
set_option maxHeartbeats 400000 in
theorem read_hit {B R : Nat} {s : St} {w : World} (h : Inv B R s w) (nm : ByteArray) (idb : Nat) (hid : w.cell? ⟨idb, 2, none⟩ = some (.string nm)) (hidB : idb < B) (hidR : idb ≠ R) (j : Nat) (hj : s.FV nm = some j) (hjn : j < s.n) (hn : s.n ≤ 65536) (hb : Bool) (htn : s.tn = 0)
    (st : Nat) (hst : s.xs[j * 10 + 6]? = some (.int .i64 st)) (hne : st < s.step) (hsp : s.step ≤ 65536) (r : Value) (hr : s.xs[j * 10 + 7]? = some r) (p : Value) (hp : s.xs[j * 10 + 8]? = some p) (q : Value) (hq : s.xs[j * 10 + 9]? = some q) :
    Calls Try.prog 29 #[.pointer (some ⟨s.Wb, 0, none⟩), .pointer (some ⟨idb, 0, none⟩), .bool hb] w fun e w' => ∃ tv, e = .returned (.tuple #[]) ∧
      Inv B R { s with tv := tv, tn := 1, ts := [.int .i64 j], xs := rdXs s.xs j s.step idb hb } w' ∧ Fr B R w w' := by
  have L : Hid (Calls Try.prog 27 #[.pointer (some ⟨s.Wb, 0, none⟩), .string nm] w _) := lookup_hit h nm j hj
  obtain ⟨i0, hi, hz0, hz1, hz2⟩ := info_parts info3
  obtain ⟨g, cap, hvv⟩ : ∃ g cap, s.vv = .slice (some ⟨g, 0, none⟩) s.n cap := by
    rcases h.hv.2 with ⟨_, h2⟩ | ⟨g, cap, cur, h1, _⟩
    · omega
    · exact ⟨g, cap, h1⟩
  have hv := h.hv
  rw [hvv] at hv
  have ht : w.ownsRow B 3 1 s.tv 0 [] := by
    have h1 := h.ht
    have h2 : s.ts = [] := List.eq_nil_of_length_eq_zero (by rw [h1.1, htn])
    rw [htn, h2] at h1; exact h1
  have c2 : w.cell? ⟨s.Wb, 2, none⟩ = some (.slice (some ⟨g, 0, none⟩) s.n cap) := (cell_blk h.hW 2).trans (by rw [hvv]; rfl)
  have c5 : w.cell? ⟨s.Wb, 5, none⟩ = some (.int .i64 s.step) := cell_blk h.hW 5
  have c6 : w.cell? ⟨s.Wb, 6, none⟩ = some s.tv := cell_blk h.hW 6
  have v6 := own_cell hv hst
  have v7 := own_cell hv hr
  have v8 := own_cell hv hp
  have v9 := own_cell hv hq
  have f6 := own_free hv (j * 10 + 6)
  have f7 := own_free hv (j * 10 + 7)
  have f8 := own_free hv (j * 10 + 8)
  have f9 := own_free hv (j * 10 + 9)
  have eg : ¬ g = s.Wb := fun e => own_ne hv h.hW (by simp [tagOf]) (by simp [Value.ownBlock, e])
  have eg' : ¬ s.Wb = g := fun e => eg e.symm
  have gB : B ≤ g := by
    rcases hv.2 with ⟨h1, _⟩ | ⟨g', _, _, h1, hb, _⟩
    · cases h1
    · cases h1; exact hb
  have jl : (j : Int) < s.n := by omega
  have sne : ¬ (st : Int) = s.step := by omega
  -- the world behind the four stores
  obtain ⟨W2, hW2⟩ : ∃ W2 : Nat → World, ∀ nq, W2 nq = ((((w.drewN nq).setCell ⟨g, j * 10 + 6, none⟩ (.int .i64 s.step)).setCell ⟨g, j * 10 + 7, none⟩ (.int .i64 0)).setCell ⟨g, j * 10 + 8, none⟩ (.pointer (some ⟨idb, 0, none⟩))).setCell ⟨g, j * 10 + 9, none⟩ (.bool hb) := ⟨_, fun _ => rfl⟩
  have hI2 : ∀ nq, Inv B R { s with xs := rd4 s.xs j s.step idb hb } (W2 nq) := fun nq => by
    rw [hW2]
    exact (h.drewN nq).set4 hvv j idb hb
  have hg2 : ∀ nq, w.grownBy (W2 nq) (some g) := fun nq => by
    rw [hW2]
    have b0 := gdrewN w nq (some g)
    have b1 := b0.trans (gset (w.drewN nq) ⟨g, j * 10 + 6, none⟩ (.int .i64 s.step))
    have b2 := b1.trans (gset _ ⟨g, j * 10 + 7, none⟩ (.int .i64 0))
    have b3 := b2.trans (gset _ ⟨g, j * 10 + 8, none⟩ (.pointer (some ⟨idb, 0, none⟩)))
    exact b3.trans (gset _ ⟨g, j * 10 + 9, none⟩ (.bool hb))
  have ht2 : ∀ nq, (W2 nq).ownsRow B 3 1 s.tv 0 [] := fun nq => own_kept ht (hg2 nq) (own_own ht hv (by decide))
  have hf2 : ∀ nq, Fr B R w (W2 nq) := fun nq => (Fr.refl B R w).grown (hg2 nq) h.hB (fun k e => by simp at e; exact .inl (by omega))
  have HT : Hid (∀ (nq : Nat) (o : Obj), (((((((w.drewN nq).setCell ⟨g, j * 10 + 6, none⟩ (.int .i64 s.step)).setCell ⟨g, j * 10 + 7, none⟩ (.int .i64 0)).setCell ⟨g, j * 10 + 8, none⟩ (.pointer (some ⟨idb, 0, none⟩))).setCell ⟨g, j * 10 + 9, none⟩ (.bool hb))).alloc o).ownsRow B 3 1 s.tv 0 []) := fun nq o => by
    rw [← hW2]; exact own_kept (ht2 nq) (galloc _ o none) (by cases h : s.tv.ownBlock <;> simp)
  have HB : Hid (∀ (nq : Nat) (o : Obj), B ≤ (((((((w.drewN nq).setCell ⟨g, j * 10 + 6, none⟩ (.int .i64 s.step)).setCell ⟨g, j * 10 + 7, none⟩ (.int .i64 0)).setCell ⟨g, j * 10 + 8, none⟩ (.pointer (some ⟨idb, 0, none⟩))).setCell ⟨g, j * 10 + 9, none⟩ (.bool hb))).alloc o).heap.size) := fun nq o => by
    rw [← hW2]; have := (hI2 nq).hB; simp; omega
  have HN : Hid (∀ (nq i : Nat) (u : Value), [Value.int .i64 j][i]? = some u → (((((((w.drewN nq).setCell ⟨g, j * 10 + 6, none⟩ (.int .i64 s.step)).setCell ⟨g, j * 10 + 7, none⟩ (.int .i64 0)).setCell ⟨g, j * 10 + 8, none⟩ (.pointer (some ⟨idb, 0, none⟩))).setCell ⟨g, j * 10 + 9, none⟩ (.bool hb))).alloc (.cells #[.int .i64 j] 3)).cell? ((⟨w.heap.size, 0, none⟩ : Addr).add i) = some u) := fun nq i u hu => by
    have e : (W2 nq).heap.size = w.heap.size := by rw [hW2]; simp [World.setCell, World.drewN]
    rw [← hW2, ← e]
    exact cell_one_new (W2 nq) (.int .i64 j) 3 i u hu
  have T : Hid (∀ (nq g' cap' : Nat) (w3 : World) (o : Obj), (((((((w.drewN nq).setCell ⟨g, j * 10 + 6, none⟩ (.int .i64 s.step)).setCell ⟨g, j * 10 + 7, none⟩ (.int .i64 0)).setCell ⟨g, j * 10 + 8, none⟩ (.pointer (some ⟨idb, 0, none⟩))).setCell ⟨g, j * 10 + 9, none⟩ (.bool hb))).alloc o).grownBy w3 s.tv.ownBlock →
      w3.ownsRow B 3 1 (.slice (some ⟨g', 0, none⟩) (0 + 1) cap') (0 + 1) ([] ++ [.int .i64 j]) →
      (w3.cell? ⟨s.Wb, 6, none⟩ = some s.tv ∧ w3.frozen? ⟨s.Wb, 6, none⟩ = false ∧ (w3.setCell ⟨s.Wb, 6, none⟩ (.slice (some ⟨g', 0, none⟩) 1 cap')).cell? ⟨g, j * 10 + 7, none⟩ = some (.int .i64 0) ∧ (w3.setCell ⟨s.Wb, 6, none⟩ (.slice (some ⟨g', 0, none⟩) 1 cap')).frozen? ⟨g, j * 10 + 7, none⟩ = false ∧
       w3.cell? ⟨g, j * 10 + 7, none⟩ = some (.int .i64 0) ∧ w3.frozen? ⟨g, j * 10 + 7, none⟩ = false) ∧
      Hid (Inv B R { s with tv := .slice (some ⟨g', 0, none⟩) 1 cap', tn := 1, ts := [.int .i64 j], xs := rdXs s.xs j s.step idb hb } ((w3.setCell ⟨s.Wb, 6, none⟩ (.slice (some ⟨g', 0, none⟩) 1 cap')).setCell ⟨g, j * 10 + 7, none⟩ (.int .i64 1)) ∧
        Fr B R w ((w3.setCell ⟨s.Wb, 6, none⟩ (.slice (some ⟨g', 0, none⟩) 1 cap')).setCell ⟨g, j * 10 + 7, none⟩ (.int .i64 1)))) := fun nq g' cap' w3 o hg3 ho3 => by
    rw [← hW2] at hg3
    have hg : (W2 nq).grownBy w3 s.tv.ownBlock := (galloc _ o _).trans hg3
    have hI := hI2 nq
    have hW3 := blk_kept hI.hW hg (fun e => own_ne (ht2 nq) hI.hW (by simp [tagOf]) e.symm)
    have hI4 : Inv B R { s with tv := .slice (some ⟨g', 0, none⟩) 1 cap', tn := 1, ts := [.int .i64 j], xs := rd4 s.xs j s.step idb hb } (w3.setCell ⟨s.Wb, 6, none⟩ (.slice (some ⟨g', 0, none⟩) 1 cap')) := hI.pushT hg ho3
    have hlen : j * 10 + 9 < s.xs.length := by rw [hv.1]; omega
    have hx7 : (rd4 s.xs j s.step idb hb)[j * 10 + 7]? = some (.int .i64 0) := by
      unfold rd4
      rw [List.getElem?_set_ne (by omega), List.getElem?_set_ne (by omega), List.getElem?_set_self (by simp; omega)]
    have hv4 := hI4.hv
    have hv4' : (w3.setCell ⟨s.Wb, 6, none⟩ (.slice (some ⟨g', 0, none⟩) 1 cap')).ownsRow B 95 10 (.slice (some ⟨g, 0, none⟩) s.n cap) s.n (rd4 s.xs j s.step idb hb) := by rw [← hvv]; exact hv4
    have hv2 : (W2 nq).ownsRow B 95 10 (.slice (some ⟨g, 0, none⟩) s.n cap) s.n (rd4 s.xs j s.step idb hb) := by rw [← hvv]; exact hI.hv
    have hv3 := own_kept hv2 hg (own_own hv2 (ht2 nq) (by decide))
    have hf3 : Fr B R w w3 := (hf2 nq).grown hg hI.hB (fun k e => by
      rcases ht.2 with ⟨h1, _⟩ | ⟨g', _, _, h1, hb, _⟩
      · rw [h1] at e; cases e
      · rw [h1] at e; simp [Value.ownBlock] at e; omega)
    have b3 : B ≤ w3.heap.size := Nat.le_trans hI.hB hg.size
    have hf4 := hf3.grown (gset w3 ⟨s.Wb, 6, none⟩ (.slice (some ⟨g', 0, none⟩) 1 cap')) b3 (fun k e => by simp at e; have := h.bW; exact .inl (by omega))
    have hI5 := hI4.setV hvv (j * 10 + 7) (.int .i64 1)
    refine ⟨⟨cell_blk hW3 6, free_blk hW3 6, own_cell hv4' hx7, own_free hv4' _, own_cell hv3 hx7, own_free hv3 _⟩, ⟨by unfold rdXs; exact hI5, ?_⟩⟩
    exact hf4.grown (gset _ ⟨g, j * 10 + 7, none⟩ (.int .i64 1)) hI4.hB (fun k e => by simp at e; exact .inl (by omega))
  have HI : Hid (Inv B R s w) := h
  clear h hv hst hr hp hq hW2 hI2 hg2 ht2 hf2 ht htn W2
  go_enter Try.func29, Try.ntmps29
  go_wp2_with fail
  refine L.out.mono ?_
  rintro e w1 ⟨rfl, rfl⟩
  go_wp2
  go_quiet (fail)
  go_wp2_with (at_builtin; refine wpList_append_lies _ rfl _ _ 89 rfl B 3 i0 (.int .i64 0) 1 8 Try.underlying89 hi hz0 hz1 hz2 rfl (by decide) s.tv 0 [] rfl (HT.out nq _) ⟨w1.heap.size, 0, none⟩ 1 1 [.int .i64 j] rfl rfl (HN.out nq) (by simp [Value.oneCell']) (by decide) (by unfold maxLen; omega) (by omega) (HB.out nq _) _ rfl ?_)
  intro g' cap' w3 hown3 hgrow3 hat3 hlt3
  obtain ⟨⟨e1, e2, e3, e4, e5, e6⟩, H⟩ := T.out nq g' cap' w3 _ hgrow3 hown3
  clear hgrow3 hown3 hat3 T HT HN HB
  go_wp2
  go_end0
  exact ⟨_, rfl, H.out⟩
theorem read_miss {B R : Nat} {s : St} {w : World} (h : Inv B R s w) (nm : ByteArray) (idb : Nat) (hid : w.cell? ⟨idb, 2, none⟩ = some (.string nm)) (hj : s.FV nm = none) (hb : Bool) :
    Calls Try.prog 29 #[.pointer (some ⟨s.Wb, 0, none⟩), .pointer (some ⟨idb, 0, none⟩), .bool hb] w fun e w' => e = .returned (.tuple #[]) ∧ Inv B R s w' ∧ Fr B R w w' := by
  have L : Hid (Calls Try.prog 27 #[.pointer (some ⟨s.Wb, 0, none⟩), .string nm] w _) := lookup_miss h nm hj
  have hB := h.hB
  clear h
  go_enter Try.func29, Try.ntmps29
  go_wp2_with fail
  refine L.out.mono ?_
  rintro e w1 ⟨rfl, hI, hg, hsz⟩
  have H : Hid (Inv B R s w1 ∧ Fr B R w w1) := ⟨hI, (Fr.refl B R w).grown hg hB (fun k e => by simp at e; exact .inr e.symm)⟩
  clear hI hg hsz
  go_wp2
  exact bodyPost_ret (v := .tuple #[]) (by simp [results, Try.results29, go_sem]) rfl ⟨rfl, H.out⟩
end Go.Proofs.Qxb6613372a
