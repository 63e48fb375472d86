/-
  Seat b6613372a: declare.
-/
import Derived.Test.Qxb6613372aWB
namespace Go.Proofs.Qxb6613372a
open Go.ChangeShapes Go.WideShapes Go.ChangeAt Go.RowKit Go.MapKept
set_option linter.unusedSimpArgs false
set_option linter.unusedVariables false

def z95 : Value := .agg #[.string ByteArray.empty, .int .i64 0, .bool false, .bool false, .bool false, .bool false, .int .i64 0, .int .i64 0, .pointer none, .bool false]
theorem info95 : (Try.prog.info? 95).map (fun i => (i.zero, i.size, i.bytes)) = some (some z95, 10, 64) := by kernel_rfl

open Classical in
noncomputable def putN (F : ByteArray → Option Nat) (s : ByteArray) (v : Nat) : ByteArray → Option Nat := fun t => if t = s then some v else F t

theorem fV_put (F : ByteArray → Option Nat) (s : ByteArray) (v : Nat) : putF (fV F) s (.int .i64 v) = fV (putN F s v) := by
  funext t
  unfold putF fV putN
  by_cases h : t = s <;> simp [h]
theorem fU_put (F : ByteArray → Option Nat) (s : ByteArray) (v : Nat) : putF (fU F) s (.int .u8 v) = fU (putN F s v) := by
  funext t
  unfold putF fU putN
  by_cases h : t = s <;> simp [h]

def newVar (nm : ByteArray) : List Value := [.string nm, .int .i64 0, .bool false, .bool false, .bool false, .bool false, .int .i64 0, .int .i64 0, .pointer none, .bool false]

theorem Inv.vmap {B R : Nat} {s : St} {w w' : World} (h : Inv B R s w) (Vb : Nat) (hvm : s.vm = .map (some Vb)) (bV : B ≤ Vb) (hVU : Vb ≠ s.Ub) (hg : w.grownBy w' (some Vb)) {F0 : ByteArray → Option Value} {k0 : Nat} (hV0 : StrMap w Vb F0 k0) {F : ByteArray → Option Nat} {k : Nat} (hV : StrMap w' Vb (fV F) k) : Inv B R { s with FV := F } w' := by
  obtain ⟨F', k', hR0⟩ := h.hR
  have e := h.bR
  refine ⟨Nat.le_trans h.hB hg.size, blk_kept h.hW hg (fun e => hV0.ne_blk h.hW (by simp [tagOf]) (by simpa using e.symm)), blk_kept h.hS hg (fun e => hV0.ne_blk h.hS (by simp [tagOf]) (by simpa using e.symm)), h.hU.kept hg (by simpa using hVU.symm), .inr ⟨Vb, k, hvm, bV, hVU, hV⟩, ⟨F', k', hR0.kept hg (by simp; omega)⟩, h.bW, h.bS, h.bU, h.bR, ?_, ?_, ?_, ?_⟩
  · exact own_kept h.hv hg (.inr (fun e => hV0.ne_own h.hv e.symm))
  · exact own_kept h.ht hg (.inr (fun e => hV0.ne_own h.ht e.symm))
  · exact own_kept h.ho hg (.inr (fun e => hV0.ne_own h.ho e.symm))
  · exact own_kept h.hk hg (.inr (fun e => hV0.ne_own h.hk e.symm))

/-- A row is appended to, and the new slice is stored into the walk's cell. -/
theorem Inv.pushV {B R : Nat} {s : St} {w w1 : World} (h : Inv B R s w) (hg : w.grownBy w1 s.vv.ownBlock) {vv : Value} {n : Nat} {xs : List Value} (hv : w1.ownsRow B 95 10 vv n xs) : Inv B R { s with vv := vv, n := n, xs := xs } (w1.setCell ⟨s.Wb, 2, none⟩ vv) := by
  obtain ⟨F', k', hR0⟩ := h.hR
  have hg2 := gset w1 ⟨s.Wb, 2, none⟩ vv
  have hW1 := blk_kept h.hW hg (fun e => own_ne h.hv h.hW (by simp [tagOf]) e.symm)
  have hS1 := blk_kept h.hS hg (fun e => own_ne h.hv h.hS (by simp [tagOf]) e.symm)
  have hU1 := h.hU.kept hg (h.hU.ne_own h.hv)
  have hR1 := hR0.kept hg (hR0.ne_own h.hv)
  have hV1 := h.hV.kept hg (fun _ _ _ hb _ _ => hb.ne_own h.hv)
  have ht1 := own_kept h.ht hg (own_own h.ht h.hv (by decide))
  have ho1 := own_kept h.ho hg (own_own h.ho h.hv (by decide))
  have hk1 := own_kept h.hk hg (own_own h.hk h.hv (by decide))
  exact ⟨Nat.le_trans h.hB (Nat.le_trans hg.size hg2.size), blk_set hW1 2 vv, blk_kept hS1 hg2 (fun e => ne_of_tag hS1 hW1 (by simp [tagOf]) (by simpa using e)), hU1.kept hg2 (fun e => hU1.ne_blk hW1 (by simp [tagOf]) (by simpa using e)),
    hV1.kept hg2 (hV1.ne_tag hW1 (by simp [tagOf])), ⟨F', k', hR1.kept hg2 (fun e => hR1.ne_blk hW1 (by simp [tagOf]) (by simpa using e))⟩, h.bW, h.bS, h.bU, h.bR,
    own_kept hv hg2 (.inr (own_ne hv hW1 (by simp [tagOf]))), own_kept ht1 hg2 (.inr (own_ne ht1 hW1 (by simp [tagOf]))), own_kept ho1 hg2 (.inr (own_ne ho1 hW1 (by simp [tagOf]))), own_kept hk1 hg2 (.inr (own_ne hk1 hW1 (by simp [tagOf])))⟩

theorem Inv.pushT {B R : Nat} {s : St} {w w1 : World} (h : Inv B R s w) (hg : w.grownBy w1 s.tv.ownBlock) {tv : Value} {n : Nat} {xs : List Value} (ht : w1.ownsRow B 3 1 tv n xs) : Inv B R { s with tv := tv, tn := n, ts := xs } (w1.setCell ⟨s.Wb, 6, none⟩ tv) := by
  obtain ⟨F', k', hR0⟩ := h.hR
  have hg2 := gset w1 ⟨s.Wb, 6, none⟩ tv
  have hW1 := blk_kept h.hW hg (fun e => own_ne h.ht h.hW (by simp [tagOf]) e.symm)
  have hS1 := blk_kept h.hS hg (fun e => own_ne h.ht h.hS (by simp [tagOf]) e.symm)
  have hU1 := h.hU.kept hg (h.hU.ne_own h.ht)
  have hR1 := hR0.kept hg (hR0.ne_own h.ht)
  have hV1 := h.hV.kept hg (fun _ _ _ hb _ _ => hb.ne_own h.ht)
  have hv1 := own_kept h.hv hg (own_own h.hv h.ht (by decide))
  have ho1 := own_kept h.ho hg (own_own h.ho h.ht (by decide))
  have hk1 := own_kept h.hk hg (own_own h.hk h.ht (by decide))
  exact ⟨Nat.le_trans h.hB (Nat.le_trans hg.size hg2.size), blk_set hW1 6 tv, blk_kept hS1 hg2 (fun e => ne_of_tag hS1 hW1 (by simp [tagOf]) (by simpa using e)), hU1.kept hg2 (fun e => hU1.ne_blk hW1 (by simp [tagOf]) (by simpa using e)),
    hV1.kept hg2 (hV1.ne_tag hW1 (by simp [tagOf])), ⟨F', k', hR1.kept hg2 (fun e => hR1.ne_blk hW1 (by simp [tagOf]) (by simpa using e))⟩, h.bW, h.bS, h.bU, h.bR,
    own_kept hv1 hg2 (.inr (own_ne hv1 hW1 (by simp [tagOf]))), own_kept ht hg2 (.inr (own_ne ht hW1 (by simp [tagOf]))), own_kept ho1 hg2 (.inr (own_ne ho1 hW1 (by simp [tagOf]))), own_kept hk1 hg2 (.inr (own_ne hk1 hW1 (by simp [tagOf])))⟩

theorem Inv.pushO {B R : Nat} {s : St} {w w1 : World} (h : Inv B R s w) (hg : w.grownBy w1 s.ov.ownBlock) {ov : Value} {n : Nat} {xs : List Value} (ho : w1.ownsRow B 123 6 ov n xs) : Inv B R { s with ov := ov, m := n, os := xs } (w1.setCell ⟨s.Wb, 7, none⟩ ov) := by
  obtain ⟨F', k', hR0⟩ := h.hR
  have hg2 := gset w1 ⟨s.Wb, 7, none⟩ ov
  have hW1 := blk_kept h.hW hg (fun e => own_ne h.ho h.hW (by simp [tagOf]) e.symm)
  have hS1 := blk_kept h.hS hg (fun e => own_ne h.ho h.hS (by simp [tagOf]) e.symm)
  have hU1 := h.hU.kept hg (h.hU.ne_own h.ho)
  have hR1 := hR0.kept hg (hR0.ne_own h.ho)
  have hV1 := h.hV.kept hg (fun _ _ _ hb _ _ => hb.ne_own h.ho)
  have hv1 := own_kept h.hv hg (own_own h.hv h.ho (by decide))
  have ht1 := own_kept h.ht hg (own_own h.ht h.ho (by decide))
  have hk1 := own_kept h.hk hg (own_own h.hk h.ho (by decide))
  exact ⟨Nat.le_trans h.hB (Nat.le_trans hg.size hg2.size), blk_set hW1 7 ov, blk_kept hS1 hg2 (fun e => ne_of_tag hS1 hW1 (by simp [tagOf]) (by simpa using e)), hU1.kept hg2 (fun e => hU1.ne_blk hW1 (by simp [tagOf]) (by simpa using e)),
    hV1.kept hg2 (hV1.ne_tag hW1 (by simp [tagOf])), ⟨F', k', hR1.kept hg2 (fun e => hR1.ne_blk hW1 (by simp [tagOf]) (by simpa using e))⟩, h.bW, h.bS, h.bU, h.bR,
    own_kept hv1 hg2 (.inr (own_ne hv1 hW1 (by simp [tagOf]))), own_kept ht1 hg2 (.inr (own_ne ht1 hW1 (by simp [tagOf]))), own_kept ho hg2 (.inr (own_ne ho hW1 (by simp [tagOf]))), own_kept hk1 hg2 (.inr (own_ne hk1 hW1 (by simp [tagOf])))⟩

theorem Inv.pushK {B R : Nat} {s : St} {w w1 : World} (h : Inv B R s w) (hg : w.grownBy w1 s.kv.ownBlock) {kv : Value} {n : Nat} {xs : List Value} (hk : w1.ownsRow B 126 2 kv n xs) : Inv B R { s with kv := kv, kn := n, ks := xs } (w1.setCell ⟨s.Wb, 8, none⟩ kv) := by
  obtain ⟨F', k', hR0⟩ := h.hR
  have hg2 := gset w1 ⟨s.Wb, 8, none⟩ kv
  have hW1 := blk_kept h.hW hg (fun e => own_ne h.hk h.hW (by simp [tagOf]) e.symm)
  have hS1 := blk_kept h.hS hg (fun e => own_ne h.hk h.hS (by simp [tagOf]) e.symm)
  have hU1 := h.hU.kept hg (h.hU.ne_own h.hk)
  have hR1 := hR0.kept hg (hR0.ne_own h.hk)
  have hV1 := h.hV.kept hg (fun _ _ _ hb _ _ => hb.ne_own h.hk)
  have hv1 := own_kept h.hv hg (own_own h.hv h.hk (by decide))
  have ht1 := own_kept h.ht hg (own_own h.ht h.hk (by decide))
  have ho1 := own_kept h.ho hg (own_own h.ho h.hk (by decide))
  exact ⟨Nat.le_trans h.hB (Nat.le_trans hg.size hg2.size), blk_set hW1 8 kv, blk_kept hS1 hg2 (fun e => ne_of_tag hS1 hW1 (by simp [tagOf]) (by simpa using e)), hU1.kept hg2 (fun e => hU1.ne_blk hW1 (by simp [tagOf]) (by simpa using e)),
    hV1.kept hg2 (hV1.ne_tag hW1 (by simp [tagOf])), ⟨F', k', hR1.kept hg2 (fun e => hR1.ne_blk hW1 (by simp [tagOf]) (by simpa using e))⟩, h.bW, h.bS, h.bU, h.bR,
    own_kept hv1 hg2 (.inr (own_ne hv1 hW1 (by simp [tagOf]))), own_kept ht1 hg2 (.inr (own_ne ht1 hW1 (by simp [tagOf]))), own_kept ho1 hg2 (.inr (own_ne ho1 hW1 (by simp [tagOf]))), own_kept hk hg2 (.inr (own_ne hk hW1 (by simp [tagOf])))⟩

/-- Cells of a block that a change has not touched. -/
theorem cell_fr {B R : Nat} {w w' : World} {b i : Nat} {v : Value} (h : w.cell? ⟨b, i, none⟩ = some v) (hf : Fr B R w w') (hb : b < B) (hr : b ≠ R) : w'.cell? ⟨b, i, none⟩ = some v := (World.cell?_of_block (hf.block b hb hr)).trans h

theorem newVar_one (nm : ByteArray) : ∀ u ∈ newVar nm, u.oneCell' = true := by
  intro u hu
  simp only [newVar, List.mem_cons, List.not_mem_nil, or_false] at hu
  rcases hu with rfl | rfl | rfl | rfl | rfl | rfl | rfl | rfl | rfl | rfl <;> rfl

set_option maxRecDepth 100000 in
set_option maxHeartbeats 800000 in
/-- The second half of declare: from the map's update on. -/
theorem declare_tail {B R : Nat} {s : St} {w : World} (h : Inv B R s w) (Vb k : Nat) (hvm : s.vm = .map (some Vb)) (bV : B ≤ Vb) (hVU : Vb ≠ s.Ub) (hV : StrMap w Vb (fV s.FV) k) (nm : ByteArray) (idb : Nat) (hid : w.cell? ⟨idb, 2, none⟩ = some (.string nm)) (hidB : idb < B) (hidR : idb ≠ R)
    (hn : s.n ≤ 65536) :
    Calls Try.prog 23 #[.pointer (some ⟨s.Wb, 0, none⟩), .pointer (some ⟨idb, 0, none⟩)] w fun e w' => ∃ g cap, e = .returned (.pointer (some ⟨g, s.n * 10, none⟩)) ∧
      Inv B R { s with vv := .slice (some ⟨g, 0, none⟩) (s.n + 1) cap, FV := putN s.FV nm s.n, n := s.n + 1, xs := s.xs ++ newVar nm } w' ∧ Fr B R w w' := by
  obtain ⟨i0, hi, hz0, hz1, hz2⟩ := info_parts info95
  have c1 : w.cell? ⟨s.Wb, 1, none⟩ = some (.pointer (some ⟨s.Sb, 0, none⟩)) := cell_blk h.hW 1
  have c2 : w.cell? ⟨s.Wb, 2, none⟩ = some s.vv := cell_blk h.hW 2
  have c3 : w.cell? ⟨s.Sb, 0, none⟩ = some (.map (some Vb)) := (cell_blk h.hS 0).trans (by rw [hvm]; rfl)
  have hq := eql85 w (some Vb)
  obtain ⟨w2, hup, hV2, hg, hsz⟩ := (show StrMap w.drew Vb (fV s.FV) k from hV).store Try.underlying85 Try.underlying9 nm (.int .i64 s.n)
  have hg' : w.grownBy w2 (some Vb) := (gdrew w _).trans hg
  obtain ⟨a0, l0, cp0, hvv, hl0⟩ : ∃ a l c, s.vv = .slice a l c ∧ l = s.n := by
    rcases h.hv.2 with ⟨h1, h2⟩ | ⟨g, cap, cur, h1, _⟩
    · exact ⟨_, _, _, h1, h2.symm⟩
    · exact ⟨_, _, _, h1, rfl⟩
  subst hl0
  rw [hvv] at c2
  have h2 : Inv B R { s with FV := putN s.FV nm s.n } w2 := h.vmap Vb hvm bV hVU hg' hV (k := _) (by rw [← fV_put]; exact hV2)
  have hf2 : Fr B R w w2 := (Fr.refl B R w).grown hg' h.hB (fun k e => by cases e; exact .inl bV)
  have d1 : w2.cell? ⟨s.Wb, 1, none⟩ = some (.pointer (some ⟨s.Sb, 0, none⟩)) := cell_blk h2.hW 1
  have d2 : w2.cell? ⟨s.Wb, 2, none⟩ = some (.slice a0 s.n cp0) := (cell_blk h2.hW 2).trans (by rw [← hvv]; rfl)
  have d3 : w2.cell? ⟨s.Sb, 0, none⟩ = some (.map (some Vb)) := (cell_blk h2.hS 0).trans (by rw [← hvm]; rfl)
  have d4 : w2.cell? ⟨s.Wb, 3, none⟩ = some (.bool false) := cell_blk h2.hW 3
  have d5 : w2.cell? ⟨s.Wb, 4, none⟩ = some (.int .i64 0) := cell_blk h2.hW 4
  have hid2 := cell_fr hid hf2 hidB hidR
  have eW : w2.heap.size ≠ s.Wb := Nat.ne_of_gt (lt_of_blk h2.hW)
  have eI : w2.heap.size ≠ idb := by have := h2.hB; omega
  have hv0 : w2.ownsRow B 95 10 (.slice a0 s.n cp0) s.n s.xs := by have := h2.hv; rw [← hvv]; exact this
  have HOWN : Hid (∀ o : Obj, ((w2.alloc o).drew).ownsRow B 95 10 (.slice a0 s.n cp0) s.n s.xs) := fun o => own_kept hv0 ((galloc w2 o none).trans (gdrew _ none)) (by cases h : (Value.slice a0 s.n cp0).ownBlock <;> simp)
  have HNEWS : Hid (∀ cs : Array Value, ∀ (j : Nat) (u : Value), cs.toList[j]? = some u → ((w2.alloc (.cells cs 95)).drew).cell? ((⟨w2.heap.size, 0, none⟩ : Addr).add j) = some u) := fun cs => World.news_of_block (w := (w2.alloc (.cells cs 95)).drew) (MapKept.heap_alloc w2 (.cells cs 95)).1
  have HBASE : Hid (∀ o : Obj, B ≤ ((w2.alloc o).drew).heap.size) := fun o => by have := h2.hB; simp; omega
  have d2' : ∀ o : Obj, (w2.alloc o).cell? ⟨s.Wb, 2, none⟩ = some (.slice a0 s.n cp0) := fun o => (World.cell?_of_block (Below.heap_alloc w2 o s.Wb (lt_of_blk h2.hW))).trans d2
  have T : Hid (∀ (g cap : Nat) (w3 : World) (o : Obj), ((w2.alloc o).drew).grownBy w3 (Value.slice a0 s.n cp0).ownBlock → w3.ownsRow B 95 10 (.slice (some ⟨g, 0, none⟩) (s.n + 1) cap) (s.n + 1) (s.xs ++ newVar nm) →
      Hid (Inv B R { s with vv := .slice (some ⟨g, 0, none⟩) (s.n + 1) cap, FV := putN s.FV nm s.n, n := s.n + 1, xs := s.xs ++ newVar nm } (w3.setCell ⟨s.Wb, 2, none⟩ (.slice (some ⟨g, 0, none⟩) (s.n + 1) cap)) ∧ Fr B R w (w3.setCell ⟨s.Wb, 2, none⟩ (.slice (some ⟨g, 0, none⟩) (s.n + 1) cap))) ∧
      w3.frozen? ⟨s.Wb, 2, none⟩ = false ∧ w3.cell? ⟨s.Wb, 2, none⟩ = some (.slice a0 s.n cp0) ∧ w3.cell? ⟨s.Wb, 3, none⟩ = some (.bool false) ∧ w3.cell? ⟨s.Wb, 4, none⟩ = some (.int .i64 0) ∧ w3.cell? ⟨idb, 2, none⟩ = some (.string nm) ∧
      (w3.setCell ⟨s.Wb, 2, none⟩ (.slice (some ⟨g, 0, none⟩) (s.n + 1) cap)).cell? ⟨s.Wb, 3, none⟩ = some (.bool false) ∧ (w3.setCell ⟨s.Wb, 2, none⟩ (.slice (some ⟨g, 0, none⟩) (s.n + 1) cap)).cell? ⟨s.Wb, 4, none⟩ = some (.int .i64 0) ∧ (w3.setCell ⟨s.Wb, 2, none⟩ (.slice (some ⟨g, 0, none⟩) (s.n + 1) cap)).cell? ⟨idb, 2, none⟩ = some (.string nm) ∧ B ≤ (w3.setCell ⟨s.Wb, 2, none⟩ (.slice (some ⟨g, 0, none⟩) (s.n + 1) cap)).heap.size) := fun g cap w3 o hg3 ho3 => by
    have hg : w2.grownBy w3 (Value.slice a0 s.n cp0).ownBlock := ((galloc w2 o _).trans (gdrew _ _)).trans hg3
    have hW3 := blk_kept h2.hW hg (fun e => own_ne hv0 h2.hW (by simp [tagOf]) e.symm)
    have hf3 : Fr B R w w3 := hf2.grown hg h2.hB (fun k e => by
      rcases hv0.2 with ⟨h1, _⟩ | ⟨g', _, _, h1, hb, _⟩
      · rw [h1] at e; cases e
      · rw [h1] at e; simp [Value.ownBlock] at e; omega)
    have hI3 := h2.pushV (by rw [show (St.vv { s with FV := putN s.FV nm s.n }) = .slice a0 s.n cp0 from hvv]; exact hg) ho3
    have hf4 : Fr B R w (w3.setCell ⟨s.Wb, 2, none⟩ (.slice (some ⟨g, 0, none⟩) (s.n + 1) cap)) := hf3.grown (gset _ _ _) (Nat.le_trans h2.hB hg.size) (fun k e => by simp at e; have := h2.bW; exact .inl (by rw [← e]; exact this))
    exact ⟨⟨hI3, hf4⟩, free_blk hW3 2, (cell_blk hW3 2).trans (by rw [← hvv]; rfl), cell_blk hW3 3, cell_blk hW3 4, cell_fr hid hf3 hidB hidR, cell_blk hI3.hW 3, cell_blk hI3.hW 4, cell_fr hid hf4 hidB hidR, hI3.hB⟩
  have H2 : Hid (Inv B R { s with FV := putN s.FV nm s.n } w2) := h2
  clear hg hg' hsz hV2 hV h h2
  go_enter Try.func23, Try.ntmps23
  go_wp2
  go_region_held (fun w' => w'.cell? ⟨s.Wb, 1, none⟩ = some (.pointer (some ⟨s.Sb, 0, none⟩)) ∧ w'.cell? ⟨s.Wb, 2, none⟩ = some (.slice a0 s.n cp0) ∧ w'.cell? ⟨s.Sb, 0, none⟩ = some (.map (some Vb)) ∧ w'.cell? ⟨idb, 2, none⟩ = some (.string nm)) (go_keep) (fail)
  go_wp2
  refine wp_region_held_drew (S := fun w' => w'.cell? ⟨s.Wb, 3, none⟩ = some (.bool false) ∧ w'.cell? ⟨s.Wb, 4, none⟩ = some (.int .i64 0) ∧ w'.cell? ⟨idb, 2, none⟩ = some (.string nm)) (by kernel_rfl) (by go_keep) (fun hHeld => ?_)
  refine wpAnyH_take (i := 0) (v := ?v0) rfl (by kernel_rfl) (by kernel_rfl) (by kernel_rfl) (fun _ _ _ h => h) (Or.inl ⟨by rfl, ?y0⟩) (by assumption) ?r0
  case y0 => intro w hSw; (try dsimp only at hSw); go_simp; try with_reducible rfl
  simp only [Act.put, List.setIfInBounds_toArray, List.set_cons_zero, List.set_cons_succ]
  refine wpAnyH_take (i := 1) (v := ?v1) rfl (by kernel_rfl) (by kernel_rfl) (by kernel_rfl) (fun _ _ _ h => h) (Or.inl ⟨by rfl, ?y1⟩) (by assumption) ?r1
  case y1 => intro w hSw; (try dsimp only at hSw); go_simp; try with_reducible rfl
  simp only [Act.put, List.setIfInBounds_toArray, List.set_cons_zero, List.set_cons_succ]
  refine wpAnyH_take (i := 2) (v := ?v2) rfl (by kernel_rfl) (by kernel_rfl) (by kernel_rfl) (fun _ _ _ h => h) (Or.inl ⟨by rfl, ?y2⟩) (by assumption) ?r2
  case y2 => intro w hSw; (try dsimp only at hSw); go_simp; try with_reducible rfl
  simp only [Act.put, List.setIfInBounds_toArray, List.set_cons_zero, List.set_cons_succ]
  refine wpAnyH_take (i := 3) (v := ?v3) rfl (by kernel_rfl) (by kernel_rfl) (by kernel_rfl) (fun _ _ _ h => h) (Or.inl ⟨by rfl, ?y3⟩) (by assumption) ?r3
  case y3 => intro w hSw; (try dsimp only at hSw); go_simp; try with_reducible rfl
  simp only [Act.put, List.setIfInBounds_toArray, List.set_cons_zero, List.set_cons_succ]
  refine wpAnyH_take (i := 5) (v := ?v5) rfl (by kernel_rfl) (by kernel_rfl) (by kernel_rfl) (fun _ _ _ h => h) (Or.inl ⟨by rfl, ?y5⟩) (by assumption) ?r5
  case y5 => intro w hSw; (try dsimp only at hSw); go_simp; try with_reducible rfl
  simp only [Act.put, List.setIfInBounds_toArray, List.set_cons_zero, List.set_cons_succ]
  refine wpAnyH_take (i := 6) (v := ?v6) rfl (by kernel_rfl) (by kernel_rfl) (by kernel_rfl) (fun _ _ _ h => h) (Or.inl ⟨by rfl, ?y6⟩) (by assumption) ?r6
  case y6 => intro w hSw; (try dsimp only at hSw); go_simp; try with_reducible rfl
  simp only [Act.put, List.setIfInBounds_toArray, List.set_cons_zero, List.set_cons_succ]
  refine wpAnyH_take (i := 7) (v := ?v7) rfl (by kernel_rfl) (by kernel_rfl) (by kernel_rfl) (fun _ _ _ h => h) (Or.inl ⟨by rfl, ?y7⟩) (by assumption) ?r7
  case y7 => intro w hSw; (try dsimp only at hSw); go_simp; try with_reducible rfl
  simp only [Act.put, List.setIfInBounds_toArray, List.set_cons_zero, List.set_cons_succ]
  refine wpAnyH_take (i := 8) (v := ?v8) rfl (by kernel_rfl) (by kernel_rfl) (by kernel_rfl) (fun _ _ _ h => h) (Or.inl ⟨by rfl, ?y8⟩) (by assumption) ?r8
  case y8 => intro w hSw; (try dsimp only at hSw); go_simp; try with_reducible rfl
  simp only [Act.put, List.setIfInBounds_toArray, List.set_cons_zero, List.set_cons_succ]
  refine wpAnyH_take (i := 9) (v := ?v9) rfl (by kernel_rfl) (by kernel_rfl) (by kernel_rfl) (fun _ _ _ h => h) (Or.inl ⟨by rfl, ?y9⟩) (by assumption) ?r9
  case y9 => intro w hSw; (try dsimp only at hSw); go_simp; try with_reducible rfl
  simp only [Act.put, List.setIfInBounds_toArray, List.set_cons_zero, List.set_cons_succ]
  refine wpAnyH_take (i := 10) (v := ?v10) rfl (by kernel_rfl) (by kernel_rfl) (by kernel_rfl) (fun _ _ _ h => h) (Or.inl ⟨by rfl, ?y10⟩) (by assumption) ?r10
  case y10 => intro w hSw; (try dsimp only at hSw); go_simp; try with_reducible rfl
  simp only [Act.put, List.setIfInBounds_toArray, List.set_cons_zero, List.set_cons_succ]
  refine wpAnyH_take (i := 11) (v := ?v11) rfl (by kernel_rfl) (by kernel_rfl) (by kernel_rfl) (fun _ _ _ h => h) (Or.inl ⟨by rfl, ?y11⟩) (by assumption) ?r11
  case y11 => intro w hSw; (try dsimp only at hSw); go_simp; try with_reducible rfl
  simp only [Act.put, List.setIfInBounds_toArray, List.set_cons_zero, List.set_cons_succ]
  refine wpAnyH_take (i := 12) (v := ?v12) rfl (by kernel_rfl) (by kernel_rfl) (by kernel_rfl) (fun _ _ _ h => h) (Or.inl ⟨by rfl, ?y12⟩) (by assumption) ?r12
  case y12 => intro w hSw; (try dsimp only at hSw); go_simp; try with_reducible rfl
  simp only [Act.put, List.setIfInBounds_toArray, List.set_cons_zero, List.set_cons_succ]
  refine wpAnyH_take (i := 13) (v := ?v13) rfl (by kernel_rfl) (by kernel_rfl) (by kernel_rfl) (fun _ _ _ h => h) (Or.inl ⟨by rfl, ?y13⟩) (by assumption) ?r13
  case y13 => intro w hSw; (try dsimp only at hSw); go_simp; try with_reducible rfl
  simp only [Act.put, List.setIfInBounds_toArray, List.set_cons_zero, List.set_cons_succ]
  refine wpAnyH_take (i := 14) (v := ?v14) rfl (by kernel_rfl) (by kernel_rfl) (by kernel_rfl) (fun _ _ _ h => h) (Or.inl ⟨by rfl, ?y14⟩) (by assumption) ?r14
  case y14 => intro w hSw; (try dsimp only at hSw); go_simp; try with_reducible rfl
  simp only [Act.put, List.setIfInBounds_toArray, List.set_cons_zero, List.set_cons_succ]
  refine wpAnyH_take (i := 15) (v := ?v15) rfl (by kernel_rfl) (by kernel_rfl) (by kernel_rfl) (fun _ _ _ h => h) (Or.inl ⟨by rfl, ?y15⟩) (by assumption) ?r15
  case y15 => intro w hSw; (try dsimp only at hSw); go_simp; try with_reducible rfl
  simp only [Act.put, List.setIfInBounds_toArray, List.set_cons_zero, List.set_cons_succ]
  refine wpAnyH_take (i := 16) (v := ?v16) rfl (by kernel_rfl) (by kernel_rfl) (by kernel_rfl) (fun _ _ _ h => h) (Or.inl ⟨by rfl, ?y16⟩) (by assumption) ?r16
  case y16 => intro w hSw; (try dsimp only at hSw); go_simp; try with_reducible rfl
  simp only [Act.put, List.setIfInBounds_toArray, List.set_cons_zero, List.set_cons_succ]
  refine wpAnyH_take (i := 17) (v := ?v17) rfl (by kernel_rfl) (by kernel_rfl) (by kernel_rfl) (fun _ _ _ h => h) (Or.inl ⟨by rfl, ?y17⟩) (by assumption) ?r17
  case y17 => intro w hSw; (try dsimp only at hSw); go_simp; try with_reducible rfl
  simp only [Act.put, List.setIfInBounds_toArray, List.set_cons_zero, List.set_cons_succ]
  refine wpAnyH_take (i := 18) (v := ?v18) rfl (by kernel_rfl) (by kernel_rfl) (by kernel_rfl) (fun _ _ _ h => h) (Or.inr ⟨by kernel_rfl, ?e18⟩) (by assumption) ?r18
  case e18 => rfl
  simp only [Act.put, List.setIfInBounds_toArray, List.set_cons_zero, List.set_cons_succ]
  refine wpAnyH_take (i := 19) (v := ?v19) rfl (by kernel_rfl) (by kernel_rfl) (by kernel_rfl) (fun _ _ _ h => h) (Or.inr ⟨by kernel_rfl, ?e19⟩) (by assumption) ?r19
  case e19 => rfl
  simp only [Act.put, List.setIfInBounds_toArray, List.set_cons_zero, List.set_cons_succ]
  refine wpAnyH_take (i := 20) (v := ?v20) rfl (by kernel_rfl) (by kernel_rfl) (by kernel_rfl) (fun _ _ _ h => h) (Or.inr ⟨by kernel_rfl, ?e20⟩) (by assumption) ?r20
  case e20 => rfl
  simp only [Act.put, List.setIfInBounds_toArray, List.set_cons_zero, List.set_cons_succ]
  refine wpAnyH_take (i := 21) (v := ?v21) rfl (by kernel_rfl) (by kernel_rfl) (by kernel_rfl) (fun _ _ _ h => h) (Or.inr ⟨by kernel_rfl, ?e21⟩) (by assumption) ?r21
  case e21 => rfl
  simp only [Act.put, List.setIfInBounds_toArray, List.set_cons_zero, List.set_cons_succ]
  refine wpAnyH_take (i := 22) (v := ?v22) rfl (by kernel_rfl) (by kernel_rfl) (by kernel_rfl) (fun _ _ _ h => h) (Or.inr ⟨by kernel_rfl, ?e22⟩) (by assumption) ?r22
  case e22 => rfl
  simp only [Act.put, List.setIfInBounds_toArray, List.set_cons_zero, List.set_cons_succ]
  refine wpAnyH_take (i := 23) (v := ?v23) rfl (by kernel_rfl) (by kernel_rfl) (by kernel_rfl) (fun _ _ _ h => h) (Or.inr ⟨by kernel_rfl, ?e23⟩) (by assumption) ?r23
  case e23 => rfl
  simp only [Act.put, List.setIfInBounds_toArray, List.set_cons_zero, List.set_cons_succ]
  refine wpAnyH_take (i := 24) (v := ?v24) rfl (by kernel_rfl) (by kernel_rfl) (by kernel_rfl) (fun _ _ _ h => h) (Or.inr ⟨by kernel_rfl, ?e24⟩) (by assumption) ?r24
  case e24 => rfl
  simp only [Act.put, List.setIfInBounds_toArray, List.set_cons_zero, List.set_cons_succ]
  refine wpAnyH_take (i := 25) (v := ?v25) rfl (by kernel_rfl) (by kernel_rfl) (by kernel_rfl) (fun _ _ _ h => h) (Or.inr ⟨by kernel_rfl, ?e25⟩) (by assumption) ?r25
  case e25 => rfl
  simp only [Act.put, List.setIfInBounds_toArray, List.set_cons_zero, List.set_cons_succ]
  refine wpAnyH_take (i := 26) (v := ?v26) rfl (by kernel_rfl) (by kernel_rfl) (by kernel_rfl) (fun _ _ _ h => h) (Or.inl ⟨by rfl, ?y26⟩) (by assumption) ?r26
  case y26 => intro w hSw; (try dsimp only at hSw); go_simp; try with_reducible rfl
  simp only [Act.put, List.setIfInBounds_toArray, List.set_cons_zero, List.set_cons_succ]
  refine wpAnyH_take (i := 27) (v := ?v27) rfl (by kernel_rfl) (by kernel_rfl) (by kernel_rfl) (fun _ _ _ h => h) (Or.inl ⟨by rfl, ?y27⟩) (by assumption) ?r27
  case y27 => intro w hSw; (try dsimp only at hSw); go_simp; try with_reducible rfl
  simp only [Act.put, List.setIfInBounds_toArray, List.set_cons_zero, List.set_cons_succ]
  clear hup hq c1 c2 c3 d1 d3 hid
  refine wpAnyH_ready (rs := [4, 28]) (by kernel_rfl) (by simp) ?_
  refine AllReadyH.cons rfl (fun K hK => ?_) (AllReadyH.cons rfl (fun K hK => ?_) AllReadyH.nil)
  · go_simp
    refine hK.out _ _ (by first | assumption | go_keep) (fun hHeld => ?_)
    clear hK K
    refine wpAnyH_ready (rs := [28]) (by kernel_rfl) (by simp) ?_
    refine AllReadyH.cons rfl (fun K hK => ?_) AllReadyH.nil
    go_simp
    refine hK.out _ _ (by first | assumption | go_keep) (fun hHeld => ?_)
    clear hK K
    refine wpAnyH_ready (rs := [29]) (by kernel_rfl) (by simp) ?_
    refine AllReadyH.cons rfl (fun K hK => ?_) AllReadyH.nil
    refine step_append_lies _ rfl _ _ _ rfl B 95 i0 z95 10 64 Try.underlying88 hi hz0 hz1 hz2 rfl (by decide) (.slice a0 s.n cp0) s.n s.xs rfl (HOWN.out _) ⟨w2.heap.size, 0, none⟩ 1 1 (newVar nm) rfl rfl (HNEWS.out _) (newVar_one nm) (by decide) (by unfold maxLen; omega) (by omega) (HBASE.out _) (w2.heap.size + 1) (by simp) ?_
    intro g cap w3 hown3 hgrow3 hat3 hlt3
    obtain ⟨H3, f3, e2, e3, e4, e5, e6, e7, e8, e9⟩ := T.out g cap w3 _ hgrow3 hown3
    clear hgrow3 hown3 hHeld
    refine hK.out _ _ ⟨e3, e4, e5⟩ (fun hHeld => ?_)
    clear hK K
    refine wpAnyH_take (i := 30) (v := ?v30) rfl (by kernel_rfl) (by kernel_rfl) (by kernel_rfl) (fun _ _ _ h => h) (Or.inl ⟨by rfl, ?y30⟩) (by assumption) ?r30
    case y30 => intro w hSw; (try dsimp only at hSw); go_simp; try with_reducible rfl
    simp only [Act.put, List.setIfInBounds_toArray, List.set_cons_zero, List.set_cons_succ]
    refine wpAnyH_take (i := 31) (v := ?v31) rfl (by kernel_rfl) (by kernel_rfl) (by kernel_rfl) (fun _ _ _ h => h) (Or.inl ⟨by rfl, ?y31⟩) (by assumption) ?r31
    case y31 => intro w hSw; (try dsimp only at hSw); go_simp; try with_reducible rfl
    simp only [Act.put, List.setIfInBounds_toArray, List.set_cons_zero, List.set_cons_succ]
    refine wpAnyH_ready (rs := [32]) (by kernel_rfl) (by simp) ?_
    refine AllReadyH.cons rfl (fun K hK => ?_) AllReadyH.nil
    go_simp
    refine hK.out _ _ ⟨e6, e7, e8⟩ (fun hHeld => ?_)
    clear hK K
    refine wpAnyH_done (by kernel_rfl) ?_ _
    clear hHeld
    go_wp2
    go_quiet (fail)
    go_wp2
    go_ret
    exact ⟨g, cap, rfl, H3.out.1.drewN _, H3.out.2.grown (gdrewN _ _ none) e9 (by simp)⟩
  · go_simp
    refine hK.out _ _ (by first | assumption | go_keep) (fun hHeld => ?_)
    clear hK K
    refine wpAnyH_ready (rs := [4]) (by kernel_rfl) (by simp) ?_
    refine AllReadyH.cons rfl (fun K hK => ?_) AllReadyH.nil
    go_simp
    refine hK.out _ _ (by first | assumption | go_keep) (fun hHeld => ?_)
    clear hK K
    refine wpAnyH_ready (rs := [29]) (by kernel_rfl) (by simp) ?_
    refine AllReadyH.cons rfl (fun K hK => ?_) AllReadyH.nil
    refine step_append_lies _ rfl _ _ _ rfl B 95 i0 z95 10 64 Try.underlying88 hi hz0 hz1 hz2 rfl (by decide) (.slice a0 s.n cp0) s.n s.xs rfl (HOWN.out _) ⟨w2.heap.size, 0, none⟩ 1 1 (newVar nm) rfl rfl (HNEWS.out _) (newVar_one nm) (by decide) (by unfold maxLen; omega) (by omega) (HBASE.out _) (w2.heap.size + 1) (by simp) ?_
    intro g cap w3 hown3 hgrow3 hat3 hlt3
    obtain ⟨H3, f3, e2, e3, e4, e5, e6, e7, e8, e9⟩ := T.out g cap w3 _ hgrow3 hown3
    clear hgrow3 hown3 hHeld
    refine hK.out _ _ ⟨e3, e4, e5⟩ (fun hHeld => ?_)
    clear hK K
    refine wpAnyH_take (i := 30) (v := ?v30b) rfl (by kernel_rfl) (by kernel_rfl) (by kernel_rfl) (fun _ _ _ h => h) (Or.inl ⟨by rfl, ?y30b⟩) (by assumption) ?r30b
    case y30b => intro w hSw; (try dsimp only at hSw); go_simp; try with_reducible rfl
    simp only [Act.put, List.setIfInBounds_toArray, List.set_cons_zero, List.set_cons_succ]
    refine wpAnyH_take (i := 31) (v := ?v31b) rfl (by kernel_rfl) (by kernel_rfl) (by kernel_rfl) (fun _ _ _ h => h) (Or.inl ⟨by rfl, ?y31b⟩) (by assumption) ?r31b
    case y31b => intro w hSw; (try dsimp only at hSw); go_simp; try with_reducible rfl
    simp only [Act.put, List.setIfInBounds_toArray, List.set_cons_zero, List.set_cons_succ]
    refine wpAnyH_ready (rs := [32]) (by kernel_rfl) (by simp) ?_
    refine AllReadyH.cons rfl (fun K hK => ?_) AllReadyH.nil
    go_simp
    refine hK.out _ _ ⟨e6, e7, e8⟩ (fun hHeld => ?_)
    clear hK K
    refine wpAnyH_done (by kernel_rfl) ?_ _
    clear hHeld
    go_wp2
    go_quiet (fail)
    go_wp2
    go_ret
    exact ⟨g, cap, rfl, H3.out.1.drewN _, H3.out.2.grown (gdrewN _ _ none) e9 (by simp)⟩

end Go.Proofs.Qxb6613372a
