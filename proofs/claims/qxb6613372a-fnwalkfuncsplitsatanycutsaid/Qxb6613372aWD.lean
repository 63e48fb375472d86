/-
  Seat b6613372a: declare, the first time.
-/
import Derived.Test.Qxb6613372aWC
namespace Go.Proofs.Qxb6613372a
open Go.ChangeShapes Go.WideShapes Go.ChangeAt Go.RowKit Go.MapKept
set_option linter.unusedSimpArgs false
set_option linter.unusedVariables false

set_option maxRecDepth 100000 in
set_option maxHeartbeats 800000 in
/-- declare, the first time: the scope has no map yet. -/
theorem declare_nil_aux {B R : Nat} {s : St} {w w0 : World} (h : Inv B R s w) (Vb k : Nat) (hw : Hid ((w0.setCell ⟨s.Sb, 0, none⟩ (.map (some Vb))).alloc (.map #[] 0) = w)) (hVb : Hid (w0.heap.size = Vb)) (z1 : w0.cell? ⟨s.Wb, 1, none⟩ = some (.pointer (some ⟨s.Sb, 0, none⟩))) (z2 : w0.cell? ⟨s.Sb, 0, none⟩ = some (.map none)) (z3 : w0.frozen? ⟨s.Sb, 0, none⟩ = false) (z4 : s.Wb < w0.heap.size) (z5 : s.Sb < w0.heap.size) (hvm : s.vm = .map (some Vb)) (bV : B ≤ Vb) (hVU : Vb ≠ s.Ub) (hV : StrMap w Vb (fV s.FV) k) (nm : ByteArray) (idb : Nat) (hid : w.cell? ⟨idb, 2, none⟩ = some (.string nm)) (hidB : idb < B) (hidR : idb ≠ R)
    (hn : s.n ≤ 65536) :
    Calls Try.prog 23 #[.pointer (some ⟨s.Wb, 0, none⟩), .pointer (some ⟨idb, 0, none⟩)] w0 fun e w' => ∃ g cap, e = .returned (.pointer (some ⟨g, s.n * 10, none⟩)) ∧
      Inv B R { s with vv := .slice (some ⟨g, 0, none⟩) (s.n + 1) cap, FV := putN s.FV nm s.n, n := s.n + 1, xs := s.xs ++ newVar nm } w' ∧ Fr B R w w' := by
  obtain ⟨i0, hi, hz0, hz1, hz2⟩ := info_parts info95
  have c1 : w.cell? ⟨s.Wb, 1, none⟩ = some (.pointer (some ⟨s.Sb, 0, none⟩)) := cell_blk h.hW 1
  have c2 : w.cell? ⟨s.Wb, 2, none⟩ = some s.vv := cell_blk h.hW 2
  have c3 : w.cell? ⟨s.Sb, 0, none⟩ = some (.map (some Vb)) := (cell_blk h.hS 0).trans (by rw [hvm]; rfl)
  have hq := eql85 w0 none
  obtain ⟨w2, hup, hV2, hg, hsz⟩ := (show StrMap w.drew Vb (fV s.FV) k from hV).store Try.underlying85 Try.underlying9 nm (.int .i64 s.n)
  have hg' : w.grownBy w2 (some Vb) := (gdrew w _).trans hg
  obtain ⟨a0, l0, cp0, hvv, hl0⟩ : ∃ a l c, s.vv = .slice a l c ∧ l = s.n := by
    rcases h.hv.2 with ⟨h1, h2⟩ | ⟨g, cap, cur, h1, _⟩
    · exact ⟨_, _, _, h1, h2.symm⟩
    · exact ⟨_, _, _, h1, rfl⟩
  subst hl0
  rw [hvv] at c2
  have h2 : Inv B R { s with FV := putN s.FV nm s.n } w2 := h.vmap Vb hvm bV hVU hg' hV (k := _) (by rw [← fV_put]; exact hV2)
  have hf2 : Fr B R w w2 := (Fr.refl B R w).grown hg' h.hB (fun k e => by cases e; exact .inl bV)
  have d1 : w2.cell? ⟨s.Wb, 1, none⟩ = some (.pointer (some ⟨s.Sb, 0, none⟩)) := cell_blk h2.hW 1
  have d2 : w2.cell? ⟨s.Wb, 2, none⟩ = some (.slice a0 s.n cp0) := (cell_blk h2.hW 2).trans (by rw [← hvv]; rfl)
  have d3 : w2.cell? ⟨s.Sb, 0, none⟩ = some (.map (some Vb)) := (cell_blk h2.hS 0).trans (by rw [← hvm]; rfl)
  have d4 : w2.cell? ⟨s.Wb, 3, none⟩ = some (.bool false) := cell_blk h2.hW 3
  have d5 : w2.cell? ⟨s.Wb, 4, none⟩ = some (.int .i64 0) := cell_blk h2.hW 4
  have hid2 := cell_fr hid hf2 hidB hidR
  have eW : w2.heap.size ≠ s.Wb := Nat.ne_of_gt (lt_of_blk h2.hW)
  have eI : w2.heap.size ≠ idb := by have := h2.hB; omega
  have hv0 : w2.ownsRow B 95 10 (.slice a0 s.n cp0) s.n s.xs := by have := h2.hv; rw [← hvv]; exact this
  have HOWN : Hid (∀ o : Obj, ((w2.alloc o).drew).ownsRow B 95 10 (.slice a0 s.n cp0) s.n s.xs) := fun o => own_kept hv0 ((galloc w2 o none).trans (gdrew _ none)) (by cases h : (Value.slice a0 s.n cp0).ownBlock <;> simp)
  have HNEWS : Hid (∀ cs : Array Value, ∀ (j : Nat) (u : Value), cs.toList[j]? = some u → ((w2.alloc (.cells cs 95)).drew).cell? ((⟨w2.heap.size, 0, none⟩ : Addr).add j) = some u) := fun cs => World.news_of_block (w := (w2.alloc (.cells cs 95)).drew) (MapKept.heap_alloc w2 (.cells cs 95)).1
  have HBASE : Hid (∀ o : Obj, B ≤ ((w2.alloc o).drew).heap.size) := fun o => by have := h2.hB; simp; omega
  have d2' : ∀ o : Obj, (w2.alloc o).cell? ⟨s.Wb, 2, none⟩ = some (.slice a0 s.n cp0) := fun o => (World.cell?_of_block (Below.heap_alloc w2 o s.Wb (lt_of_blk h2.hW))).trans d2
  have T : Hid (∀ (g cap : Nat) (w3 : World) (o : Obj), ((w2.alloc o).drew).grownBy w3 (Value.slice a0 s.n cp0).ownBlock → w3.ownsRow B 95 10 (.slice (some ⟨g, 0, none⟩) (s.n + 1) cap) (s.n + 1) (s.xs ++ newVar nm) →
      Hid (Inv B R { s with vv := .slice (some ⟨g, 0, none⟩) (s.n + 1) cap, FV := putN s.FV nm s.n, n := s.n + 1, xs := s.xs ++ newVar nm } (w3.setCell ⟨s.Wb, 2, none⟩ (.slice (some ⟨g, 0, none⟩) (s.n + 1) cap)) ∧ Fr B R w (w3.setCell ⟨s.Wb, 2, none⟩ (.slice (some ⟨g, 0, none⟩) (s.n + 1) cap))) ∧
      w3.frozen? ⟨s.Wb, 2, none⟩ = false ∧ w3.cell? ⟨s.Wb, 2, none⟩ = some (.slice a0 s.n cp0) ∧ w3.cell? ⟨s.Wb, 3, none⟩ = some (.bool false) ∧ w3.cell? ⟨s.Wb, 4, none⟩ = some (.int .i64 0) ∧ w3.cell? ⟨idb, 2, none⟩ = some (.string nm) ∧
      (w3.setCell ⟨s.Wb, 2, none⟩ (.slice (some ⟨g, 0, none⟩) (s.n + 1) cap)).cell? ⟨s.Wb, 3, none⟩ = some (.bool false) ∧ (w3.setCell ⟨s.Wb, 2, none⟩ (.slice (some ⟨g, 0, none⟩) (s.n + 1) cap)).cell? ⟨s.Wb, 4, none⟩ = some (.int .i64 0) ∧ (w3.setCell ⟨s.Wb, 2, none⟩ (.slice (some ⟨g, 0, none⟩) (s.n + 1) cap)).cell? ⟨idb, 2, none⟩ = some (.string nm) ∧ B ≤ (w3.setCell ⟨s.Wb, 2, none⟩ (.slice (some ⟨g, 0, none⟩) (s.n + 1) cap)).heap.size) := fun g cap w3 o hg3 ho3 => by
    have hg : w2.grownBy w3 (Value.slice a0 s.n cp0).ownBlock := ((galloc w2 o _).trans (gdrew _ _)).trans hg3
    have hW3 := blk_kept h2.hW hg (fun e => own_ne hv0 h2.hW (by simp [tagOf]) e.symm)
    have hf3 : Fr B R w w3 := hf2.grown hg h2.hB (fun k e => by
      rcases hv0.2 with ⟨h1, _⟩ | ⟨g', _, _, h1, hb, _⟩
      · rw [h1] at e; cases e
      · rw [h1] at e; simp [Value.ownBlock] at e; omega)
    have hI3 := h2.pushV (by rw [show (St.vv { s with FV := putN s.FV nm s.n }) = .slice a0 s.n cp0 from hvv]; exact hg) ho3
    have hf4 : Fr B R w (w3.setCell ⟨s.Wb, 2, none⟩ (.slice (some ⟨g, 0, none⟩) (s.n + 1) cap)) := hf3.grown (gset _ _ _) (Nat.le_trans h2.hB hg.size) (fun k e => by simp at e; have := h2.bW; exact .inl (by rw [← e]; exact this))
    exact ⟨⟨hI3, hf4⟩, free_blk hW3 2, (cell_blk hW3 2).trans (by rw [← hvv]; rfl), cell_blk hW3 3, cell_blk hW3 4, cell_fr hid hf3 hidB hidR, cell_blk hI3.hW 3, cell_blk hI3.hW 4, cell_fr hid hf4 hidB hidR, hI3.hB⟩
  have H2 : Hid (Inv B R { s with FV := putN s.FV nm s.n } w2) := h2
  clear hg hg' hsz hV2 hV h h2
  have m0 := @run_makeMap Try.prog
  have y1 : ∀ o : Obj, (w0.alloc o).cell? ⟨s.Sb, 0, none⟩ = some (.map none) := fun o => (World.cell?_of_block (Below.heap_alloc w0 o s.Sb z5)).trans z2
  have y2 : ∀ o : Obj, (w0.alloc o).cell? ⟨s.Wb, 1, none⟩ = some (.pointer (some ⟨s.Sb, 0, none⟩)) := fun o => (World.cell?_of_block (Below.heap_alloc w0 o s.Wb z4)).trans z1
  have y3 : ∀ o : Obj, (w0.alloc o).frozen? ⟨s.Sb, 0, none⟩ = false := fun o => (World.frozen?_of_block (Below.heap_alloc w0 o s.Sb z5)).trans z3
  go_enter Try.func23, Try.ntmps23
  go_wp2
  rw [hVb.out, hw.out]
  go_region_held (fun w' => w'.cell? ⟨s.Wb, 1, none⟩ = some (.pointer (some ⟨s.Sb, 0, none⟩)) ∧ w'.cell? ⟨s.Wb, 2, none⟩ = some (.slice a0 s.n cp0) ∧ w'.cell? ⟨s.Sb, 0, none⟩ = some (.map (some Vb)) ∧ w'.cell? ⟨idb, 2, none⟩ = some (.string nm)) (go_keep) (fail)
  go_wp2
  refine wp_region_held_drew (S := fun w' => w'.cell? ⟨s.Wb, 3, none⟩ = some (.bool false) ∧ w'.cell? ⟨s.Wb, 4, none⟩ = some (.int .i64 0) ∧ w'.cell? ⟨idb, 2, none⟩ = some (.string nm)) (by kernel_rfl) (by go_keep) (fun hHeld => ?_)
  refine wpAnyH_take (i := 0) (v := ?v0) rfl (by kernel_rfl) (by kernel_rfl) (by kernel_rfl) (fun _ _ _ h => h) (Or.inl ⟨by rfl, ?y0⟩) (by assumption) ?r0
  case y0 => intro w hSw; (try dsimp only at hSw); go_simp; try with_reducible rfl
  simp only [Act.put, List.setIfInBounds_toArray, List.set_cons_zero, List.set_cons_succ]
  refine wpAnyH_take (i := 1) (v := ?v1) rfl (by kernel_rfl) (by kernel_rfl) (by kernel_rfl) (fun _ _ _ h => h) (Or.inl ⟨by rfl, ?y1⟩) (by assumption) ?r1
  case y1 => intro w hSw; (try dsimp only at hSw); go_simp; try with_reducible rfl
  simp only [Act.put, List.setIfInBounds_toArray, List.set_cons_zero, List.set_cons_succ]
  refine wpAnyH_take (i := 2) (v := ?v2) rfl (by kernel_rfl) (by kernel_rfl) (by kernel_rfl) (fun _ _ _ h => h) (Or.inl ⟨by rfl, ?y2⟩) (by assumption) ?r2
  case y2 => intro w hSw; (try dsimp only at hSw); go_simp; try with_reducible rfl
  simp only [Act.put, List.setIfInBounds_toArray, List.set_cons_zero, List.set_cons_succ]
  refine wpAnyH_take (i := 3) (v := ?v3) rfl (by kernel_rfl) (by kernel_rfl) (by kernel_rfl) (fun _ _ _ h => h) (Or.inl ⟨by rfl, ?y3⟩) (by assumption) ?r3
  case y3 => intro w hSw; (try dsimp only at hSw); go_simp; try with_reducible rfl
  simp only [Act.put, List.setIfInBounds_toArray, List.set_cons_zero, List.set_cons_succ]
  refine wpAnyH_take (i := 5) (v := ?v5) rfl (by kernel_rfl) (by kernel_rfl) (by kernel_rfl) (fun _ _ _ h => h) (Or.inl ⟨by rfl, ?y5⟩) (by assumption) ?r5
  case y5 => intro w hSw; (try dsimp only at hSw); go_simp; try with_reducible rfl
  simp only [Act.put, List.setIfInBounds_toArray, List.set_cons_zero, List.set_cons_succ]
  refine wpAnyH_take (i := 6) (v := ?v6) rfl (by kernel_rfl) (by kernel_rfl) (by kernel_rfl) (fun _ _ _ h => h) (Or.inl ⟨by rfl, ?y6⟩) (by assumption) ?r6
  case y6 => intro w hSw; (try dsimp only at hSw); go_simp; try with_reducible rfl
  simp only [Act.put, List.setIfInBounds_toArray, List.set_cons_zero, List.set_cons_succ]
  refine wpAnyH_take (i := 7) (v := ?v7) rfl (by kernel_rfl) (by kernel_rfl) (by kernel_rfl) (fun _ _ _ h => h) (Or.inl ⟨by rfl, ?y7⟩) (by assumption) ?r7
  case y7 => intro w hSw; (try dsimp only at hSw); go_simp; try with_reducible rfl
  simp only [Act.put, List.setIfInBounds_toArray, List.set_cons_zero, List.set_cons_succ]
  refine wpAnyH_take (i := 8) (v := ?v8) rfl (by kernel_rfl) (by kernel_rfl) (by kernel_rfl) (fun _ _ _ h => h) (Or.inl ⟨by rfl, ?y8⟩) (by assumption) ?r8
  case y8 => intro w hSw; (try dsimp only at hSw); go_simp; try with_reducible rfl
  simp only [Act.put, List.setIfInBounds_toArray, List.set_cons_zero, List.set_cons_succ]
  refine wpAnyH_take (i := 9) (v := ?v9) rfl (by kernel_rfl) (by kernel_rfl) (by kernel_rfl) (fun _ _ _ h => h) (Or.inl ⟨by rfl, ?y9⟩) (by assumption) ?r9
  case y9 => intro w hSw; (try dsimp only at hSw); go_simp; try with_reducible rfl
  simp only [Act.put, List.setIfInBounds_toArray, List.set_cons_zero, List.set_cons_succ]
  refine wpAnyH_take (i := 10) (v := ?v10) rfl (by kernel_rfl) (by kernel_rfl) (by kernel_rfl) (fun _ _ _ h => h) (Or.inl ⟨by rfl, ?y10⟩) (by assumption) ?r10
  case y10 => intro w hSw; (try dsimp only at hSw); go_simp; try with_reducible rfl
  simp only [Act.put, List.setIfInBounds_toArray, List.set_cons_zero, List.set_cons_succ]
  refine wpAnyH_take (i := 11) (v := ?v11) rfl (by kernel_rfl) (by kernel_rfl) (by kernel_rfl) (fun _ _ _ h => h) (Or.inl ⟨by rfl, ?y11⟩) (by assumption) ?r11
  case y11 => intro w hSw; (try dsimp only at hSw); go_simp; try with_reducible rfl
  simp only [Act.put, List.setIfInBounds_toArray, List.set_cons_zero, List.set_cons_succ]
  refine wpAnyH_take (i := 12) (v := ?v12) rfl (by kernel_rfl) (by kernel_rfl) (by kernel_rfl) (fun _ _ _ h => h) (Or.inl ⟨by rfl, ?y12⟩) (by assumption) ?r12
  case y12 => intro w hSw; (try dsimp only at hSw); go_simp; try with_reducible rfl
  simp only [Act.put, List.setIfInBounds_toArray, List.set_cons_zero, List.set_cons_succ]
  refine wpAnyH_take (i := 13) (v := ?v13) rfl (by kernel_rfl) (by kernel_rfl) (by kernel_rfl) (fun _ _ _ h => h) (Or.inl ⟨by rfl, ?y13⟩) (by assumption) ?r13
  case y13 => intro w hSw; (try dsimp only at hSw); go_simp; try with_reducible rfl
  simp only [Act.put, List.setIfInBounds_toArray, List.set_cons_zero, List.set_cons_succ]
  refine wpAnyH_take (i := 14) (v := ?v14) rfl (by kernel_rfl) (by kernel_rfl) (by kernel_rfl) (fun _ _ _ h => h) (Or.inl ⟨by rfl, ?y14⟩) (by assumption) ?r14
  case y14 => intro w hSw; (try dsimp only at hSw); go_simp; try with_reducible rfl
  simp only [Act.put, List.setIfInBounds_toArray, List.set_cons_zero, List.set_cons_succ]
  refine wpAnyH_take (i := 15) (v := ?v15) rfl (by kernel_rfl) (by kernel_rfl) (by kernel_rfl) (fun _ _ _ h => h) (Or.inl ⟨by rfl, ?y15⟩) (by assumption) ?r15
  case y15 => intro w hSw; (try dsimp only at hSw); go_simp; try with_reducible rfl
  simp only [Act.put, List.setIfInBounds_toArray, List.set_cons_zero, List.set_cons_succ]
  refine wpAnyH_take (i := 16) (v := ?v16) rfl (by kernel_rfl) (by kernel_rfl) (by kernel_rfl) (fun _ _ _ h => h) (Or.inl ⟨by rfl, ?y16⟩) (by assumption) ?r16
  case y16 => intro w hSw; (try dsimp only at hSw); go_simp; try with_reducible rfl
  simp only [Act.put, List.setIfInBounds_toArray, List.set_cons_zero, List.set_cons_succ]
  refine wpAnyH_take (i := 17) (v := ?v17) rfl (by kernel_rfl) (by kernel_rfl) (by kernel_rfl) (fun _ _ _ h => h) (Or.inl ⟨by rfl, ?y17⟩) (by assumption) ?r17
  case y17 => intro w hSw; (try dsimp only at hSw); go_simp; try with_reducible rfl
  simp only [Act.put, List.setIfInBounds_toArray, List.set_cons_zero, List.set_cons_succ]
  refine wpAnyH_take (i := 18) (v := ?v18) rfl (by kernel_rfl) (by kernel_rfl) (by kernel_rfl) (fun _ _ _ h => h) (Or.inr ⟨by kernel_rfl, ?e18⟩) (by assumption) ?r18
  case e18 => rfl
  simp only [Act.put, List.setIfInBounds_toArray, List.set_cons_zero, List.set_cons_succ]
  refine wpAnyH_take (i := 19) (v := ?v19) rfl (by kernel_rfl) (by kernel_rfl) (by kernel_rfl) (fun _ _ _ h => h) (Or.inr ⟨by kernel_rfl, ?e19⟩) (by assumption) ?r19
  case e19 => rfl
  simp only [Act.put, List.setIfInBounds_toArray, List.set_cons_zero, List.set_cons_succ]
  refine wpAnyH_take (i := 20) (v := ?v20) rfl (by kernel_rfl) (by kernel_rfl) (by kernel_rfl) (fun _ _ _ h => h) (Or.inr ⟨by kernel_rfl, ?e20⟩) (by assumption) ?r20
  case e20 => rfl
  simp only [Act.put, List.setIfInBounds_toArray, List.set_cons_zero, List.set_cons_succ]
  refine wpAnyH_take (i := 21) (v := ?v21) rfl (by kernel_rfl) (by kernel_rfl) (by kernel_rfl) (fun _ _ _ h => h) (Or.inr ⟨by kernel_rfl, ?e21⟩) (by assumption) ?r21
  case e21 => rfl
  simp only [Act.put, List.setIfInBounds_toArray, List.set_cons_zero, List.set_cons_succ]
  refine wpAnyH_take (i := 22) (v := ?v22) rfl (by kernel_rfl) (by kernel_rfl) (by kernel_rfl) (fun _ _ _ h => h) (Or.inr ⟨by kernel_rfl, ?e22⟩) (by assumption) ?r22
  case e22 => rfl
  simp only [Act.put, List.setIfInBounds_toArray, List.set_cons_zero, List.set_cons_succ]
  refine wpAnyH_take (i := 23) (v := ?v23) rfl (by kernel_rfl) (by kernel_rfl) (by kernel_rfl) (fun _ _ _ h => h) (Or.inr ⟨by kernel_rfl, ?e23⟩) (by assumption) ?r23
  case e23 => rfl
  simp only [Act.put, List.setIfInBounds_toArray, List.set_cons_zero, List.set_cons_succ]
  refine wpAnyH_take (i := 24) (v := ?v24) rfl (by kernel_rfl) (by kernel_rfl) (by kernel_rfl) (fun _ _ _ h => h) (Or.inr ⟨by kernel_rfl, ?e24⟩) (by assumption) ?r24
  case e24 => rfl
  simp only [Act.put, List.setIfInBounds_toArray, List.set_cons_zero, List.set_cons_succ]
  refine wpAnyH_take (i := 25) (v := ?v25) rfl (by kernel_rfl) (by kernel_rfl) (by kernel_rfl) (fun _ _ _ h => h) (Or.inr ⟨by kernel_rfl, ?e25⟩) (by assumption) ?r25
  case e25 => rfl
  simp only [Act.put, List.setIfInBounds_toArray, List.set_cons_zero, List.set_cons_succ]
  refine wpAnyH_take (i := 26) (v := ?v26) rfl (by kernel_rfl) (by kernel_rfl) (by kernel_rfl) (fun _ _ _ h => h) (Or.inl ⟨by rfl, ?y26⟩) (by assumption) ?r26
  case y26 => intro w hSw; (try dsimp only at hSw); go_simp; try with_reducible rfl
  simp only [Act.put, List.setIfInBounds_toArray, List.set_cons_zero, List.set_cons_succ]
  refine wpAnyH_take (i := 27) (v := ?v27) rfl (by kernel_rfl) (by kernel_rfl) (by kernel_rfl) (fun _ _ _ h => h) (Or.inl ⟨by rfl, ?y27⟩) (by assumption) ?r27
  case y27 => intro w hSw; (try dsimp only at hSw); go_simp; try with_reducible rfl
  simp only [Act.put, List.setIfInBounds_toArray, List.set_cons_zero, List.set_cons_succ]
  clear hup hq c1 c2 c3 d1 d3 hid y1 y2 y3 z1 z2 z3 z4 z5 m0
  refine wpAnyH_ready (rs := [4, 28]) (by kernel_rfl) (by simp) ?_
  refine AllReadyH.cons rfl (fun K hK => ?_) (AllReadyH.cons rfl (fun K hK => ?_) AllReadyH.nil)
  · go_simp
    refine hK.out _ _ (by first | assumption | go_keep) (fun hHeld => ?_)
    clear hK K
    refine wpAnyH_ready (rs := [28]) (by kernel_rfl) (by simp) ?_
    refine AllReadyH.cons rfl (fun K hK => ?_) AllReadyH.nil
    go_simp
    refine hK.out _ _ (by first | assumption | go_keep) (fun hHeld => ?_)
    clear hK K
    refine wpAnyH_ready (rs := [29]) (by kernel_rfl) (by simp) ?_
    refine AllReadyH.cons rfl (fun K hK => ?_) AllReadyH.nil
    refine step_append_lies _ rfl _ _ _ rfl B 95 i0 z95 10 64 Try.underlying88 hi hz0 hz1 hz2 rfl (by decide) (.slice a0 s.n cp0) s.n s.xs rfl (HOWN.out _) ⟨w2.heap.size, 0, none⟩ 1 1 (newVar nm) rfl rfl (HNEWS.out _) (newVar_one nm) (by decide) (by unfold maxLen; omega) (by omega) (HBASE.out _) (w2.heap.size + 1) (by simp) ?_
    intro g cap w3 hown3 hgrow3 hat3 hlt3
    obtain ⟨H3, f3, e2, e3, e4, e5, e6, e7, e8, e9⟩ := T.out g cap w3 _ hgrow3 hown3
    clear hgrow3 hown3 hHeld
    refine hK.out _ _ ⟨e3, e4, e5⟩ (fun hHeld => ?_)
    clear hK K
    refine wpAnyH_take (i := 30) (v := ?v30) rfl (by kernel_rfl) (by kernel_rfl) (by kernel_rfl) (fun _ _ _ h => h) (Or.inl ⟨by rfl, ?y30⟩) (by assumption) ?r30
    case y30 => intro w hSw; (try dsimp only at hSw); go_simp; try with_reducible rfl
    simp only [Act.put, List.setIfInBounds_toArray, List.set_cons_zero, List.set_cons_succ]
    refine wpAnyH_take (i := 31) (v := ?v31) rfl (by kernel_rfl) (by kernel_rfl) (by kernel_rfl) (fun _ _ _ h => h) (Or.inl ⟨by rfl, ?y31⟩) (by assumption) ?r31
    case y31 => intro w hSw; (try dsimp only at hSw); go_simp; try with_reducible rfl
    simp only [Act.put, List.setIfInBounds_toArray, List.set_cons_zero, List.set_cons_succ]
    refine wpAnyH_ready (rs := [32]) (by kernel_rfl) (by simp) ?_
    refine AllReadyH.cons rfl (fun K hK => ?_) AllReadyH.nil
    go_simp
    refine hK.out _ _ ⟨e6, e7, e8⟩ (fun hHeld => ?_)
    clear hK K
    refine wpAnyH_done (by kernel_rfl) ?_ _
    clear hHeld
    go_wp2
    go_quiet (fail)
    go_wp2
    go_ret
    exact ⟨g, cap, rfl, H3.out.1.drewN _, H3.out.2.grown (gdrewN _ _ none) e9 (by simp)⟩
  · go_simp
    refine hK.out _ _ (by first | assumption | go_keep) (fun hHeld => ?_)
    clear hK K
    refine wpAnyH_ready (rs := [4]) (by kernel_rfl) (by simp) ?_
    refine AllReadyH.cons rfl (fun K hK => ?_) AllReadyH.nil
    go_simp
    refine hK.out _ _ (by first | assumption | go_keep) (fun hHeld => ?_)
    clear hK K
    refine wpAnyH_ready (rs := [29]) (by kernel_rfl) (by simp) ?_
    refine AllReadyH.cons rfl (fun K hK => ?_) AllReadyH.nil
    refine step_append_lies _ rfl _ _ _ rfl B 95 i0 z95 10 64 Try.underlying88 hi hz0 hz1 hz2 rfl (by decide) (.slice a0 s.n cp0) s.n s.xs rfl (HOWN.out _) ⟨w2.heap.size, 0, none⟩ 1 1 (newVar nm) rfl rfl (HNEWS.out _) (newVar_one nm) (by decide) (by unfold maxLen; omega) (by omega) (HBASE.out _) (w2.heap.size + 1) (by simp) ?_
    intro g cap w3 hown3 hgrow3 hat3 hlt3
    obtain ⟨H3, f3, e2, e3, e4, e5, e6, e7, e8, e9⟩ := T.out g cap w3 _ hgrow3 hown3
    clear hgrow3 hown3 hHeld
    refine hK.out _ _ ⟨e3, e4, e5⟩ (fun hHeld => ?_)
    clear hK K
    refine wpAnyH_take (i := 30) (v := ?v30b) rfl (by kernel_rfl) (by kernel_rfl) (by kernel_rfl) (fun _ _ _ h => h) (Or.inl ⟨by rfl, ?y30b⟩) (by assumption) ?r30b
    case y30b => intro w hSw; (try dsimp only at hSw); go_simp; try with_reducible rfl
    simp only [Act.put, List.setIfInBounds_toArray, List.set_cons_zero, List.set_cons_succ]
    refine wpAnyH_take (i := 31) (v := ?v31b) rfl (by kernel_rfl) (by kernel_rfl) (by kernel_rfl) (fun _ _ _ h => h) (Or.inl ⟨by rfl, ?y31b⟩) (by assumption) ?r31b
    case y31b => intro w hSw; (try dsimp only at hSw); go_simp; try with_reducible rfl
    simp only [Act.put, List.setIfInBounds_toArray, List.set_cons_zero, List.set_cons_succ]
    refine wpAnyH_ready (rs := [32]) (by kernel_rfl) (by simp) ?_
    refine AllReadyH.cons rfl (fun K hK => ?_) AllReadyH.nil
    go_simp
    refine hK.out _ _ ⟨e6, e7, e8⟩ (fun hHeld => ?_)
    clear hK K
    refine wpAnyH_done (by kernel_rfl) ?_ _
    clear hHeld
    go_wp2
    go_quiet (fail)
    go_wp2
    go_ret
    exact ⟨g, cap, rfl, H3.out.1.drewN _, H3.out.2.grown (gdrewN _ _ none) e9 (by simp)⟩

/-- declare. -/
theorem declare_any {B R : Nat} {s : St} {w : World} (h : Inv B R s w) (nm : ByteArray) (idb : Nat) (hid : w.cell? ⟨idb, 2, none⟩ = some (.string nm)) (hidB : idb < B) (hidR : idb ≠ R) (hn : s.n ≤ 65536) :
    Calls Try.prog 23 #[.pointer (some ⟨s.Wb, 0, none⟩), .pointer (some ⟨idb, 0, none⟩)] w fun e w' => ∃ g cap vm, e = .returned (.pointer (some ⟨g, s.n * 10, none⟩)) ∧
      Inv B R { s with vm := vm, vv := .slice (some ⟨g, 0, none⟩) (s.n + 1) cap, FV := putN s.FV nm s.n, n := s.n + 1, xs := s.xs ++ newVar nm } w' ∧ Fr B R w w' := by
  rcases h.hV with ⟨hvm, hno⟩ | ⟨Vb, k, hvm, bV, hVU, hV⟩
  · obtain ⟨w1, hw1⟩ : ∃ w1, (w.setCell ⟨s.Sb, 0, none⟩ (.map (some w.heap.size))).alloc (.map #[] 0) = w1 := ⟨_, rfl⟩
    have hsz : (w.setCell ⟨s.Sb, 0, none⟩ (.map (some w.heap.size))).heap.size = w.heap.size := by simp [World.setCell]
    have hg : w.grownBy w1 (some s.Sb) := by rw [← hw1]; exact (gset w ⟨s.Sb, 0, none⟩ _).trans (galloc _ _ _)
    have hnew : StrMap w1 w.heap.size (fun _ => none) 0 := by
      have := StrMap.made (w.setCell ⟨s.Sb, 0, none⟩ (.map (some w.heap.size)))
      rw [hsz, hw1] at this; exact this
    have hS1 : w1.heap[s.Sb]? = some (.cells #[.map (some w.heap.size), .pointer none] 87 (0, 0)) := by
      rw [← hw1, Below.heap_alloc _ _ _ (by rw [hsz]; exact lt_of_blk h.hS), blk_set h.hS 0]; rfl
    obtain ⟨F, k, hR⟩ := h.hR
    have hV0 : StrMap w1 w.heap.size (fV s.FV) 0 := by
      have : fV s.FV = fun _ => none := by funext t; simp [fV, hno t]
      rw [this]; exact hnew
    have h1 : Inv B R { s with vm := .map (some w.heap.size) } w1 := by
      refine ⟨Nat.le_trans h.hB hg.size, blk_kept h.hW hg (fun e => ne_of_tag h.hW h.hS (by simp [tagOf]) (by simpa using e)), hS1, h.hU.kept hg (fun e => h.hU.ne_blk h.hS (by simp [tagOf]) (by simpa using e)), .inr ⟨w.heap.size, 0, rfl, h.hB, ?_, hV0⟩, ⟨F, k, hR.kept hg (fun e => hR.ne_blk h.hS (by simp [tagOf]) (by simpa using e))⟩, h.bW, h.bS, h.bU, h.bR, ?_, ?_, ?_, ?_⟩
      · obtain ⟨o, hb, _⟩ := h.hU.blk
        exact Nat.ne_of_gt (lt_of_blk hb)
      · exact own_kept h.hv hg (.inr (own_ne h.hv h.hS (by simp [tagOf])))
      · exact own_kept h.ht hg (.inr (own_ne h.ht h.hS (by simp [tagOf])))
      · exact own_kept h.ho hg (.inr (own_ne h.ho h.hS (by simp [tagOf])))
      · exact own_kept h.hk hg (.inr (own_ne h.hk h.hS (by simp [tagOf])))
    have hUne : w.heap.size ≠ s.Ub := by
      obtain ⟨o, hb, _⟩ := h.hU.blk
      exact Nat.ne_of_gt (lt_of_blk hb)
    have hf : Fr B R w w1 := (Fr.refl B R w).grown hg h.hB (fun k e => by simp at e; have := h.bS; exact .inl (by omega))
    refine (declare_nil_aux (s := { s with vm := .map (some w.heap.size) }) (w := w1) (w0 := w) h1 w.heap.size 0 hw1 (hd rfl) (cell_blk h.hW 1) ((cell_blk h.hS 0).trans (by rw [hvm]; rfl)) (free_blk h.hS 0) (lt_of_blk h.hW) (lt_of_blk h.hS) rfl h.hB hUne hV0 nm idb (cell_fr hid hf hidB hidR) hidB hidR hn).mono ?_
    rintro e w' ⟨g, cap, he, hI, hF⟩
    exact ⟨g, cap, _, he, hI, hf.trans hF⟩
  · refine (declare_tail h Vb k hvm bV hVU hV nm idb hid hidB hidR hn).mono ?_
    rintro e w' ⟨g, cap, he, hI, hF⟩
    exact ⟨g, cap, s.vm, he, hI, hF⟩
end Go.Proofs.Qxb6613372a
