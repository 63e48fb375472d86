/-
  Seat b6613372a: ZZwalkScript.
-/
import Derived.Test.Qxb6613372aWM
namespace Go.Proofs.Qxb6613372a
open Go.ChangeShapes Go.WideShapes Go.ChangeAt Go.RowKit Go.MapKept
set_option linter.unusedSimpArgs false
set_option linter.unusedVariables false

def StrsAt (w : World) (a : Option Addr) (ps : List ByteArray) : Prop := ∀ i s, ps[i]? = some s → ∃ b, a = some ⟨b, 0, none⟩ ∧ b < w.heap.size ∧ w.cell? ⟨b, i, none⟩ = some (.string s)
def BoolsAt (w : World) (a : Option Addr) (bs : List Bool) : Prop := ∀ i s, bs[i]? = some s → ∃ b, a = some ⟨b, 0, none⟩ ∧ b < w.heap.size ∧ w.cell? ⟨b, i, none⟩ = some (.bool s)
def plainOf (x : Sm) : Bool × ByteArray := (x.1, x.2.1)

theorem Scr.call {z R : Nat} {w0 w : World} {pv sv : Value} {P : List (ByteArray × Nat)} {L : List Sm} {vs : List Value} (h : Scr z w0 pv sv P L vs w) {F : ByteArray → Option Value} {k : Nat} (hR : StrMap w0 R F k) (hP : P.length ≤ 60000) (hL : L.length ≤ 60000) :
    Calls Try.prog 21 #[.pointer (some ⟨z + 1 + 1 + 1, 0, none⟩), .func (.func 22) #[] #[], .map (some R)] w fun e w' => ∃ ub pb lb kU, e = .returned (.agg #[.map (some ub), .slice (some ⟨pb, 0, none⟩) P.length P.length, .map (some lb)]) ∧ StrMap w' ub (fU (useF L)) kU ∧ w'.rowIs pb 82 P.length (fun j => .int .u8 ((useF L (pnf P j)).getD 0 : Nat)) ∧ PMap w' lb ((retL (FVp (nms P)) L).map (fun x => x.1)) ∧ Fr w.heap.size R w w' := by
  have hR' := hR.kept h.gr (by simp)
  obtain ⟨qa, qc, hpv⟩ := slice_shape h.hp
  obtain ⟨sa, sc, hsv⟩ := slice_shape h.hs
  have neR : ∀ {b : Nat} {o : Obj}, w.heap[b]? = some o → tagOf o ≠ 0 → b ≠ R := fun hb ht => (hR'.ne_blk hb ht).symm
  refine walkFunc_run hR' (z + 1 + 1 + 1) (z + 1 + 1) qa qc P hP sa sc L hL ((cell_blk h.hD 3).trans (by rw [← hpv]; rfl)) (cell_blk h.hD 4) (neR h.hD (by simp [tagOf])) (lt_of_blk h.hD) ((cell_blk h.hB 0).trans (by rw [← hsv]; rfl)) (neR h.hB (by simp [tagOf])) (lt_of_blk h.hB) ?_ ?_ h.nd ?_
  · intro i x hx
    have hi := (List.getElem?_eq_some_iff.1 hx).1
    have hp := h.hp
    rw [hpv] at hp
    obtain ⟨g, rfl⟩ : ∃ g, qa = some ⟨g, 0, none⟩ := by
      rcases hp.2 with ⟨_, h2⟩ | ⟨g', cap, cur, h1, _⟩
      · omega
      · cases h1; exact ⟨g', rfl⟩
    have hmem := h.ids x (List.mem_of_getElem? hx)
    obtain ⟨o, ho, hto⟩ : ∃ o, w.heap[g]? = some o ∧ tagOf o ≠ 0 := by
      rcases hp.2 with ⟨h1, _⟩ | ⟨g', cap, cur, h1, _, hg, _⟩
      · cases h1
      · cases h1; exact ⟨_, hg, by simp [tagOf]⟩
    exact ⟨g, rfl, (hp.lt g rfl).2, neR ho hto, own_cell hp (by rw [List.getElem?_map, hx]; rfl), lt_of_blk hmem, neR hmem (by simp [tagOf, IdCells]), cell_blk hmem 2⟩
  · intro i x hx
    have hi := (List.getElem?_eq_some_iff.1 hx).1
    have hs := h.hs
    rw [hsv] at hs
    obtain ⟨g, rfl⟩ : ∃ g, sa = some ⟨g, 0, none⟩ := by
      rcases hs.2 with ⟨_, h2⟩ | ⟨g', cap, cur, h1, _⟩
      · omega
      · cases h1; exact ⟨g', rfl⟩
    obtain ⟨o, ho, hto⟩ : ∃ o, w.heap[g]? = some o ∧ tagOf o ≠ 0 := by
      rcases hs.2 with ⟨h1, _⟩ | ⟨g', cap, cur, h1, _, hg, _⟩
      · cases h1
      · cases h1; exact ⟨_, hg, by simp [tagOf]⟩
    obtain ⟨v, h1, h2⟩ := h.sts i x hx
    refine ⟨g, v, rfl, (hs.lt g rfl).2, neR ho hto, own_cell hs h1, lt_of_blk h2.1, neR h2.1 (by simp [tagOf, IdCells]), cell_blk h2.1 2, ?_⟩
    obtain ⟨r, nm, ib⟩ := x
    obtain ⟨_, h3⟩ := h2
    cases r with
    | true =>
      obtain ⟨rb, e1, e2⟩ := h3
      exact ⟨rb, e1, lt_of_blk e2, neR e2 (by simp [tagOf]), cell_blk e2 2⟩
    | false =>
      obtain ⟨ab, lb, e1, e2⟩ := h3
      exact ⟨ab, lb, e1, lt_of_blk e2, neR e2 (by simp [tagOf]), cell_blk e2 0, cell_blk e2 1⟩
  · intro x hx
    obtain ⟨i, hi⟩ := List.mem_iff_getElem?.1 hx
    obtain ⟨v, h1, h2⟩ := h.sts i x hi
    exact ⟨_, _, h2.1⟩

set_option maxRecDepth 100000 in
set_option maxHeartbeats 2000000 in
theorem script_run {w : World} {R : Nat} {F : ByteArray → Option Value} {k : Nat} (hR : StrMap w R F k) (pa na ra : Option Addr) (c1 c2 c3 : Nat) (ps : List ByteArray) (M : List (Bool × ByteArray)) (hps : ps.length ≤ 60000) (hM : M.length ≤ 60000) (hP : StrsAt w pa ps) (hN : StrsAt w na (M.map (fun x => x.2))) (hB : BoolsAt w ra (M.map (fun x => x.1))) :
    Calls Try.prog 16 #[.slice pa ps.length c1, .slice na M.length c2, .slice ra M.length c3, .map (some R)] w fun e w' => ∃ P L, nms P = ps ∧ L.map plainOf = M ∧ ∃ ub pb lb kU, e = .returned (.agg #[.map (some ub), .slice (some ⟨pb, 0, none⟩) P.length P.length, .map (some lb)]) ∧ StrMap w' ub (fU (useF L)) kU ∧ w'.rowIs pb 82 P.length (fun j => .int .u8 ((useF L (pnf P j)).getD 0 : Nat)) ∧ PMap w' lb ((retL (FVp (nms P)) L).map (fun x => x.1)) ∧ Fr w.heap.size R w w' := by
  have hV := V1_scr w
  obtain ⟨w1, hw1⟩ : ∃ w1, w1 = V1 w := ⟨_, rfl⟩
  obtain ⟨z, hz⟩ : ∃ z, z = w.heap.size := ⟨_, rfl⟩
  rw [← hw1, ← hz] at hV
  have H0 : Hid (Scr z w (.slice none 0 0) (.slice none 0 0) [] [] [] w1 ∧ nms ([] : List (ByteArray × Nat)) = ps.take 0) := ⟨hV, rfl⟩
  have HP := hd hP
  have HN := hd hN
  have HB := hd hB
  have HRs := hd hR
  obtain ⟨i1, hi1, hy0, hy1, hy2⟩ := info_parts info57
  obtain ⟨i0, hi0, hz0, hz1, hz2⟩ := info_parts info101
  clear hV hP hN hB hR
  go_enter Try.func16, Try.ntmps16
  go_upto_region 2 with fail
  change Code.wp Try.prog _ _ _ (V1 w)
  rw [← hw1, ← hz]
  have HZ := hd hz
  clear hw1 hz
  go_wp2
  go_loopg [23] ps.length (fun g x wr => ∃ (i : Nat) (pv : Value) (P : List (ByteArray × Nat)), g = ps.length - i ∧ i ≤ ps.length ∧ x = .int .i64 i ∧ Hid (Scr z w pv (.slice none 0 0) P [] [] wr ∧ nms P = ps.take i))
  case atStart => exact ⟨0, _, _, by omega, by omega, rfl, H0.out⟩
  case round =>
    clear H0
    obtain ⟨i, pv, P, rfl, hi, rfl, H⟩ := hrel
    by_cases hlt : i < ps.length
    · obtain ⟨hS, hnm⟩ := H.out
      have hx : ps[i]? = some ps[i] := List.getElem?_eq_getElem hlt
      obtain ⟨s, hs⟩ : ∃ s, ps[i] = s := ⟨_, rfl⟩
      rw [hs] at hx
      obtain ⟨b, rfl, bz, cP⟩ := HP.out i s hx
      have eP : wr.cell? ⟨b, i, none⟩ = some (.string s) := (World.cell?_of_block (hS.gr.block b bz (by simp))).trans cP
      have hPl : P.length = i := by have := congrArg List.length hnm; simp [nms] at this; omega
      obtain ⟨qa, qc, hpv⟩ := slice_shape hS.hp
      rw [hPl] at hpv
      subst hpv
      have c3 : wr.cell? ⟨z + 1 + 1 + 1, 3, none⟩ = some (.slice qa i qc) := cell_blk hS.hD 3
      have ltI : (i : Int) < ps.length := by omega
      have HT : Hid (∀ o1 o2 : Obj, ((wr.alloc o1).alloc o2).ownsRow z 57 1 (.slice qa i qc) i (P.map (fun x => .pointer (some ⟨x.2, 0, none⟩)))) := fun o1 o2 => by have := (hS.more ((galloc wr o1 none).trans (galloc _ o2 none))).hp; rw [hPl] at this; exact this
      have HBs : Hid (∀ o1 o2 : Obj, z ≤ ((wr.alloc o1).alloc o2).heap.size) := fun o1 o2 => by have := (hS.more ((galloc wr o1 none).trans (galloc _ o2 none))).gr.size; rw [hS.hz]; exact this
      have HNw : Hid (∀ (o1 : Obj) (cs : Array Value), ∀ (i : Nat) (u : Value), cs.toList[i]? = some u → ((wr.alloc o1).alloc (.cells cs 57)).cell? ((⟨wr.heap.size + 1, 0, none⟩ : Addr).add i) = some u) := fun o1 cs => World.news_of_block (by have := (MapKept.heap_alloc (wr.alloc o1) (.cells cs 57)).1; simpa using this)
      have htk : ps.take (i + 1) = ps.take i ++ [s] := by rw [List.take_add_one, hx]; rfl
      have T : Hid (∀ (g cap : Nat) (w3 : World) (o2 : Obj), ((wr.alloc (.cells #[.int .i64 0, .int .i64 0, .string s] 61)).alloc o2).grownBy w3 (Value.slice qa i qc).ownBlock → w3.ownsRow z 57 1 (.slice (some ⟨g, 0, none⟩) (i + 1) cap) (i + 1) (P.map (fun x => .pointer (some ⟨x.2, 0, none⟩)) ++ [.pointer (some ⟨wr.heap.size, 0, none⟩)]) →
          (w3.cell? ⟨z + 1 + 1 + 1, 3, none⟩ = some (.slice qa i qc) ∧ w3.frozen? ⟨z + 1 + 1 + 1, 3, none⟩ = false) ∧ Hid (Scr z w (.slice (some ⟨g, 0, none⟩) (i + 1) cap) (.slice none 0 0) (P ++ [(s, wr.heap.size)]) [] [] (w3.setCell ⟨z + 1 + 1 + 1, 3, none⟩ (.slice (some ⟨g, 0, none⟩) (i + 1) cap)) ∧ nms (P ++ [(s, wr.heap.size)]) = ps.take (i + 1))) := fun g cap w3 o2 hg3 ho3 => by
        have hib := blk_kept (MapKept.heap_alloc wr (.cells #[.int .i64 0, .int .i64 0, .string s] 61)).1 (galloc _ o2 none) (by simp)
        obtain ⟨h1, h2⟩ := hS.pushP ((galloc wr (.cells #[.int .i64 0, .int .i64 0, .string s] 61) none).trans (galloc _ o2 none)) hg3 hib (by rw [hPl]; exact ho3)
        exact ⟨h1, h2, by rw [htk, ← hnm]; simp [nms]⟩
      clear hS hnm hx hs htk cP H
      go_wp2_with (at_builtin; refine wpList_append_lies _ rfl _ _ 66 rfl z 57 i1 (.pointer none) 1 8 Try.underlying66 hi1 hy0 hy1 hy2 rfl (by decide) (.slice qa i qc) i _ rfl (HT.out _ _) ⟨wr.heap.size + 1, 0, none⟩ 1 1 [.pointer (some ⟨wr.heap.size, 0, none⟩)] rfl rfl (HNw.out _ _) (by intro u hu; simp at hu; subst hu; rfl) (by decide) (by unfold maxLen; omega) (by omega) (HBs.out _ _) _ rfl ?_)
      intro g cap w3 hown3 hgrow3 hat3 hlt3
      obtain ⟨⟨e1, e2⟩, H5⟩ := T.out g cap w3 _ hgrow3 hown3
      clear hown3 hgrow3 T HT HBs HNw
      go_wp2
      go_roundg (ps.length - (i + 1))
      case measure => omega
      case rel => exact ⟨i + 1, _, _, rfl, hlt, rfl, H5.out⟩
    · have e : i = ps.length := by omega
      subst e
      have HP2 : Hid (Scr z w pv (.slice none 0 0) P [] [] wr ∧ nms P = ps) := by have := H.out; rwa [List.take_length] at this
      clear H
      go_wp2
      go_loopg [42] M.length (fun g x wr => ∃ (i : Nat) (sv : Value) (L : List Sm) (vs : List Value), g = M.length - i ∧ i ≤ M.length ∧ x = .int .i64 i ∧ Hid (Scr z w pv sv P L vs wr ∧ L.map plainOf = M.take i))
      case atStart => exact ⟨0, _, _, _, by omega, by omega, rfl, HP2.out.1, rfl⟩
      case round =>
        obtain ⟨i, sv, L, vs, rfl, hi, rfl, H⟩ := hrel
        by_cases hlt : i < M.length
        · obtain ⟨hS, hnm⟩ := H.out
          have hx : M[i]? = some M[i] := List.getElem?_eq_getElem hlt
          obtain ⟨⟨r, nm⟩, hs⟩ : ∃ s, M[i] = s := ⟨_, rfl⟩
          rw [hs] at hx
          obtain ⟨b, rfl, bz, cN⟩ := HN.out i nm (by rw [List.getElem?_map, hx]; rfl)
          obtain ⟨b', rfl, bz', cB⟩ := HB.out i r (by rw [List.getElem?_map, hx]; rfl)
          have eN : wr.cell? ⟨b, i, none⟩ = some (.string nm) := (World.cell?_of_block (hS.gr.block b bz (by simp))).trans cN
          have eB : wr.cell? ⟨b', i, none⟩ = some (.bool r) := (World.cell?_of_block (hS.gr.block b' bz' (by simp))).trans cB
          have hLl : L.length = i := by have := congrArg List.length hnm; simp at this; omega
          have hLb : L.length ≤ 60000 := by omega
          clear hLl
          obtain ⟨sa, sc, hsv⟩ := slice_shape hS.hs
          subst hsv
          have ltI : (i : Int) < M.length := by omega
          have hvl : vs.length = L.length := by have := hS.hs.1; simpa using this
          have SX : Hid (∀ X, wr.grownBy X none → X.cell? ⟨z + 1 + 1 + 1, 4, none⟩ = some (.pointer (some ⟨z + 1 + 1, 0, none⟩))) := fun X hX => cell_blk (hS.more hX).hD 4
          have LX : Hid (∀ X, wr.grownBy X none → X.cell? ⟨z + 1 + 1, 0, none⟩ = some (.slice sa L.length sc)) := fun X hX => cell_blk (hS.more hX).hB 0
          have HOWN : Hid (∀ X, wr.grownBy X none → X.ownsRow z 101 1 (.slice sa L.length sc) L.length vs) := fun X hX => (hS.more hX).hs
          have HBASE : Hid (∀ X, wr.grownBy X none → z ≤ X.heap.size) := fun X hX => by rw [hS.hz]; exact (hS.more hX).gr.size
          have htk : M.take (i + 1) = M.take i ++ [(r, nm)] := by rw [List.take_add_one, hx]; rfl
          have T : Hid (∀ (X w3 : World) (v : Value) (x : Sm) (g cap : Nat), wr.grownBy X none → X.grownBy w3 (Value.slice sa L.length sc).ownBlock → SNode X v x → wr.heap.size ≤ x.2.2 → w3.ownsRow z 101 1 (.slice (some ⟨g, 0, none⟩) (L.length + 1) cap) (L.length + 1) (vs ++ [v]) →
              (w3.cell? ⟨z + 1 + 1, 0, none⟩ = some (.slice sa L.length sc) ∧ w3.frozen? ⟨z + 1 + 1, 0, none⟩ = false ∧ w3.cell? ⟨z + 1 + 1 + 1, 4, none⟩ = some (.pointer (some ⟨z + 1 + 1, 0, none⟩)) ∧ (w3.setCell ⟨z + 1 + 1, 0, none⟩ (.slice (some ⟨g, 0, none⟩) (L.length + 1) cap)).cell? ⟨z + 1 + 1 + 1, 4, none⟩ = some (.pointer (some ⟨z + 1 + 1, 0, none⟩))) ∧ Hid (Scr z w pv (.slice (some ⟨g, 0, none⟩) (L.length + 1) cap) P (L ++ [x]) (vs ++ [v]) (w3.setCell ⟨z + 1 + 1, 0, none⟩ (.slice (some ⟨g, 0, none⟩) (L.length + 1) cap)))) := fun X w3 v x g cap h1 h2 h3 h4 h5 => by
            obtain ⟨a1, a2⟩ := hS.pushS h1 h2 h3 h4 hvl h5
            exact ⟨a1, a2⟩
          have RL : Hid (∀ (g cap : Nat) (w9 : World) (x : Sm) (v : Value) (i' : Value), i' = .int .i64 ((i : Int) + 1) → plainOf x = (r, nm) → Hid (Scr z w pv (.slice (some ⟨g, 0, none⟩) (L.length + 1) cap) P (L ++ [x]) (vs ++ [v]) w9) → ∃ (i2 : Nat) (sv : Value) (L : List Sm) (vs : List Value), M.length - (i + 1) = M.length - i2 ∧ i2 ≤ M.length ∧ i' = .int .i64 i2 ∧ Hid (Scr z w pv sv P L vs w9 ∧ L.map plainOf = M.take i2)) := fun g cap w9 x v i' hi' hx' h9 => ⟨i + 1, _, _, _, rfl, hlt, hi', h9.out, by rw [htk, ← hnm, ← hx']; simp⟩
          have hIB := MapKept.heap_alloc wr (IdCells nm)
          obtain ⟨wI, hwI⟩ : ∃ X, X = wr.alloc (IdCells nm) := ⟨_, rfl⟩
          obtain ⟨ib, hib⟩ : ∃ b, b = wr.heap.size := ⟨_, rfl⟩
          have GI : Hid (wr.grownBy wI none) := by rw [hwI]; exact galloc wr (IdCells nm) none
          have FI : Hid (wI.heap[ib]? = some (IdCells nm)) := by rw [hwI, hib]; exact (MapKept.heap_alloc wr (IdCells nm)).1
          have hfr : Hid (wr.heap.size ≤ ib) := by rw [hib]; exact Nat.le_refl _
          have hwI' : wI = wr.alloc (.cells #[.int .i64 0, .int .i64 0, .string nm] 61) := hwI
          have eB1 : ∀ o : Obj, (wr.alloc o).cell? ⟨b', i, none⟩ = some (.bool r) := fun o => (World.cell?_of_block (Below.heap_alloc wr o b' (Nat.lt_of_lt_of_le bz' hS.gr.size))).trans eB
          clear hS hnm hx hs htk cN cB H hIB hwI
          cases r with
          | true =>
            go_upto_region 12 with fail
            rw [← hwI', ← hib]
            clear hwI' hib
            refine region_any (S := fun X => X.cell? ⟨z + 1 + 1 + 1, 4, none⟩ = some (.pointer (some ⟨z + 1 + 1, 0, none⟩))) (by kernel_rfl) (by exact SX.out _ (GI.out.trans (gdrew wI none))) (fun X0 gX0 hHeld => ?_)
            have G0 : Hid (wr.grownBy X0 none) := GI.out.trans gX0
            have fI : Hid (X0.heap[ib]? = some (IdCells nm)) := blk_kept FI.out gX0 (by simp)
            clear gX0
            refine wpAnyH_take (i := 0) (v := ?v0_12) rfl (by kernel_rfl) (by kernel_rfl) (by kernel_rfl) (fun _ _ _ h => h) (Or.inl ⟨by rfl, ?y0_12⟩) (by assumption) ?r0_12
            case y0_12 => intro w hSw; (try dsimp only at hSw); go_simp; try with_reducible rfl
            simp only [Act.put, List.setIfInBounds_toArray, List.set_cons_zero, List.set_cons_succ]
            refine wpAnyH_take (i := 1) (v := ?v1_12) rfl (by kernel_rfl) (by kernel_rfl) (by kernel_rfl) (fun _ _ _ h => h) (Or.inl ⟨by rfl, ?y1_12⟩) (by assumption) ?r1_12
            case y1_12 => intro w hSw; (try dsimp only at hSw); go_simp; try with_reducible rfl
            simp only [Act.put, List.setIfInBounds_toArray, List.set_cons_zero, List.set_cons_succ]
            refine wpAnyH_take (i := 2) (v := ?v2_12) rfl (by kernel_rfl) (by kernel_rfl) (by kernel_rfl) (fun _ _ _ h => h) (Or.inl ⟨by rfl, ?y2_12⟩) (by assumption) ?r2_12
            case y2_12 => intro w hSw; (try dsimp only at hSw); go_simp; try with_reducible rfl
            simp only [Act.put, List.setIfInBounds_toArray, List.set_cons_zero, List.set_cons_succ]
            refine wpAnyH_take (i := 3) (v := ?v3_12) rfl (by kernel_rfl) (by kernel_rfl) (by kernel_rfl) (fun _ _ _ h => h) (Or.inl ⟨by rfl, ?y3_12⟩) (by assumption) ?r3_12
            case y3_12 => intro w hSw; (try dsimp only at hSw); go_simp; try with_reducible rfl
            simp only [Act.put, List.setIfInBounds_toArray, List.set_cons_zero, List.set_cons_succ]
            refine wpAnyH_take (i := 4) (v := ?v4_12) rfl (by kernel_rfl) (by kernel_rfl) (by kernel_rfl) (fun _ _ _ h => h) (Or.inl ⟨by rfl, ?y4_12⟩) (by assumption) ?r4_12
            case y4_12 => intro w hSw; (try dsimp only at hSw); go_simp; try with_reducible rfl
            simp only [Act.put, List.setIfInBounds_toArray, List.set_cons_zero, List.set_cons_succ]
            refine wpAnyH_take (i := 5) (v := ?v5_12) rfl (by kernel_rfl) (by kernel_rfl) (by kernel_rfl) (fun _ _ _ h => h) (Or.inl ⟨by rfl, ?y5_12⟩) (by assumption) ?r5_12
            case y5_12 => intro w hSw; (try dsimp only at hSw); go_simp; try with_reducible rfl
            simp only [Act.put, List.setIfInBounds_toArray, List.set_cons_zero, List.set_cons_succ]
            refine wpAnyH_take (i := 6) (v := ?v6_12) rfl (by kernel_rfl) (by kernel_rfl) (by kernel_rfl) (fun _ _ _ h => h) (Or.inl ⟨by rfl, ?y6_12⟩) (by assumption) ?r6_12
            case y6_12 => intro w hSw; (try dsimp only at hSw); go_simp; try with_reducible rfl
            simp only [Act.put, List.setIfInBounds_toArray, List.set_cons_zero, List.set_cons_succ]
            refine wpAnyH_take (i := 7) (v := ?v7_12) rfl (by kernel_rfl) (by kernel_rfl) (by kernel_rfl) (fun _ _ _ h => h) (Or.inl ⟨by rfl, ?y7_12⟩) (by assumption) ?r7_12
            case y7_12 => intro w hSw; (try dsimp only at hSw); go_simp; try with_reducible rfl
            simp only [Act.put, List.setIfInBounds_toArray, List.set_cons_zero, List.set_cons_succ]
            refine wpAnyH_take (i := 8) (v := ?v8_12) rfl (by kernel_rfl) (by kernel_rfl) (by kernel_rfl) (fun _ _ _ h => h) (Or.inl ⟨by rfl, ?y8_12⟩) (by assumption) ?r8_12
            case y8_12 => intro w hSw; (try dsimp only at hSw); go_simp; try with_reducible rfl
            simp only [Act.put, List.setIfInBounds_toArray, List.set_cons_zero, List.set_cons_succ]
            refine wpAnyH_take (i := 9) (v := ?v9_12) rfl (by kernel_rfl) (by kernel_rfl) (by kernel_rfl) (fun _ _ _ h => h) (Or.inl ⟨by rfl, ?y9_12⟩) (by assumption) ?r9_12
            case y9_12 => intro w hSw; (try dsimp only at hSw); go_simp; try with_reducible rfl
            simp only [Act.put, List.setIfInBounds_toArray, List.set_cons_zero, List.set_cons_succ]
            refine wpAnyH_take (i := 11) (v := ?v11_12) rfl (by kernel_rfl) (by kernel_rfl) (by kernel_rfl) (fun _ _ _ h => h) (Or.inl ⟨by rfl, ?y11_12⟩) (by assumption) ?r11_12
            case y11_12 => intro w hSw; (try dsimp only at hSw); go_simp; try with_reducible rfl
            simp only [Act.put, List.setIfInBounds_toArray, List.set_cons_zero, List.set_cons_succ]
            refine wpAnyH_take (i := 12) (v := ?v12_12) rfl (by kernel_rfl) (by kernel_rfl) (by kernel_rfl) (fun _ _ _ h => h) (Or.inl ⟨by rfl, ?y12_12⟩) (by assumption) ?r12_12
            case y12_12 => intro w hSw; (try dsimp only at hSw); go_simp; try with_reducible rfl
            simp only [Act.put, List.setIfInBounds_toArray, List.set_cons_zero, List.set_cons_succ]
            refine wpAnyH_take (i := 13) (v := ?v13_12) rfl (by kernel_rfl) (by kernel_rfl) (by kernel_rfl) (fun _ _ _ h => h) (Or.inl ⟨by rfl, ?y13_12⟩) (by assumption) ?r13_12
            case y13_12 => intro w hSw; (try dsimp only at hSw); go_simp; try with_reducible rfl
            simp only [Act.put, List.setIfInBounds_toArray, List.set_cons_zero, List.set_cons_succ]
            refine wpAnyH_ready (rs := [10, 14]) (by kernel_rfl) (by simp) ?_
            refine (AllReadyH.cons rfl (fun K hK => ?_) (AllReadyH.cons rfl (fun K hK => ?_) AllReadyH.nil))
            · have l10 : X0.cell? ⟨z + 1 + 1, 0, none⟩ = some (.slice sa L.length sc) := LX.out X0 G0.out
              go_simp
              refine hK.out _ _ (by exact SX.out X0 G0.out) (fun hHeld => ?_)
              clear hK K l10
              refine wpAnyH_ready (rs := [14]) (by kernel_rfl) (by simp) ?_
              refine (AllReadyH.cons rfl (fun K hK => ?_) AllReadyH.nil)
              · go_simp
                refine hK.out _ _ (by exact SX.out _ (G0.out.trans (galloc X0 (Obj.cells #[.int .i64 0, .int .i64 0, (.iface 57 (.pointer (some ⟨ib, 0, none⟩)))] 73) none))) (fun hHeld => ?_)
                clear hK K hHeld
                obtain ⟨rb, hrb⟩ : ∃ b, b = X0.heap.size := ⟨_, rfl⟩
                obtain ⟨X1, hX1⟩ : ∃ Y, Y = X0.alloc (Obj.cells #[.int .i64 0, .int .i64 0, (.iface 57 (.pointer (some ⟨ib, 0, none⟩)))] 73) := ⟨_, rfl⟩
                rw [← hX1, ← hrb]
                have gg : X0.grownBy X1 none := by rw [hX1]; exact galloc X0 (Obj.cells #[.int .i64 0, .int .i64 0, (.iface 57 (.pointer (some ⟨ib, 0, none⟩)))] 73) none
                have G1 : Hid (wr.grownBy X1 none) := G0.out.trans gg
                have fI : Hid (X1.heap[ib]? = some (IdCells nm)) := blk_kept fI.out gg (by simp)
                have frb : Hid (X1.heap[rb]? = some (Obj.cells #[.int .i64 0, .int .i64 0, (.iface 57 (.pointer (some ⟨ib, 0, none⟩)))] 73)) := by rw [hX1, hrb]; exact (MapKept.heap_alloc X0 (Obj.cells #[.int .i64 0, .int .i64 0, (.iface 57 (.pointer (some ⟨ib, 0, none⟩)))] 73)).1
                have hHeld := SX.out X1 G1.out
                clear hX1 hrb gg
                refine wpAnyH_take (i := 15) (v := ?v15_1) rfl (by kernel_rfl) (by kernel_rfl) (by kernel_rfl) (fun _ _ _ h => h) (Or.inl ⟨by rfl, ?y15_1⟩) (by assumption) ?r15_1
                case y15_1 => intro w hSw; (try dsimp only at hSw); go_simp; try with_reducible rfl
                simp only [Act.put, List.setIfInBounds_toArray, List.set_cons_zero, List.set_cons_succ]
                refine wpAnyH_ready (rs := [16]) (by kernel_rfl) (by simp) ?_
                refine (AllReadyH.cons rfl (fun K hK => ?_) AllReadyH.nil)
                · go_simp
                  refine hK.out _ _ (by exact SX.out _ (G1.out.trans (galloc X1 (Obj.cells #[(.iface 69 (.pointer (some ⟨rb, 0, none⟩)))] 101) none))) (fun hHeld => ?_)
                  clear hK K hHeld
                  obtain ⟨bb, hbb⟩ : ∃ b, b = X1.heap.size := ⟨_, rfl⟩
                  obtain ⟨X2, hX2⟩ : ∃ Y, Y = X1.alloc (Obj.cells #[(.iface 69 (.pointer (some ⟨rb, 0, none⟩)))] 101) := ⟨_, rfl⟩
                  rw [← hX2, ← hbb]
                  have gg : X1.grownBy X2 none := by rw [hX2]; exact galloc X1 (Obj.cells #[(.iface 69 (.pointer (some ⟨rb, 0, none⟩)))] 101) none
                  have G2 : Hid (wr.grownBy X2 none) := G1.out.trans gg
                  have fI : Hid (X2.heap[ib]? = some (IdCells nm)) := blk_kept fI.out gg (by simp)
                  have frb : Hid (X2.heap[rb]? = some (Obj.cells #[.int .i64 0, .int .i64 0, (.iface 57 (.pointer (some ⟨ib, 0, none⟩)))] 73)) := blk_kept frb.out gg (by simp)
                  have fbb : Hid (X2.heap[bb]? = some (Obj.cells #[(.iface 69 (.pointer (some ⟨rb, 0, none⟩)))] 101)) := by rw [hX2, hbb]; exact (MapKept.heap_alloc X1 (Obj.cells #[(.iface 69 (.pointer (some ⟨rb, 0, none⟩)))] 101)).1
                  have hHeld := SX.out X2 G2.out
                  clear hX2 hbb gg
                  have hne := hd (World.news_of_block fbb.out)
                  refine wpAnyH_ready (rs := [17]) (by kernel_rfl) (by simp) ?_
                  refine AllReadyH.cons rfl (fun K hK => ?_) AllReadyH.nil
                  refine step_append_lies _ rfl _ _ _ rfl z 101 i0 .nilIface 1 16 Try.underlying63 hi0 hz0 hz1 hz2 rfl (by decide) (.slice sa L.length sc) L.length vs rfl (HOWN.out X2 G2.out) ⟨bb, 0, none⟩ 1 1 [(.iface 69 (.pointer (some ⟨rb, 0, none⟩)))] rfl rfl hne.out (by intro u hu; simp at hu; subst hu; rfl) (by decide) (by unfold maxLen; omega) (by omega) (HBASE.out X2 G2.out) X2.heap.size rfl ?_
                  intro g cap w3 hown3 hgrow3 hat3 hlt3
                  obtain ⟨⟨e1, e2, e3, e4⟩, HS3⟩ := T.out X2 w3 (.iface 69 (.pointer (some ⟨rb, 0, none⟩))) (true, nm, ib) g cap G2.out hgrow3 ⟨fI.out, ⟨rb, rfl, frb.out⟩⟩ hfr.out hown3
                  clear hgrow3 hown3 hHeld hne
                  refine hK.out _ _ e3 (fun hHeld => ?_)
                  clear hK K
                  refine wpAnyH_take (i := 18) (v := ?v18_2) rfl (by kernel_rfl) (by kernel_rfl) (by kernel_rfl) (fun _ _ _ h => h) (Or.inl ⟨by rfl, ?y18_2⟩) (by assumption) ?r18_2
                  case y18_2 => intro w hSw; (try dsimp only at hSw); go_simp; try with_reducible rfl
                  simp only [Act.put, List.setIfInBounds_toArray, List.set_cons_zero, List.set_cons_succ]
                  refine wpAnyH_take (i := 19) (v := ?v19_2) rfl (by kernel_rfl) (by kernel_rfl) (by kernel_rfl) (fun _ _ _ h => h) (Or.inl ⟨by rfl, ?y19_2⟩) (by assumption) ?r19_2
                  case y19_2 => intro w hSw; (try dsimp only at hSw); go_simp; try with_reducible rfl
                  simp only [Act.put, List.setIfInBounds_toArray, List.set_cons_zero, List.set_cons_succ]
                  refine wpAnyH_ready (rs := [20]) (by kernel_rfl) (by simp) ?_
                  refine AllReadyH.cons rfl (fun K hK => ?_) AllReadyH.nil
                  go_simp
                  refine hK.out _ _ (by exact e4) (fun hHeld => ?_)
                  clear hK K
                  refine wpAnyH_done (by kernel_rfl) ?_ _
                  clear hHeld e1 e2 e3 e4
                  go_wp2
                  go_roundg (M.length - (i + 1))
                  case measure => omega
                  case rel => exact RL.out g cap _ (true, nm, ib) (.iface 69 (.pointer (some ⟨rb, 0, none⟩))) _ rfl rfl HS3
            · go_simp
              refine hK.out _ _ (by exact SX.out _ (G0.out.trans (galloc X0 (Obj.cells #[.int .i64 0, .int .i64 0, (.iface 57 (.pointer (some ⟨ib, 0, none⟩)))] 73) none))) (fun hHeld => ?_)
              clear hK K hHeld
              obtain ⟨rb, hrb⟩ : ∃ b, b = X0.heap.size := ⟨_, rfl⟩
              obtain ⟨X1, hX1⟩ : ∃ Y, Y = X0.alloc (Obj.cells #[.int .i64 0, .int .i64 0, (.iface 57 (.pointer (some ⟨ib, 0, none⟩)))] 73) := ⟨_, rfl⟩
              rw [← hX1, ← hrb]
              have gg : X0.grownBy X1 none := by rw [hX1]; exact galloc X0 (Obj.cells #[.int .i64 0, .int .i64 0, (.iface 57 (.pointer (some ⟨ib, 0, none⟩)))] 73) none
              have G1 : Hid (wr.grownBy X1 none) := G0.out.trans gg
              have fI : Hid (X1.heap[ib]? = some (IdCells nm)) := blk_kept fI.out gg (by simp)
              have frb : Hid (X1.heap[rb]? = some (Obj.cells #[.int .i64 0, .int .i64 0, (.iface 57 (.pointer (some ⟨ib, 0, none⟩)))] 73)) := by rw [hX1, hrb]; exact (MapKept.heap_alloc X0 (Obj.cells #[.int .i64 0, .int .i64 0, (.iface 57 (.pointer (some ⟨ib, 0, none⟩)))] 73)).1
              have hHeld := SX.out X1 G1.out
              clear hX1 hrb gg
              refine wpAnyH_take (i := 15) (v := ?v15_3) rfl (by kernel_rfl) (by kernel_rfl) (by kernel_rfl) (fun _ _ _ h => h) (Or.inl ⟨by rfl, ?y15_3⟩) (by assumption) ?r15_3
              case y15_3 => intro w hSw; (try dsimp only at hSw); go_simp; try with_reducible rfl
              simp only [Act.put, List.setIfInBounds_toArray, List.set_cons_zero, List.set_cons_succ]
              refine wpAnyH_ready (rs := [10, 16]) (by kernel_rfl) (by simp) ?_
              refine (AllReadyH.cons rfl (fun K hK => ?_) (AllReadyH.cons rfl (fun K hK => ?_) AllReadyH.nil))
              · have l10 : X1.cell? ⟨z + 1 + 1, 0, none⟩ = some (.slice sa L.length sc) := LX.out X1 G1.out
                go_simp
                refine hK.out _ _ (by exact SX.out X1 G1.out) (fun hHeld => ?_)
                clear hK K l10
                refine wpAnyH_ready (rs := [16]) (by kernel_rfl) (by simp) ?_
                refine (AllReadyH.cons rfl (fun K hK => ?_) AllReadyH.nil)
                · go_simp
                  refine hK.out _ _ (by exact SX.out _ (G1.out.trans (galloc X1 (Obj.cells #[(.iface 69 (.pointer (some ⟨rb, 0, none⟩)))] 101) none))) (fun hHeld => ?_)
                  clear hK K hHeld
                  obtain ⟨bb, hbb⟩ : ∃ b, b = X1.heap.size := ⟨_, rfl⟩
                  obtain ⟨X2, hX2⟩ : ∃ Y, Y = X1.alloc (Obj.cells #[(.iface 69 (.pointer (some ⟨rb, 0, none⟩)))] 101) := ⟨_, rfl⟩
                  rw [← hX2, ← hbb]
                  have gg : X1.grownBy X2 none := by rw [hX2]; exact galloc X1 (Obj.cells #[(.iface 69 (.pointer (some ⟨rb, 0, none⟩)))] 101) none
                  have G2 : Hid (wr.grownBy X2 none) := G1.out.trans gg
                  have fI : Hid (X2.heap[ib]? = some (IdCells nm)) := blk_kept fI.out gg (by simp)
                  have frb : Hid (X2.heap[rb]? = some (Obj.cells #[.int .i64 0, .int .i64 0, (.iface 57 (.pointer (some ⟨ib, 0, none⟩)))] 73)) := blk_kept frb.out gg (by simp)
                  have fbb : Hid (X2.heap[bb]? = some (Obj.cells #[(.iface 69 (.pointer (some ⟨rb, 0, none⟩)))] 101)) := by rw [hX2, hbb]; exact (MapKept.heap_alloc X1 (Obj.cells #[(.iface 69 (.pointer (some ⟨rb, 0, none⟩)))] 101)).1
                  have hHeld := SX.out X2 G2.out
                  clear hX2 hbb gg
                  have hne := hd (World.news_of_block fbb.out)
                  refine wpAnyH_ready (rs := [17]) (by kernel_rfl) (by simp) ?_
                  refine AllReadyH.cons rfl (fun K hK => ?_) AllReadyH.nil
                  refine step_append_lies _ rfl _ _ _ rfl z 101 i0 .nilIface 1 16 Try.underlying63 hi0 hz0 hz1 hz2 rfl (by decide) (.slice sa L.length sc) L.length vs rfl (HOWN.out X2 G2.out) ⟨bb, 0, none⟩ 1 1 [(.iface 69 (.pointer (some ⟨rb, 0, none⟩)))] rfl rfl hne.out (by intro u hu; simp at hu; subst hu; rfl) (by decide) (by unfold maxLen; omega) (by omega) (HBASE.out X2 G2.out) X2.heap.size rfl ?_
                  intro g cap w3 hown3 hgrow3 hat3 hlt3
                  obtain ⟨⟨e1, e2, e3, e4⟩, HS3⟩ := T.out X2 w3 (.iface 69 (.pointer (some ⟨rb, 0, none⟩))) (true, nm, ib) g cap G2.out hgrow3 ⟨fI.out, ⟨rb, rfl, frb.out⟩⟩ hfr.out hown3
                  clear hgrow3 hown3 hHeld hne
                  refine hK.out _ _ e3 (fun hHeld => ?_)
                  clear hK K
                  refine wpAnyH_take (i := 18) (v := ?v18_4) rfl (by kernel_rfl) (by kernel_rfl) (by kernel_rfl) (fun _ _ _ h => h) (Or.inl ⟨by rfl, ?y18_4⟩) (by assumption) ?r18_4
                  case y18_4 => intro w hSw; (try dsimp only at hSw); go_simp; try with_reducible rfl
                  simp only [Act.put, List.setIfInBounds_toArray, List.set_cons_zero, List.set_cons_succ]
                  refine wpAnyH_take (i := 19) (v := ?v19_4) rfl (by kernel_rfl) (by kernel_rfl) (by kernel_rfl) (fun _ _ _ h => h) (Or.inl ⟨by rfl, ?y19_4⟩) (by assumption) ?r19_4
                  case y19_4 => intro w hSw; (try dsimp only at hSw); go_simp; try with_reducible rfl
                  simp only [Act.put, List.setIfInBounds_toArray, List.set_cons_zero, List.set_cons_succ]
                  refine wpAnyH_ready (rs := [20]) (by kernel_rfl) (by simp) ?_
                  refine AllReadyH.cons rfl (fun K hK => ?_) AllReadyH.nil
                  go_simp
                  refine hK.out _ _ (by exact e4) (fun hHeld => ?_)
                  clear hK K
                  refine wpAnyH_done (by kernel_rfl) ?_ _
                  clear hHeld e1 e2 e3 e4
                  go_wp2
                  go_roundg (M.length - (i + 1))
                  case measure => omega
                  case rel => exact RL.out g cap _ (true, nm, ib) (.iface 69 (.pointer (some ⟨rb, 0, none⟩))) _ rfl rfl HS3
              · go_simp
                refine hK.out _ _ (by exact SX.out _ (G1.out.trans (galloc X1 (Obj.cells #[(.iface 69 (.pointer (some ⟨rb, 0, none⟩)))] 101) none))) (fun hHeld => ?_)
                clear hK K hHeld
                obtain ⟨bb, hbb⟩ : ∃ b, b = X1.heap.size := ⟨_, rfl⟩
                obtain ⟨X2, hX2⟩ : ∃ Y, Y = X1.alloc (Obj.cells #[(.iface 69 (.pointer (some ⟨rb, 0, none⟩)))] 101) := ⟨_, rfl⟩
                rw [← hX2, ← hbb]
                have gg : X1.grownBy X2 none := by rw [hX2]; exact galloc X1 (Obj.cells #[(.iface 69 (.pointer (some ⟨rb, 0, none⟩)))] 101) none
                have G2 : Hid (wr.grownBy X2 none) := G1.out.trans gg
                have fI : Hid (X2.heap[ib]? = some (IdCells nm)) := blk_kept fI.out gg (by simp)
                have frb : Hid (X2.heap[rb]? = some (Obj.cells #[.int .i64 0, .int .i64 0, (.iface 57 (.pointer (some ⟨ib, 0, none⟩)))] 73)) := blk_kept frb.out gg (by simp)
                have fbb : Hid (X2.heap[bb]? = some (Obj.cells #[(.iface 69 (.pointer (some ⟨rb, 0, none⟩)))] 101)) := by rw [hX2, hbb]; exact (MapKept.heap_alloc X1 (Obj.cells #[(.iface 69 (.pointer (some ⟨rb, 0, none⟩)))] 101)).1
                have hHeld := SX.out X2 G2.out
                clear hX2 hbb gg
                refine wpAnyH_ready (rs := [10]) (by kernel_rfl) (by simp) ?_
                refine (AllReadyH.cons rfl (fun K hK => ?_) AllReadyH.nil)
                · have l10 : X2.cell? ⟨z + 1 + 1, 0, none⟩ = some (.slice sa L.length sc) := LX.out X2 G2.out
                  go_simp
                  refine hK.out _ _ (by exact SX.out X2 G2.out) (fun hHeld => ?_)
                  clear hK K l10
                  have hne := hd (World.news_of_block fbb.out)
                  refine wpAnyH_ready (rs := [17]) (by kernel_rfl) (by simp) ?_
                  refine AllReadyH.cons rfl (fun K hK => ?_) AllReadyH.nil
                  refine step_append_lies _ rfl _ _ _ rfl z 101 i0 .nilIface 1 16 Try.underlying63 hi0 hz0 hz1 hz2 rfl (by decide) (.slice sa L.length sc) L.length vs rfl (HOWN.out X2 G2.out) ⟨bb, 0, none⟩ 1 1 [(.iface 69 (.pointer (some ⟨rb, 0, none⟩)))] rfl rfl hne.out (by intro u hu; simp at hu; subst hu; rfl) (by decide) (by unfold maxLen; omega) (by omega) (HBASE.out X2 G2.out) X2.heap.size rfl ?_
                  intro g cap w3 hown3 hgrow3 hat3 hlt3
                  obtain ⟨⟨e1, e2, e3, e4⟩, HS3⟩ := T.out X2 w3 (.iface 69 (.pointer (some ⟨rb, 0, none⟩))) (true, nm, ib) g cap G2.out hgrow3 ⟨fI.out, ⟨rb, rfl, frb.out⟩⟩ hfr.out hown3
                  clear hgrow3 hown3 hHeld hne
                  refine hK.out _ _ e3 (fun hHeld => ?_)
                  clear hK K
                  refine wpAnyH_take (i := 18) (v := ?v18_5) rfl (by kernel_rfl) (by kernel_rfl) (by kernel_rfl) (fun _ _ _ h => h) (Or.inl ⟨by rfl, ?y18_5⟩) (by assumption) ?r18_5
                  case y18_5 => intro w hSw; (try dsimp only at hSw); go_simp; try with_reducible rfl
                  simp only [Act.put, List.setIfInBounds_toArray, List.set_cons_zero, List.set_cons_succ]
                  refine wpAnyH_take (i := 19) (v := ?v19_5) rfl (by kernel_rfl) (by kernel_rfl) (by kernel_rfl) (fun _ _ _ h => h) (Or.inl ⟨by rfl, ?y19_5⟩) (by assumption) ?r19_5
                  case y19_5 => intro w hSw; (try dsimp only at hSw); go_simp; try with_reducible rfl
                  simp only [Act.put, List.setIfInBounds_toArray, List.set_cons_zero, List.set_cons_succ]
                  refine wpAnyH_ready (rs := [20]) (by kernel_rfl) (by simp) ?_
                  refine AllReadyH.cons rfl (fun K hK => ?_) AllReadyH.nil
                  go_simp
                  refine hK.out _ _ (by exact e4) (fun hHeld => ?_)
                  clear hK K
                  refine wpAnyH_done (by kernel_rfl) ?_ _
                  clear hHeld e1 e2 e3 e4
                  go_wp2
                  go_roundg (M.length - (i + 1))
                  case measure => omega
                  case rel => exact RL.out g cap _ (true, nm, ib) (.iface 69 (.pointer (some ⟨rb, 0, none⟩))) _ rfl rfl HS3
          | false =>
            go_upto_region 13 with fail
            rw [← hwI', ← hib]
            clear hwI' hib
            refine region_any (S := fun X => X.cell? ⟨z + 1 + 1 + 1, 4, none⟩ = some (.pointer (some ⟨z + 1 + 1, 0, none⟩))) (by kernel_rfl) (by exact SX.out _ (GI.out.trans (gdrew wI none))) (fun X0 gX0 hHeld => ?_)
            have G0 : Hid (wr.grownBy X0 none) := GI.out.trans gX0
            have fI : Hid (X0.heap[ib]? = some (IdCells nm)) := blk_kept FI.out gX0 (by simp)
            clear gX0
            refine wpAnyH_take (i := 0) (v := ?v0_13) rfl (by kernel_rfl) (by kernel_rfl) (by kernel_rfl) (fun _ _ _ h => h) (Or.inl ⟨by rfl, ?y0_13⟩) (by assumption) ?r0_13
            case y0_13 => intro w hSw; (try dsimp only at hSw); go_simp; try with_reducible rfl
            simp only [Act.put, List.setIfInBounds_toArray, List.set_cons_zero, List.set_cons_succ]
            refine wpAnyH_take (i := 1) (v := ?v1_13) rfl (by kernel_rfl) (by kernel_rfl) (by kernel_rfl) (fun _ _ _ h => h) (Or.inl ⟨by rfl, ?y1_13⟩) (by assumption) ?r1_13
            case y1_13 => intro w hSw; (try dsimp only at hSw); go_simp; try with_reducible rfl
            simp only [Act.put, List.setIfInBounds_toArray, List.set_cons_zero, List.set_cons_succ]
            refine wpAnyH_take (i := 2) (v := ?v2_13) rfl (by kernel_rfl) (by kernel_rfl) (by kernel_rfl) (fun _ _ _ h => h) (Or.inl ⟨by rfl, ?y2_13⟩) (by assumption) ?r2_13
            case y2_13 => intro w hSw; (try dsimp only at hSw); go_simp; try with_reducible rfl
            simp only [Act.put, List.setIfInBounds_toArray, List.set_cons_zero, List.set_cons_succ]
            refine wpAnyH_take (i := 3) (v := ?v3_13) rfl (by kernel_rfl) (by kernel_rfl) (by kernel_rfl) (fun _ _ _ h => h) (Or.inl ⟨by rfl, ?y3_13⟩) (by assumption) ?r3_13
            case y3_13 => intro w hSw; (try dsimp only at hSw); go_simp; try with_reducible rfl
            simp only [Act.put, List.setIfInBounds_toArray, List.set_cons_zero, List.set_cons_succ]
            refine wpAnyH_take (i := 4) (v := ?v4_13) rfl (by kernel_rfl) (by kernel_rfl) (by kernel_rfl) (fun _ _ _ h => h) (Or.inl ⟨by rfl, ?y4_13⟩) (by assumption) ?r4_13
            case y4_13 => intro w hSw; (try dsimp only at hSw); go_simp; try with_reducible rfl
            simp only [Act.put, List.setIfInBounds_toArray, List.set_cons_zero, List.set_cons_succ]
            refine wpAnyH_take (i := 5) (v := ?v5_13) rfl (by kernel_rfl) (by kernel_rfl) (by kernel_rfl) (fun _ _ _ h => h) (Or.inl ⟨by rfl, ?y5_13⟩) (by assumption) ?r5_13
            case y5_13 => intro w hSw; (try dsimp only at hSw); go_simp; try with_reducible rfl
            simp only [Act.put, List.setIfInBounds_toArray, List.set_cons_zero, List.set_cons_succ]
            refine wpAnyH_take (i := 6) (v := ?v6_13) rfl (by kernel_rfl) (by kernel_rfl) (by kernel_rfl) (fun _ _ _ h => h) (Or.inl ⟨by rfl, ?y6_13⟩) (by assumption) ?r6_13
            case y6_13 => intro w hSw; (try dsimp only at hSw); go_simp; try with_reducible rfl
            simp only [Act.put, List.setIfInBounds_toArray, List.set_cons_zero, List.set_cons_succ]
            refine wpAnyH_take (i := 7) (v := ?v7_13) rfl (by kernel_rfl) (by kernel_rfl) (by kernel_rfl) (fun _ _ _ h => h) (Or.inl ⟨by rfl, ?y7_13⟩) (by assumption) ?r7_13
            case y7_13 => intro w hSw; (try dsimp only at hSw); go_simp; try with_reducible rfl
            simp only [Act.put, List.setIfInBounds_toArray, List.set_cons_zero, List.set_cons_succ]
            refine wpAnyH_take (i := 8) (v := ?v8_13) rfl (by kernel_rfl) (by kernel_rfl) (by kernel_rfl) (fun _ _ _ h => h) (Or.inl ⟨by rfl, ?y8_13⟩) (by assumption) ?r8_13
            case y8_13 => intro w hSw; (try dsimp only at hSw); go_simp; try with_reducible rfl
            simp only [Act.put, List.setIfInBounds_toArray, List.set_cons_zero, List.set_cons_succ]
            refine wpAnyH_take (i := 9) (v := ?v9_13) rfl (by kernel_rfl) (by kernel_rfl) (by kernel_rfl) (fun _ _ _ h => h) (Or.inl ⟨by rfl, ?y9_13⟩) (by assumption) ?r9_13
            case y9_13 => intro w hSw; (try dsimp only at hSw); go_simp; try with_reducible rfl
            simp only [Act.put, List.setIfInBounds_toArray, List.set_cons_zero, List.set_cons_succ]
            refine wpAnyH_take (i := 11) (v := ?v11_13) rfl (by kernel_rfl) (by kernel_rfl) (by kernel_rfl) (fun _ _ _ h => h) (Or.inl ⟨by rfl, ?y11_13⟩) (by assumption) ?r11_13
            case y11_13 => intro w hSw; (try dsimp only at hSw); go_simp; try with_reducible rfl
            simp only [Act.put, List.setIfInBounds_toArray, List.set_cons_zero, List.set_cons_succ]
            refine wpAnyH_take (i := 12) (v := ?v12_13) rfl (by kernel_rfl) (by kernel_rfl) (by kernel_rfl) (fun _ _ _ h => h) (Or.inl ⟨by rfl, ?y12_13⟩) (by assumption) ?r12_13
            case y12_13 => intro w hSw; (try dsimp only at hSw); go_simp; try with_reducible rfl
            simp only [Act.put, List.setIfInBounds_toArray, List.set_cons_zero, List.set_cons_succ]
            refine wpAnyH_take (i := 13) (v := ?v13_13) rfl (by kernel_rfl) (by kernel_rfl) (by kernel_rfl) (fun _ _ _ h => h) (Or.inl ⟨by rfl, ?y13_13⟩) (by assumption) ?r13_13
            case y13_13 => intro w hSw; (try dsimp only at hSw); go_simp; try with_reducible rfl
            simp only [Act.put, List.setIfInBounds_toArray, List.set_cons_zero, List.set_cons_succ]
            refine wpAnyH_take (i := 14) (v := ?v14_13) rfl (by kernel_rfl) (by kernel_rfl) (by kernel_rfl) (fun _ _ _ h => h) (Or.inl ⟨by rfl, ?y14_13⟩) (by assumption) ?r14_13
            case y14_13 => intro w hSw; (try dsimp only at hSw); go_simp; try with_reducible rfl
            simp only [Act.put, List.setIfInBounds_toArray, List.set_cons_zero, List.set_cons_succ]
            refine wpAnyH_ready (rs := [10, 15]) (by kernel_rfl) (by simp) ?_
            refine (AllReadyH.cons rfl (fun K hK => ?_) (AllReadyH.cons rfl (fun K hK => ?_) AllReadyH.nil))
            · have l10 : X0.cell? ⟨z + 1 + 1, 0, none⟩ = some (.slice sa L.length sc) := LX.out X0 G0.out
              go_simp
              refine hK.out _ _ (by exact SX.out X0 G0.out) (fun hHeld => ?_)
              clear hK K l10
              refine wpAnyH_ready (rs := [15]) (by kernel_rfl) (by simp) ?_
              refine (AllReadyH.cons rfl (fun K hK => ?_) AllReadyH.nil)
              · go_simp
                refine hK.out _ _ (by exact SX.out _ (G0.out.trans (galloc X0 (Obj.cells #[.int .i64 0, .int .i64 0, .iface 2 (.int .i64 0)] 77) none))) (fun hHeld => ?_)
                clear hK K hHeld
                obtain ⟨lb, hlb⟩ : ∃ b, b = X0.heap.size := ⟨_, rfl⟩
                obtain ⟨X1, hX1⟩ : ∃ Y, Y = X0.alloc (Obj.cells #[.int .i64 0, .int .i64 0, .iface 2 (.int .i64 0)] 77) := ⟨_, rfl⟩
                rw [← hX1, ← hlb]
                have gg : X0.grownBy X1 none := by rw [hX1]; exact galloc X0 (Obj.cells #[.int .i64 0, .int .i64 0, .iface 2 (.int .i64 0)] 77) none
                have G1 : Hid (wr.grownBy X1 none) := G0.out.trans gg
                have fI : Hid (X1.heap[ib]? = some (IdCells nm)) := blk_kept fI.out gg (by simp)
                have flb : Hid (X1.heap[lb]? = some (Obj.cells #[.int .i64 0, .int .i64 0, .iface 2 (.int .i64 0)] 77)) := by rw [hX1, hlb]; exact (MapKept.heap_alloc X0 (Obj.cells #[.int .i64 0, .int .i64 0, .iface 2 (.int .i64 0)] 77)).1
                have hHeld := SX.out X1 G1.out
                clear hX1 hlb gg
                refine wpAnyH_take (i := 16) (v := ?v16_6) rfl (by kernel_rfl) (by kernel_rfl) (by kernel_rfl) (fun _ _ _ h => h) (Or.inl ⟨by rfl, ?y16_6⟩) (by assumption) ?r16_6
                case y16_6 => intro w hSw; (try dsimp only at hSw); go_simp; try with_reducible rfl
                simp only [Act.put, List.setIfInBounds_toArray, List.set_cons_zero, List.set_cons_succ]
                refine wpAnyH_take (i := 17) (v := ?v17_7) rfl (by kernel_rfl) (by kernel_rfl) (by kernel_rfl) (fun _ _ _ h => h) (Or.inl ⟨by rfl, ?y17_7⟩) (by assumption) ?r17_7
                case y17_7 => intro w hSw; (try dsimp only at hSw); go_simp; try with_reducible rfl
                simp only [Act.put, List.setIfInBounds_toArray, List.set_cons_zero, List.set_cons_succ]
                refine wpAnyH_ready (rs := [18]) (by kernel_rfl) (by simp) ?_
                refine (AllReadyH.cons rfl (fun K hK => ?_) AllReadyH.nil)
                · go_simp
                  refine hK.out _ _ (by exact SX.out _ (G1.out.trans (galloc X1 (Obj.cells #[(.iface 57 (.pointer (some ⟨ib, 0, none⟩))), (.iface 75 (.pointer (some ⟨lb, 0, none⟩)))] 79) none))) (fun hHeld => ?_)
                  clear hK K hHeld
                  obtain ⟨ab, hab⟩ : ∃ b, b = X1.heap.size := ⟨_, rfl⟩
                  obtain ⟨X2, hX2⟩ : ∃ Y, Y = X1.alloc (Obj.cells #[(.iface 57 (.pointer (some ⟨ib, 0, none⟩))), (.iface 75 (.pointer (some ⟨lb, 0, none⟩)))] 79) := ⟨_, rfl⟩
                  rw [← hX2, ← hab]
                  have gg : X1.grownBy X2 none := by rw [hX2]; exact galloc X1 (Obj.cells #[(.iface 57 (.pointer (some ⟨ib, 0, none⟩))), (.iface 75 (.pointer (some ⟨lb, 0, none⟩)))] 79) none
                  have G2 : Hid (wr.grownBy X2 none) := G1.out.trans gg
                  have fI : Hid (X2.heap[ib]? = some (IdCells nm)) := blk_kept fI.out gg (by simp)
                  have flb : Hid (X2.heap[lb]? = some (Obj.cells #[.int .i64 0, .int .i64 0, .iface 2 (.int .i64 0)] 77)) := blk_kept flb.out gg (by simp)
                  have fab : Hid (X2.heap[ab]? = some (Obj.cells #[(.iface 57 (.pointer (some ⟨ib, 0, none⟩))), (.iface 75 (.pointer (some ⟨lb, 0, none⟩)))] 79)) := by rw [hX2, hab]; exact (MapKept.heap_alloc X1 (Obj.cells #[(.iface 57 (.pointer (some ⟨ib, 0, none⟩))), (.iface 75 (.pointer (some ⟨lb, 0, none⟩)))] 79)).1
                  have hHeld := SX.out X2 G2.out
                  clear hX2 hab gg
                  refine wpAnyH_take (i := 19) (v := ?v19_8) rfl (by kernel_rfl) (by kernel_rfl) (by kernel_rfl) (fun _ _ _ h => h) (Or.inl ⟨by rfl, ?y19_8⟩) (by assumption) ?r19_8
                  case y19_8 => intro w hSw; (try dsimp only at hSw); go_simp; try with_reducible rfl
                  simp only [Act.put, List.setIfInBounds_toArray, List.set_cons_zero, List.set_cons_succ]
                  refine wpAnyH_ready (rs := [20]) (by kernel_rfl) (by simp) ?_
                  refine (AllReadyH.cons rfl (fun K hK => ?_) AllReadyH.nil)
                  · go_simp
                    refine hK.out _ _ (by exact SX.out _ (G2.out.trans (galloc X2 (Obj.cells #[(.iface 74 (.pointer (some ⟨ab, 0, none⟩)))] 101) none))) (fun hHeld => ?_)
                    clear hK K hHeld
                    obtain ⟨bb, hbb⟩ : ∃ b, b = X2.heap.size := ⟨_, rfl⟩
                    obtain ⟨X3, hX3⟩ : ∃ Y, Y = X2.alloc (Obj.cells #[(.iface 74 (.pointer (some ⟨ab, 0, none⟩)))] 101) := ⟨_, rfl⟩
                    rw [← hX3, ← hbb]
                    have gg : X2.grownBy X3 none := by rw [hX3]; exact galloc X2 (Obj.cells #[(.iface 74 (.pointer (some ⟨ab, 0, none⟩)))] 101) none
                    have G3 : Hid (wr.grownBy X3 none) := G2.out.trans gg
                    have fI : Hid (X3.heap[ib]? = some (IdCells nm)) := blk_kept fI.out gg (by simp)
                    have flb : Hid (X3.heap[lb]? = some (Obj.cells #[.int .i64 0, .int .i64 0, .iface 2 (.int .i64 0)] 77)) := blk_kept flb.out gg (by simp)
                    have fab : Hid (X3.heap[ab]? = some (Obj.cells #[(.iface 57 (.pointer (some ⟨ib, 0, none⟩))), (.iface 75 (.pointer (some ⟨lb, 0, none⟩)))] 79)) := blk_kept fab.out gg (by simp)
                    have fbb : Hid (X3.heap[bb]? = some (Obj.cells #[(.iface 74 (.pointer (some ⟨ab, 0, none⟩)))] 101)) := by rw [hX3, hbb]; exact (MapKept.heap_alloc X2 (Obj.cells #[(.iface 74 (.pointer (some ⟨ab, 0, none⟩)))] 101)).1
                    have hHeld := SX.out X3 G3.out
                    clear hX3 hbb gg
                    have hne := hd (World.news_of_block fbb.out)
                    refine wpAnyH_ready (rs := [21]) (by kernel_rfl) (by simp) ?_
                    refine AllReadyH.cons rfl (fun K hK => ?_) AllReadyH.nil
                    refine step_append_lies _ rfl _ _ _ rfl z 101 i0 .nilIface 1 16 Try.underlying63 hi0 hz0 hz1 hz2 rfl (by decide) (.slice sa L.length sc) L.length vs rfl (HOWN.out X3 G3.out) ⟨bb, 0, none⟩ 1 1 [(.iface 74 (.pointer (some ⟨ab, 0, none⟩)))] rfl rfl hne.out (by intro u hu; simp at hu; subst hu; rfl) (by decide) (by unfold maxLen; omega) (by omega) (HBASE.out X3 G3.out) X3.heap.size rfl ?_
                    intro g cap w3 hown3 hgrow3 hat3 hlt3
                    obtain ⟨⟨e1, e2, e3, e4⟩, HS3⟩ := T.out X3 w3 (.iface 74 (.pointer (some ⟨ab, 0, none⟩))) (false, nm, ib) g cap G3.out hgrow3 ⟨fI.out, ⟨ab, lb, rfl, fab.out⟩⟩ hfr.out hown3
                    clear hgrow3 hown3 hHeld hne
                    refine hK.out _ _ e3 (fun hHeld => ?_)
                    clear hK K
                    refine wpAnyH_take (i := 22) (v := ?v22_9) rfl (by kernel_rfl) (by kernel_rfl) (by kernel_rfl) (fun _ _ _ h => h) (Or.inl ⟨by rfl, ?y22_9⟩) (by assumption) ?r22_9
                    case y22_9 => intro w hSw; (try dsimp only at hSw); go_simp; try with_reducible rfl
                    simp only [Act.put, List.setIfInBounds_toArray, List.set_cons_zero, List.set_cons_succ]
                    refine wpAnyH_take (i := 23) (v := ?v23_9) rfl (by kernel_rfl) (by kernel_rfl) (by kernel_rfl) (fun _ _ _ h => h) (Or.inl ⟨by rfl, ?y23_9⟩) (by assumption) ?r23_9
                    case y23_9 => intro w hSw; (try dsimp only at hSw); go_simp; try with_reducible rfl
                    simp only [Act.put, List.setIfInBounds_toArray, List.set_cons_zero, List.set_cons_succ]
                    refine wpAnyH_ready (rs := [24]) (by kernel_rfl) (by simp) ?_
                    refine AllReadyH.cons rfl (fun K hK => ?_) AllReadyH.nil
                    go_simp
                    refine hK.out _ _ (by exact e4) (fun hHeld => ?_)
                    clear hK K
                    refine wpAnyH_done (by kernel_rfl) ?_ _
                    clear hHeld e1 e2 e3 e4
                    go_wp2
                    go_roundg (M.length - (i + 1))
                    case measure => omega
                    case rel => exact RL.out g cap _ (false, nm, ib) (.iface 74 (.pointer (some ⟨ab, 0, none⟩))) _ rfl rfl HS3
            · go_simp
              refine hK.out _ _ (by exact SX.out _ (G0.out.trans (galloc X0 (Obj.cells #[.int .i64 0, .int .i64 0, .iface 2 (.int .i64 0)] 77) none))) (fun hHeld => ?_)
              clear hK K hHeld
              obtain ⟨lb, hlb⟩ : ∃ b, b = X0.heap.size := ⟨_, rfl⟩
              obtain ⟨X1, hX1⟩ : ∃ Y, Y = X0.alloc (Obj.cells #[.int .i64 0, .int .i64 0, .iface 2 (.int .i64 0)] 77) := ⟨_, rfl⟩
              rw [← hX1, ← hlb]
              have gg : X0.grownBy X1 none := by rw [hX1]; exact galloc X0 (Obj.cells #[.int .i64 0, .int .i64 0, .iface 2 (.int .i64 0)] 77) none
              have G1 : Hid (wr.grownBy X1 none) := G0.out.trans gg
              have fI : Hid (X1.heap[ib]? = some (IdCells nm)) := blk_kept fI.out gg (by simp)
              have flb : Hid (X1.heap[lb]? = some (Obj.cells #[.int .i64 0, .int .i64 0, .iface 2 (.int .i64 0)] 77)) := by rw [hX1, hlb]; exact (MapKept.heap_alloc X0 (Obj.cells #[.int .i64 0, .int .i64 0, .iface 2 (.int .i64 0)] 77)).1
              have hHeld := SX.out X1 G1.out
              clear hX1 hlb gg
              refine wpAnyH_take (i := 16) (v := ?v16_10) rfl (by kernel_rfl) (by kernel_rfl) (by kernel_rfl) (fun _ _ _ h => h) (Or.inl ⟨by rfl, ?y16_10⟩) (by assumption) ?r16_10
              case y16_10 => intro w hSw; (try dsimp only at hSw); go_simp; try with_reducible rfl
              simp only [Act.put, List.setIfInBounds_toArray, List.set_cons_zero, List.set_cons_succ]
              refine wpAnyH_take (i := 17) (v := ?v17_11) rfl (by kernel_rfl) (by kernel_rfl) (by kernel_rfl) (fun _ _ _ h => h) (Or.inl ⟨by rfl, ?y17_11⟩) (by assumption) ?r17_11
              case y17_11 => intro w hSw; (try dsimp only at hSw); go_simp; try with_reducible rfl
              simp only [Act.put, List.setIfInBounds_toArray, List.set_cons_zero, List.set_cons_succ]
              refine wpAnyH_ready (rs := [10, 18]) (by kernel_rfl) (by simp) ?_
              refine (AllReadyH.cons rfl (fun K hK => ?_) (AllReadyH.cons rfl (fun K hK => ?_) AllReadyH.nil))
              · have l10 : X1.cell? ⟨z + 1 + 1, 0, none⟩ = some (.slice sa L.length sc) := LX.out X1 G1.out
                go_simp
                refine hK.out _ _ (by exact SX.out X1 G1.out) (fun hHeld => ?_)
                clear hK K l10
                refine wpAnyH_ready (rs := [18]) (by kernel_rfl) (by simp) ?_
                refine (AllReadyH.cons rfl (fun K hK => ?_) AllReadyH.nil)
                · go_simp
                  refine hK.out _ _ (by exact SX.out _ (G1.out.trans (galloc X1 (Obj.cells #[(.iface 57 (.pointer (some ⟨ib, 0, none⟩))), (.iface 75 (.pointer (some ⟨lb, 0, none⟩)))] 79) none))) (fun hHeld => ?_)
                  clear hK K hHeld
                  obtain ⟨ab, hab⟩ : ∃ b, b = X1.heap.size := ⟨_, rfl⟩
                  obtain ⟨X2, hX2⟩ : ∃ Y, Y = X1.alloc (Obj.cells #[(.iface 57 (.pointer (some ⟨ib, 0, none⟩))), (.iface 75 (.pointer (some ⟨lb, 0, none⟩)))] 79) := ⟨_, rfl⟩
                  rw [← hX2, ← hab]
                  have gg : X1.grownBy X2 none := by rw [hX2]; exact galloc X1 (Obj.cells #[(.iface 57 (.pointer (some ⟨ib, 0, none⟩))), (.iface 75 (.pointer (some ⟨lb, 0, none⟩)))] 79) none
                  have G2 : Hid (wr.grownBy X2 none) := G1.out.trans gg
                  have fI : Hid (X2.heap[ib]? = some (IdCells nm)) := blk_kept fI.out gg (by simp)
                  have flb : Hid (X2.heap[lb]? = some (Obj.cells #[.int .i64 0, .int .i64 0, .iface 2 (.int .i64 0)] 77)) := blk_kept flb.out gg (by simp)
                  have fab : Hid (X2.heap[ab]? = some (Obj.cells #[(.iface 57 (.pointer (some ⟨ib, 0, none⟩))), (.iface 75 (.pointer (some ⟨lb, 0, none⟩)))] 79)) := by rw [hX2, hab]; exact (MapKept.heap_alloc X1 (Obj.cells #[(.iface 57 (.pointer (some ⟨ib, 0, none⟩))), (.iface 75 (.pointer (some ⟨lb, 0, none⟩)))] 79)).1
                  have hHeld := SX.out X2 G2.out
                  clear hX2 hab gg
                  refine wpAnyH_take (i := 19) (v := ?v19_12) rfl (by kernel_rfl) (by kernel_rfl) (by kernel_rfl) (fun _ _ _ h => h) (Or.inl ⟨by rfl, ?y19_12⟩) (by assumption) ?r19_12
                  case y19_12 => intro w hSw; (try dsimp only at hSw); go_simp; try with_reducible rfl
                  simp only [Act.put, List.setIfInBounds_toArray, List.set_cons_zero, List.set_cons_succ]
                  refine wpAnyH_ready (rs := [20]) (by kernel_rfl) (by simp) ?_
                  refine (AllReadyH.cons rfl (fun K hK => ?_) AllReadyH.nil)
                  · go_simp
                    refine hK.out _ _ (by exact SX.out _ (G2.out.trans (galloc X2 (Obj.cells #[(.iface 74 (.pointer (some ⟨ab, 0, none⟩)))] 101) none))) (fun hHeld => ?_)
                    clear hK K hHeld
                    obtain ⟨bb, hbb⟩ : ∃ b, b = X2.heap.size := ⟨_, rfl⟩
                    obtain ⟨X3, hX3⟩ : ∃ Y, Y = X2.alloc (Obj.cells #[(.iface 74 (.pointer (some ⟨ab, 0, none⟩)))] 101) := ⟨_, rfl⟩
                    rw [← hX3, ← hbb]
                    have gg : X2.grownBy X3 none := by rw [hX3]; exact galloc X2 (Obj.cells #[(.iface 74 (.pointer (some ⟨ab, 0, none⟩)))] 101) none
                    have G3 : Hid (wr.grownBy X3 none) := G2.out.trans gg
                    have fI : Hid (X3.heap[ib]? = some (IdCells nm)) := blk_kept fI.out gg (by simp)
                    have flb : Hid (X3.heap[lb]? = some (Obj.cells #[.int .i64 0, .int .i64 0, .iface 2 (.int .i64 0)] 77)) := blk_kept flb.out gg (by simp)
                    have fab : Hid (X3.heap[ab]? = some (Obj.cells #[(.iface 57 (.pointer (some ⟨ib, 0, none⟩))), (.iface 75 (.pointer (some ⟨lb, 0, none⟩)))] 79)) := blk_kept fab.out gg (by simp)
                    have fbb : Hid (X3.heap[bb]? = some (Obj.cells #[(.iface 74 (.pointer (some ⟨ab, 0, none⟩)))] 101)) := by rw [hX3, hbb]; exact (MapKept.heap_alloc X2 (Obj.cells #[(.iface 74 (.pointer (some ⟨ab, 0, none⟩)))] 101)).1
                    have hHeld := SX.out X3 G3.out
                    clear hX3 hbb gg
                    have hne := hd (World.news_of_block fbb.out)
                    refine wpAnyH_ready (rs := [21]) (by kernel_rfl) (by simp) ?_
                    refine AllReadyH.cons rfl (fun K hK => ?_) AllReadyH.nil
                    refine step_append_lies _ rfl _ _ _ rfl z 101 i0 .nilIface 1 16 Try.underlying63 hi0 hz0 hz1 hz2 rfl (by decide) (.slice sa L.length sc) L.length vs rfl (HOWN.out X3 G3.out) ⟨bb, 0, none⟩ 1 1 [(.iface 74 (.pointer (some ⟨ab, 0, none⟩)))] rfl rfl hne.out (by intro u hu; simp at hu; subst hu; rfl) (by decide) (by unfold maxLen; omega) (by omega) (HBASE.out X3 G3.out) X3.heap.size rfl ?_
                    intro g cap w3 hown3 hgrow3 hat3 hlt3
                    obtain ⟨⟨e1, e2, e3, e4⟩, HS3⟩ := T.out X3 w3 (.iface 74 (.pointer (some ⟨ab, 0, none⟩))) (false, nm, ib) g cap G3.out hgrow3 ⟨fI.out, ⟨ab, lb, rfl, fab.out⟩⟩ hfr.out hown3
                    clear hgrow3 hown3 hHeld hne
                    refine hK.out _ _ e3 (fun hHeld => ?_)
                    clear hK K
                    refine wpAnyH_take (i := 22) (v := ?v22_13) rfl (by kernel_rfl) (by kernel_rfl) (by kernel_rfl) (fun _ _ _ h => h) (Or.inl ⟨by rfl, ?y22_13⟩) (by assumption) ?r22_13
                    case y22_13 => intro w hSw; (try dsimp only at hSw); go_simp; try with_reducible rfl
                    simp only [Act.put, List.setIfInBounds_toArray, List.set_cons_zero, List.set_cons_succ]
                    refine wpAnyH_take (i := 23) (v := ?v23_13) rfl (by kernel_rfl) (by kernel_rfl) (by kernel_rfl) (fun _ _ _ h => h) (Or.inl ⟨by rfl, ?y23_13⟩) (by assumption) ?r23_13
                    case y23_13 => intro w hSw; (try dsimp only at hSw); go_simp; try with_reducible rfl
                    simp only [Act.put, List.setIfInBounds_toArray, List.set_cons_zero, List.set_cons_succ]
                    refine wpAnyH_ready (rs := [24]) (by kernel_rfl) (by simp) ?_
                    refine AllReadyH.cons rfl (fun K hK => ?_) AllReadyH.nil
                    go_simp
                    refine hK.out _ _ (by exact e4) (fun hHeld => ?_)
                    clear hK K
                    refine wpAnyH_done (by kernel_rfl) ?_ _
                    clear hHeld e1 e2 e3 e4
                    go_wp2
                    go_roundg (M.length - (i + 1))
                    case measure => omega
                    case rel => exact RL.out g cap _ (false, nm, ib) (.iface 74 (.pointer (some ⟨ab, 0, none⟩))) _ rfl rfl HS3
              · go_simp
                refine hK.out _ _ (by exact SX.out _ (G1.out.trans (galloc X1 (Obj.cells #[(.iface 57 (.pointer (some ⟨ib, 0, none⟩))), (.iface 75 (.pointer (some ⟨lb, 0, none⟩)))] 79) none))) (fun hHeld => ?_)
                clear hK K hHeld
                obtain ⟨ab, hab⟩ : ∃ b, b = X1.heap.size := ⟨_, rfl⟩
                obtain ⟨X2, hX2⟩ : ∃ Y, Y = X1.alloc (Obj.cells #[(.iface 57 (.pointer (some ⟨ib, 0, none⟩))), (.iface 75 (.pointer (some ⟨lb, 0, none⟩)))] 79) := ⟨_, rfl⟩
                rw [← hX2, ← hab]
                have gg : X1.grownBy X2 none := by rw [hX2]; exact galloc X1 (Obj.cells #[(.iface 57 (.pointer (some ⟨ib, 0, none⟩))), (.iface 75 (.pointer (some ⟨lb, 0, none⟩)))] 79) none
                have G2 : Hid (wr.grownBy X2 none) := G1.out.trans gg
                have fI : Hid (X2.heap[ib]? = some (IdCells nm)) := blk_kept fI.out gg (by simp)
                have flb : Hid (X2.heap[lb]? = some (Obj.cells #[.int .i64 0, .int .i64 0, .iface 2 (.int .i64 0)] 77)) := blk_kept flb.out gg (by simp)
                have fab : Hid (X2.heap[ab]? = some (Obj.cells #[(.iface 57 (.pointer (some ⟨ib, 0, none⟩))), (.iface 75 (.pointer (some ⟨lb, 0, none⟩)))] 79)) := by rw [hX2, hab]; exact (MapKept.heap_alloc X1 (Obj.cells #[(.iface 57 (.pointer (some ⟨ib, 0, none⟩))), (.iface 75 (.pointer (some ⟨lb, 0, none⟩)))] 79)).1
                have hHeld := SX.out X2 G2.out
                clear hX2 hab gg
                refine wpAnyH_take (i := 19) (v := ?v19_14) rfl (by kernel_rfl) (by kernel_rfl) (by kernel_rfl) (fun _ _ _ h => h) (Or.inl ⟨by rfl, ?y19_14⟩) (by assumption) ?r19_14
                case y19_14 => intro w hSw; (try dsimp only at hSw); go_simp; try with_reducible rfl
                simp only [Act.put, List.setIfInBounds_toArray, List.set_cons_zero, List.set_cons_succ]
                refine wpAnyH_ready (rs := [10, 20]) (by kernel_rfl) (by simp) ?_
                refine (AllReadyH.cons rfl (fun K hK => ?_) (AllReadyH.cons rfl (fun K hK => ?_) AllReadyH.nil))
                · have l10 : X2.cell? ⟨z + 1 + 1, 0, none⟩ = some (.slice sa L.length sc) := LX.out X2 G2.out
                  go_simp
                  refine hK.out _ _ (by exact SX.out X2 G2.out) (fun hHeld => ?_)
                  clear hK K l10
                  refine wpAnyH_ready (rs := [20]) (by kernel_rfl) (by simp) ?_
                  refine (AllReadyH.cons rfl (fun K hK => ?_) AllReadyH.nil)
                  · go_simp
                    refine hK.out _ _ (by exact SX.out _ (G2.out.trans (galloc X2 (Obj.cells #[(.iface 74 (.pointer (some ⟨ab, 0, none⟩)))] 101) none))) (fun hHeld => ?_)
                    clear hK K hHeld
                    obtain ⟨bb, hbb⟩ : ∃ b, b = X2.heap.size := ⟨_, rfl⟩
                    obtain ⟨X3, hX3⟩ : ∃ Y, Y = X2.alloc (Obj.cells #[(.iface 74 (.pointer (some ⟨ab, 0, none⟩)))] 101) := ⟨_, rfl⟩
                    rw [← hX3, ← hbb]
                    have gg : X2.grownBy X3 none := by rw [hX3]; exact galloc X2 (Obj.cells #[(.iface 74 (.pointer (some ⟨ab, 0, none⟩)))] 101) none
                    have G3 : Hid (wr.grownBy X3 none) := G2.out.trans gg
                    have fI : Hid (X3.heap[ib]? = some (IdCells nm)) := blk_kept fI.out gg (by simp)
                    have flb : Hid (X3.heap[lb]? = some (Obj.cells #[.int .i64 0, .int .i64 0, .iface 2 (.int .i64 0)] 77)) := blk_kept flb.out gg (by simp)
                    have fab : Hid (X3.heap[ab]? = some (Obj.cells #[(.iface 57 (.pointer (some ⟨ib, 0, none⟩))), (.iface 75 (.pointer (some ⟨lb, 0, none⟩)))] 79)) := blk_kept fab.out gg (by simp)
                    have fbb : Hid (X3.heap[bb]? = some (Obj.cells #[(.iface 74 (.pointer (some ⟨ab, 0, none⟩)))] 101)) := by rw [hX3, hbb]; exact (MapKept.heap_alloc X2 (Obj.cells #[(.iface 74 (.pointer (some ⟨ab, 0, none⟩)))] 101)).1
                    have hHeld := SX.out X3 G3.out
                    clear hX3 hbb gg
                    have hne := hd (World.news_of_block fbb.out)
                    refine wpAnyH_ready (rs := [21]) (by kernel_rfl) (by simp) ?_
                    refine AllReadyH.cons rfl (fun K hK => ?_) AllReadyH.nil
                    refine step_append_lies _ rfl _ _ _ rfl z 101 i0 .nilIface 1 16 Try.underlying63 hi0 hz0 hz1 hz2 rfl (by decide) (.slice sa L.length sc) L.length vs rfl (HOWN.out X3 G3.out) ⟨bb, 0, none⟩ 1 1 [(.iface 74 (.pointer (some ⟨ab, 0, none⟩)))] rfl rfl hne.out (by intro u hu; simp at hu; subst hu; rfl) (by decide) (by unfold maxLen; omega) (by omega) (HBASE.out X3 G3.out) X3.heap.size rfl ?_
                    intro g cap w3 hown3 hgrow3 hat3 hlt3
                    obtain ⟨⟨e1, e2, e3, e4⟩, HS3⟩ := T.out X3 w3 (.iface 74 (.pointer (some ⟨ab, 0, none⟩))) (false, nm, ib) g cap G3.out hgrow3 ⟨fI.out, ⟨ab, lb, rfl, fab.out⟩⟩ hfr.out hown3
                    clear hgrow3 hown3 hHeld hne
                    refine hK.out _ _ e3 (fun hHeld => ?_)
                    clear hK K
                    refine wpAnyH_take (i := 22) (v := ?v22_15) rfl (by kernel_rfl) (by kernel_rfl) (by kernel_rfl) (fun _ _ _ h => h) (Or.inl ⟨by rfl, ?y22_15⟩) (by assumption) ?r22_15
                    case y22_15 => intro w hSw; (try dsimp only at hSw); go_simp; try with_reducible rfl
                    simp only [Act.put, List.setIfInBounds_toArray, List.set_cons_zero, List.set_cons_succ]
                    refine wpAnyH_take (i := 23) (v := ?v23_15) rfl (by kernel_rfl) (by kernel_rfl) (by kernel_rfl) (fun _ _ _ h => h) (Or.inl ⟨by rfl, ?y23_15⟩) (by assumption) ?r23_15
                    case y23_15 => intro w hSw; (try dsimp only at hSw); go_simp; try with_reducible rfl
                    simp only [Act.put, List.setIfInBounds_toArray, List.set_cons_zero, List.set_cons_succ]
                    refine wpAnyH_ready (rs := [24]) (by kernel_rfl) (by simp) ?_
                    refine AllReadyH.cons rfl (fun K hK => ?_) AllReadyH.nil
                    go_simp
                    refine hK.out _ _ (by exact e4) (fun hHeld => ?_)
                    clear hK K
                    refine wpAnyH_done (by kernel_rfl) ?_ _
                    clear hHeld e1 e2 e3 e4
                    go_wp2
                    go_roundg (M.length - (i + 1))
                    case measure => omega
                    case rel => exact RL.out g cap _ (false, nm, ib) (.iface 74 (.pointer (some ⟨ab, 0, none⟩))) _ rfl rfl HS3
                · go_simp
                  refine hK.out _ _ (by exact SX.out _ (G2.out.trans (galloc X2 (Obj.cells #[(.iface 74 (.pointer (some ⟨ab, 0, none⟩)))] 101) none))) (fun hHeld => ?_)
                  clear hK K hHeld
                  obtain ⟨bb, hbb⟩ : ∃ b, b = X2.heap.size := ⟨_, rfl⟩
                  obtain ⟨X3, hX3⟩ : ∃ Y, Y = X2.alloc (Obj.cells #[(.iface 74 (.pointer (some ⟨ab, 0, none⟩)))] 101) := ⟨_, rfl⟩
                  rw [← hX3, ← hbb]
                  have gg : X2.grownBy X3 none := by rw [hX3]; exact galloc X2 (Obj.cells #[(.iface 74 (.pointer (some ⟨ab, 0, none⟩)))] 101) none
                  have G3 : Hid (wr.grownBy X3 none) := G2.out.trans gg
                  have fI : Hid (X3.heap[ib]? = some (IdCells nm)) := blk_kept fI.out gg (by simp)
                  have flb : Hid (X3.heap[lb]? = some (Obj.cells #[.int .i64 0, .int .i64 0, .iface 2 (.int .i64 0)] 77)) := blk_kept flb.out gg (by simp)
                  have fab : Hid (X3.heap[ab]? = some (Obj.cells #[(.iface 57 (.pointer (some ⟨ib, 0, none⟩))), (.iface 75 (.pointer (some ⟨lb, 0, none⟩)))] 79)) := blk_kept fab.out gg (by simp)
                  have fbb : Hid (X3.heap[bb]? = some (Obj.cells #[(.iface 74 (.pointer (some ⟨ab, 0, none⟩)))] 101)) := by rw [hX3, hbb]; exact (MapKept.heap_alloc X2 (Obj.cells #[(.iface 74 (.pointer (some ⟨ab, 0, none⟩)))] 101)).1
                  have hHeld := SX.out X3 G3.out
                  clear hX3 hbb gg
                  refine wpAnyH_ready (rs := [10]) (by kernel_rfl) (by simp) ?_
                  refine (AllReadyH.cons rfl (fun K hK => ?_) AllReadyH.nil)
                  · have l10 : X3.cell? ⟨z + 1 + 1, 0, none⟩ = some (.slice sa L.length sc) := LX.out X3 G3.out
                    go_simp
                    refine hK.out _ _ (by exact SX.out X3 G3.out) (fun hHeld => ?_)
                    clear hK K l10
                    have hne := hd (World.news_of_block fbb.out)
                    refine wpAnyH_ready (rs := [21]) (by kernel_rfl) (by simp) ?_
                    refine AllReadyH.cons rfl (fun K hK => ?_) AllReadyH.nil
                    refine step_append_lies _ rfl _ _ _ rfl z 101 i0 .nilIface 1 16 Try.underlying63 hi0 hz0 hz1 hz2 rfl (by decide) (.slice sa L.length sc) L.length vs rfl (HOWN.out X3 G3.out) ⟨bb, 0, none⟩ 1 1 [(.iface 74 (.pointer (some ⟨ab, 0, none⟩)))] rfl rfl hne.out (by intro u hu; simp at hu; subst hu; rfl) (by decide) (by unfold maxLen; omega) (by omega) (HBASE.out X3 G3.out) X3.heap.size rfl ?_
                    intro g cap w3 hown3 hgrow3 hat3 hlt3
                    obtain ⟨⟨e1, e2, e3, e4⟩, HS3⟩ := T.out X3 w3 (.iface 74 (.pointer (some ⟨ab, 0, none⟩))) (false, nm, ib) g cap G3.out hgrow3 ⟨fI.out, ⟨ab, lb, rfl, fab.out⟩⟩ hfr.out hown3
                    clear hgrow3 hown3 hHeld hne
                    refine hK.out _ _ e3 (fun hHeld => ?_)
                    clear hK K
                    refine wpAnyH_take (i := 22) (v := ?v22_16) rfl (by kernel_rfl) (by kernel_rfl) (by kernel_rfl) (fun _ _ _ h => h) (Or.inl ⟨by rfl, ?y22_16⟩) (by assumption) ?r22_16
                    case y22_16 => intro w hSw; (try dsimp only at hSw); go_simp; try with_reducible rfl
                    simp only [Act.put, List.setIfInBounds_toArray, List.set_cons_zero, List.set_cons_succ]
                    refine wpAnyH_take (i := 23) (v := ?v23_16) rfl (by kernel_rfl) (by kernel_rfl) (by kernel_rfl) (fun _ _ _ h => h) (Or.inl ⟨by rfl, ?y23_16⟩) (by assumption) ?r23_16
                    case y23_16 => intro w hSw; (try dsimp only at hSw); go_simp; try with_reducible rfl
                    simp only [Act.put, List.setIfInBounds_toArray, List.set_cons_zero, List.set_cons_succ]
                    refine wpAnyH_ready (rs := [24]) (by kernel_rfl) (by simp) ?_
                    refine AllReadyH.cons rfl (fun K hK => ?_) AllReadyH.nil
                    go_simp
                    refine hK.out _ _ (by exact e4) (fun hHeld => ?_)
                    clear hK K
                    refine wpAnyH_done (by kernel_rfl) ?_ _
                    clear hHeld e1 e2 e3 e4
                    go_wp2
                    go_roundg (M.length - (i + 1))
                    case measure => omega
                    case rel => exact RL.out g cap _ (false, nm, ib) (.iface 74 (.pointer (some ⟨ab, 0, none⟩))) _ rfl rfl HS3
        · have e : i = M.length := by omega
          subst e
          obtain ⟨hS, hnm⟩ := H.out
          rw [List.take_length] at hnm
          have hPl : P.length ≤ 60000 := by have := congrArg List.length HP2.out.2; simp [nms] at this; omega
          have hLl : L.length ≤ 60000 := by have := congrArg List.length hnm; simp at this; omega
          have CL := hd (hS.call HRs.out hPl hLl)
          have FZ : Hid (∀ w' ub pb lb kU, StrMap w' ub (fU (useF L)) kU → w'.rowIs pb 82 P.length (fun j => .int .u8 ((useF L (pnf P j)).getD 0 : Nat)) → PMap w' lb ((retL (FVp (nms P)) L).map (fun x => x.1)) → Fr wr.heap.size R wr w' →
              w'.heap[z]? = some (.cells #[.map none, .slice none 0 0, .map none] 51 (0, 0)) ∧ Hid (∃ P' L', nms P' = ps ∧ L'.map plainOf = M ∧ ∃ ub' pb' lb' kU', Ending.returned (.agg #[.map (some ub), .slice (some ⟨pb, 0, none⟩) P.length P.length, .map (some lb)]) = .returned (.agg #[.map (some ub'), .slice (some ⟨pb', 0, none⟩) P'.length P'.length, .map (some lb')]) ∧ StrMap (((w'.setCell ⟨z, 0, none⟩ (.map (some ub))).setCell ⟨z, 1, none⟩ (.slice (some ⟨pb, 0, none⟩) P.length P.length)).setCell ⟨z, 2, none⟩ (.map (some lb))) ub' (fU (useF L')) kU' ∧ (((w'.setCell ⟨z, 0, none⟩ (.map (some ub))).setCell ⟨z, 1, none⟩ (.slice (some ⟨pb, 0, none⟩) P.length P.length)).setCell ⟨z, 2, none⟩ (.map (some lb))).rowIs pb' 82 P'.length (fun j => .int .u8 ((useF L' (pnf P' j)).getD 0 : Nat)) ∧ PMap (((w'.setCell ⟨z, 0, none⟩ (.map (some ub))).setCell ⟨z, 1, none⟩ (.slice (some ⟨pb, 0, none⟩) P.length P.length)).setCell ⟨z, 2, none⟩ (.map (some lb))) lb' ((retL (FVp (nms P')) L').map (fun x => x.1)) ∧ Fr w.heap.size R w (((w'.setCell ⟨z, 0, none⟩ (.map (some ub))).setCell ⟨z, 1, none⟩ (.slice (some ⟨pb, 0, none⟩) P.length P.length)).setCell ⟨z, 2, none⟩ (.map (some lb))))) := fun w' ub pb lb kU hU hp hl hf => by
            have hRw := HRs.out.kept hS.gr (by simp)
            have hz3 := blk_fr hS.hZ hf (lt_of_blk hS.hZ) (hRw.ne_blk hS.hZ (by simp [tagOf])).symm
            have g1 := gset w' ⟨z, 0, none⟩ (.map (some ub))
            have g2 := gset (w'.setCell ⟨z, 0, none⟩ (.map (some ub))) ⟨z, 1, none⟩ (.slice (some ⟨pb, 0, none⟩) P.length P.length)
            have g3 := gset ((w'.setCell ⟨z, 0, none⟩ (.map (some ub))).setCell ⟨z, 1, none⟩ (.slice (some ⟨pb, 0, none⟩) P.length P.length)) ⟨z, 2, none⟩ (.map (some lb))
            have gg := (g1.trans g2).trans g3
            obtain ⟨cs, hcs, _⟩ := id hp
            obtain ⟨ol, hol, htl⟩ := hl.blk
            refine ⟨hz3, P, L, HP2.out.2, hnm, ub, pb, lb, kU, rfl, hU.kept gg (fun e => hU.ne_blk hz3 (by simp [tagOf]) (by simpa using e)), row_kept hp gg (fun e => ne_of_tag hcs hz3 (by simp [tagOf]) (by simpa using e)), hl.kept gg (fun e => ne_of_tag hol hz3 (by rw [htl]; simp [tagOf]) (by simpa using e)), ?_⟩
            have zw : w.heap.size ≤ wr.heap.size := hS.gr.size
            have a0 : Fr w.heap.size R w wr := (Fr.refl _ R w).grown hS.gr (Nat.le_refl _) (by simp)
            have a1 := a0.trans (hf.mono zw)
            exact a1.grown gg (Nat.le_trans zw hf.size) (fun k e => by simp at e; subst e; exact .inl (by rw [hS.hz]; exact Nat.le_refl _))
          clear hS hnm H HP2
          go_wp2_with fail
          refine CL.out.mono ?_
          rintro e w5 ⟨ub, pb, lb, kU, rfl, hU, hp, hl, hf⟩
          obtain ⟨hz5, H5⟩ := FZ.out w5 ub pb lb kU hU hp hl hf
          have v0 : w5.cell? ⟨z, 0, none⟩ = some (.map none) := cell_blk hz5 0
          have v1 : w5.cell? ⟨z, 1, none⟩ = some (.slice none 0 0) := cell_blk hz5 1
          have v2 : w5.cell? ⟨z, 2, none⟩ = some (.map none) := cell_blk hz5 2
          have y0 : w5.frozen? ⟨z, 0, none⟩ = false := free_blk hz5 0
          have y1 : w5.frozen? ⟨z, 1, none⟩ = false := free_blk hz5 1
          have y2 : w5.frozen? ⟨z, 2, none⟩ = false := free_blk hz5 2
          clear hU hp hl hf CL FZ hz5
          go_wp2
          exact bodyPost_ret (v := .agg #[.map (some ub), .slice (some ⟨pb, 0, none⟩) P.length P.length, .map (some lb)]) (by simp [results, Try.results16, go_sem, v0, v1, v2]) rfl H5.out
end Go.Proofs.Qxb6613372a
