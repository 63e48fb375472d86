/-
  Seat b6613372a: the script in memory.
-/
import Derived.Test.Qxb6613372aWL
namespace Go.Proofs.Qxb6613372a
open Go.ChangeShapes Go.WideShapes Go.ChangeAt Go.RowKit Go.MapKept
set_option linter.unusedSimpArgs false
set_option linter.unusedVariables false

theorem info101 : (Try.prog.info? 101).map (fun i => (i.zero, i.size, i.bytes)) = some (some .nilIface, 1, 16) := by kernel_rfl
theorem info57 : (Try.prog.info? 57).map (fun i => (i.zero, i.size, i.bytes)) = some (some (.pointer none), 1, 8) := by kernel_rfl

def IdCells (nm : ByteArray) : Obj := .cells #[.int .i64 0, .int .i64 0, .string nm] 61
/-- A statement's node. -/
def SNode (w : World) (v : Value) (x : Sm) : Prop :=
  w.heap[x.2.2]? = some (IdCells x.2.1) ∧
  match x.1 with
  | true => ∃ rb, v = .iface 69 (.pointer (some ⟨rb, 0, none⟩)) ∧ w.heap[rb]? = some (.cells #[.int .i64 0, .int .i64 0, .iface 57 (.pointer (some ⟨x.2.2, 0, none⟩))] 73 (0, 0))
  | false => ∃ ab lb, v = .iface 74 (.pointer (some ⟨ab, 0, none⟩)) ∧ w.heap[ab]? = some (.cells #[.iface 57 (.pointer (some ⟨x.2.2, 0, none⟩)), .iface 75 (.pointer (some ⟨lb, 0, none⟩))] 79 (0, 0))

theorem SNode.kept {w w' : World} {v : Value} {x : Sm} {row : Option Nat} (h : SNode w v x) (hg : w.grownBy w' row) (hne : ∀ b o, w.heap[b]? = some o → tagOf o = 62 ∨ tagOf o = 74 ∨ tagOf o = 80 → some b ≠ row) : SNode w' v x := by
  obtain ⟨r, nm, idb⟩ := x
  obtain ⟨h1, h2⟩ := h
  refine ⟨blk_kept h1 hg (hne _ _ h1 (.inl rfl)), ?_⟩
  cases r with
  | true =>
    obtain ⟨rb, e1, e2⟩ := h2
    exact ⟨rb, e1, blk_kept e2 hg (hne _ _ e2 (.inr (.inl rfl)))⟩
  | false =>
    obtain ⟨ab, lb, e1, e2⟩ := h2
    exact ⟨ab, lb, e1, blk_kept e2 hg (hne _ _ e2 (.inr (.inr rfl)))⟩

structure Scr (z : Nat) (w0 : World) (pv sv : Value) (P : List (ByteArray × Nat)) (L : List Sm) (vs : List Value) (w : World) : Prop where
  hz : z = w0.heap.size
  hZ : w.heap[z]? = some (.cells #[.map none, .slice none 0 0, .map none] 51 (0, 0))
  hD : w.heap[z + 1 + 1 + 1]? = some (.cells #[.int .i64 0, .int .i64 0, .pointer (some ⟨z + 1, 0, none⟩), pv, .pointer (some ⟨z + 1 + 1, 0, none⟩)] 68 (0, 0))
  hB : w.heap[z + 1 + 1]? = some (.cells #[sv] 65 (0, 0))
  gr : w0.grownBy w none
  hp : w.ownsRow z 57 1 pv P.length (P.map (fun x => .pointer (some ⟨x.2, 0, none⟩)))
  hs : w.ownsRow z 101 1 sv L.length vs
  ids : ∀ x ∈ P, w.heap[x.2]? = some (IdCells x.1)
  sts : ∀ (i : Nat) (x : Sm), L[i]? = some x → ∃ v, vs[i]? = some v ∧ SNode w v x
  nd : (L.map (fun x => x.2.2)).Nodup

section
variable {z : Nat} {w0 w : World} {pv sv : Value} {P : List (ByteArray × Nat)} {L : List Sm} {vs : List Value}

theorem grown_row {w0 a b : World} {row : Option Nat} (h : w0.grownBy a none) (hb : a.grownBy b row) (hk : ∀ k, row = some k → w0.heap.size ≤ k) : w0.grownBy b none := by
  cases row with
  | none => exact h.trans hb
  | some k => exact grown_new h hb (hk k rfl)

theorem Scr.more (h : Scr z w0 pv sv P L vs w) {w' : World} (hg : w.grownBy w' none) : Scr z w0 pv sv P L vs w' :=
  ⟨h.hz, blk_kept h.hZ hg (by simp), blk_kept h.hD hg (by simp), blk_kept h.hB hg (by simp), h.gr.trans hg, own_kept h.hp hg (by cases e : pv.ownBlock <;> simp), own_kept h.hs hg (by cases e : sv.ownBlock <;> simp),
    fun x hx => blk_kept (h.ids x hx) hg (by simp), fun i x hx => by
      obtain ⟨v, h1, h2⟩ := h.sts i x hx
      exact ⟨v, h1, h2.kept hg (fun _ _ _ _ => by simp)⟩, h.nd⟩

/-- The parameters' row is appended to. -/
theorem Scr.pushP (h : Scr z w0 pv sv P L vs w) {X w3 : World} (hg : w.grownBy X none) (hg3 : X.grownBy w3 pv.ownBlock) {pv' : Value} {nm : ByteArray} {ib : Nat} (hi : X.heap[ib]? = some (IdCells nm))
    (ho : w3.ownsRow z 57 1 pv' (P.length + 1) (P.map (fun x => .pointer (some ⟨x.2, 0, none⟩)) ++ [.pointer (some ⟨ib, 0, none⟩)])) :
    (w3.cell? ⟨z + 1 + 1 + 1, 3, none⟩ = some pv ∧ w3.frozen? ⟨z + 1 + 1 + 1, 3, none⟩ = false) ∧ Scr z w0 pv' sv (P ++ [(nm, ib)]) L vs (w3.setCell ⟨z + 1 + 1 + 1, 3, none⟩ pv') := by
  have hX := h.more hg
  have kb : ∀ {b : Nat} {o : Obj}, X.heap[b]? = some o → tagOf o ≠ 58 → w3.heap[b]? = some o := fun hb ht => blk_kept hb hg3 (fun e => own_ne hX.hp hb ht e.symm)
  have hD3 := kb hX.hD (by simp [tagOf])
  have g4 := gset w3 ⟨z + 1 + 1 + 1, 3, none⟩ pv'
  have kc : ∀ {b : Nat} {o : Obj}, w3.heap[b]? = some o → tagOf o ≠ 69 → (w3.setCell ⟨z + 1 + 1 + 1, 3, none⟩ pv').heap[b]? = some o := fun hb ht => blk_kept hb g4 (fun e => ne_of_tag hb hD3 (by simpa [tagOf] using ht) (by simpa using e))
  have hge : ∀ k, pv.ownBlock = some k → w0.heap.size ≤ k := fun k e => by have := own_blk_ge hX.hp k e; rw [← h.hz]; exact this
  have gr3 := grown_row hX.gr hg3 hge
  have hs3 := own_kept hX.hs hg3 (own_own hX.hs hX.hp (by decide))
  refine ⟨⟨cell_blk hD3 3, free_blk hD3 3⟩, h.hz, kc (kb hX.hZ (by simp [tagOf])) (by simp [tagOf]), blk_set hD3 3 pv', kc (kb hX.hB (by simp [tagOf])) (by simp [tagOf]), grown_row gr3 g4 (fun k e => by simp at e; rw [← h.hz]; omega), ?_, ?_, ?_, ?_, h.nd⟩
  · rw [List.length_append, List.map_append]
    exact own_kept ho g4 (.inr (own_ne ho hD3 (by simp [tagOf])))
  · exact own_kept hs3 g4 (.inr (own_ne hs3 hD3 (by simp [tagOf])))
  · intro x hx
    rw [List.mem_append] at hx
    rcases hx with hx | hx
    · exact kc (kb (hX.ids x hx) (by simp [tagOf, IdCells])) (by simp [tagOf, IdCells])
    · simp at hx
      subst hx
      exact kc (kb hi (by simp [tagOf, IdCells])) (by simp [tagOf, IdCells])
  · intro i x hx
    obtain ⟨v, h1, h2⟩ := hX.sts i x hx
    refine ⟨v, h1, (h2.kept hg3 (fun b o hb ht e => own_ne hX.hp hb (by omega) e.symm)).kept g4 (fun b o hb ht e => ne_of_tag hb hD3 (by show tagOf o ≠ 69; omega) (by simpa using e))⟩

/-- The statements' row is appended to. -/
theorem Scr.pushS (h : Scr z w0 pv sv P L vs w) {X w3 : World} (hg : w.grownBy X none) (hg3 : X.grownBy w3 sv.ownBlock) {sv' v : Value} {x : Sm} (hN : SNode X v x) (hfr : w.heap.size ≤ x.2.2) (hvl : vs.length = L.length)
    (ho : w3.ownsRow z 101 1 sv' (L.length + 1) (vs ++ [v])) :
    (w3.cell? ⟨z + 1 + 1, 0, none⟩ = some sv ∧ w3.frozen? ⟨z + 1 + 1, 0, none⟩ = false ∧ w3.cell? ⟨z + 1 + 1 + 1, 4, none⟩ = some (.pointer (some ⟨z + 1 + 1, 0, none⟩)) ∧ (w3.setCell ⟨z + 1 + 1, 0, none⟩ sv').cell? ⟨z + 1 + 1 + 1, 4, none⟩ = some (.pointer (some ⟨z + 1 + 1, 0, none⟩))) ∧ Scr z w0 pv sv' P (L ++ [x]) (vs ++ [v]) (w3.setCell ⟨z + 1 + 1, 0, none⟩ sv') := by
  have hX := h.more hg
  have kb : ∀ {b : Nat} {o : Obj}, X.heap[b]? = some o → tagOf o ≠ 102 → w3.heap[b]? = some o := fun hb ht => blk_kept hb hg3 (fun e => own_ne hX.hs hb ht e.symm)
  have hD3 := kb hX.hB (by simp [tagOf])
  have g4 := gset w3 ⟨z + 1 + 1, 0, none⟩ sv'
  have kc : ∀ {b : Nat} {o : Obj}, w3.heap[b]? = some o → tagOf o ≠ 66 → (w3.setCell ⟨z + 1 + 1, 0, none⟩ sv').heap[b]? = some o := fun hb ht => blk_kept hb g4 (fun e => ne_of_tag hb hD3 (by simpa [tagOf] using ht) (by simpa using e))
  have hge : ∀ k, sv.ownBlock = some k → w0.heap.size ≤ k := fun k e => by have := own_blk_ge hX.hs k e; rw [← h.hz]; exact this
  have gr3 := grown_row hX.gr hg3 hge
  have hp3 := own_kept hX.hp hg3 (own_own hX.hp hX.hs (by decide))
  have hDD := kb hX.hD (by simp [tagOf])
  have keepN : ∀ {v : Value} {x : Sm}, SNode X v x → SNode (w3.setCell ⟨z + 1 + 1, 0, none⟩ sv') v x := fun h2 => (h2.kept hg3 (fun b o hb ht e => own_ne hX.hs hb (by omega) e.symm)).kept g4 (fun b o hb ht e => ne_of_tag hb hD3 (by show tagOf o ≠ 66; omega) (by simpa using e))
  refine ⟨⟨cell_blk hD3 0, free_blk hD3 0, cell_blk hDD 4, cell_blk (kc hDD (by simp [tagOf])) 4⟩, h.hz, kc (kb hX.hZ (by simp [tagOf])) (by simp [tagOf]), kc hDD (by simp [tagOf]), blk_set hD3 0 sv', grown_row gr3 g4 (fun k e => by simp at e; rw [← h.hz]; omega), ?_, ?_, ?_, ?_, ?_⟩
  · exact own_kept hp3 g4 (.inr (own_ne hp3 hD3 (by simp [tagOf])))
  · rw [List.length_append]
    exact own_kept ho g4 (.inr (own_ne ho hD3 (by simp [tagOf])))
  · intro y hy
    exact kc (kb (hX.ids y hy) (by simp [tagOf, IdCells])) (by simp [tagOf, IdCells])
  · intro i y hy
    by_cases hi : i < L.length
    · rw [List.getElem?_append_left hi] at hy
      obtain ⟨u, h1, h2⟩ := hX.sts i y hy
      exact ⟨u, by rw [List.getElem?_append_left (by omega)]; exact h1, keepN h2⟩
    · have hl := (List.getElem?_eq_some_iff.1 hy).1
      rw [List.length_append, List.length_singleton] at hl
      have e : i = L.length := by omega
      subst e
      rw [List.getElem?_append_right (Nat.le_refl _), Nat.sub_self] at hy
      simp at hy
      subst hy
      exact ⟨v, by rw [List.getElem?_append_right (by omega), hvl, Nat.sub_self]; rfl, keepN hN⟩
  · rw [List.map_append, List.nodup_append]
    refine ⟨h.nd, by simp, ?_⟩
    intro a ha b hb
    simp at hb
    subst hb
    rw [List.mem_map] at ha
    obtain ⟨y, hy, rfl⟩ := ha
    obtain ⟨i, hi⟩ := List.mem_iff_getElem?.1 hy
    obtain ⟨u, h1, h2⟩ := h.sts i y hi
    have := lt_of_blk h2.1
    omega
end

/-- The script's start. -/
def V1 (w : World) : World :=
  (((w.alloc (.cells #[.map none, .slice none 0 0, .map none] 51)).alloc (.cells #[.int .i64 0, .int .i64 0, .string { data := #[102] }] 61)).alloc (.cells #[.slice none 0 0] 65)).alloc (.cells #[.int .i64 0, .int .i64 0, .pointer (some ⟨w.heap.size + 1, 0, none⟩), .slice none 0 0, .pointer (some ⟨w.heap.size + 1 + 1, 0, none⟩)] 68)
theorem V1_scr (w : World) : Scr w.heap.size w (.slice none 0 0) (.slice none 0 0) [] [] [] (V1 w) := by
  have s1 : (w.alloc (.cells #[.map none, .slice none 0 0, .map none] 51)).heap.size = w.heap.size + 1 := by simp
  have s2 : ((w.alloc (.cells #[.map none, .slice none 0 0, .map none] 51)).alloc (.cells #[.int .i64 0, .int .i64 0, .string { data := #[102] }] 61)).heap.size = w.heap.size + 1 + 1 := by simp
  have s3 : (((w.alloc (.cells #[.map none, .slice none 0 0, .map none] 51)).alloc (.cells #[.int .i64 0, .int .i64 0, .string { data := #[102] }] 61)).alloc (.cells #[.slice none 0 0] 65)).heap.size = w.heap.size + 1 + 1 + 1 := by simp
  have g1 := galloc w (.cells #[.map none, .slice none 0 0, .map none] 51) none
  have g2 := galloc (w.alloc (.cells #[.map none, .slice none 0 0, .map none] 51)) (.cells #[.int .i64 0, .int .i64 0, .string { data := #[102] }] 61) none
  have g3 := galloc ((w.alloc (.cells #[.map none, .slice none 0 0, .map none] 51)).alloc (.cells #[.int .i64 0, .int .i64 0, .string { data := #[102] }] 61)) (.cells #[.slice none 0 0] 65) none
  have g4 := galloc (((w.alloc (.cells #[.map none, .slice none 0 0, .map none] 51)).alloc (.cells #[.int .i64 0, .int .i64 0, .string { data := #[102] }] 61)).alloc (.cells #[.slice none 0 0] 65)) (.cells #[.int .i64 0, .int .i64 0, .pointer (some ⟨w.heap.size + 1, 0, none⟩), .slice none 0 0, .pointer (some ⟨w.heap.size + 1 + 1, 0, none⟩)] 68) none
  have h0 := (MapKept.heap_alloc w (.cells #[.map none, .slice none 0 0, .map none] 51)).1
  have h2 := (MapKept.heap_alloc ((w.alloc (.cells #[.map none, .slice none 0 0, .map none] 51)).alloc (.cells #[.int .i64 0, .int .i64 0, .string { data := #[102] }] 61)) (.cells #[.slice none 0 0] 65)).1
  rw [s2] at h2
  have h3 := (MapKept.heap_alloc (((w.alloc (.cells #[.map none, .slice none 0 0, .map none] 51)).alloc (.cells #[.int .i64 0, .int .i64 0, .string { data := #[102] }] 61)).alloc (.cells #[.slice none 0 0] 65)) (.cells #[.int .i64 0, .int .i64 0, .pointer (some ⟨w.heap.size + 1, 0, none⟩), .slice none 0 0, .pointer (some ⟨w.heap.size + 1 + 1, 0, none⟩)] 68)).1
  rw [s3] at h3
  exact ⟨rfl, blk_kept (blk_kept (blk_kept h0 g2 (by simp)) g3 (by simp)) g4 (by simp), h3, blk_kept h2 g4 (by simp), ((g1.trans g2).trans g3).trans g4, World.ownsRow_nil _ _ _ _, World.ownsRow_nil _ _ _ _, by simp, by simp, by simp⟩
end Go.Proofs.Qxb6613372a
