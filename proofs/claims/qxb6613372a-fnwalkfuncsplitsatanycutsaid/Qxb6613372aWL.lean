/-
  Seat b6613372a: walkFunc.
-/
import Derived.Test.Qxb6613372aWJ
import Derived.Test.Qxb6613372aWK
import Derived.Deep.Cut
namespace Go.Proofs.Qxb6613372a
open Go.ChangeShapes Go.WideShapes Go.ChangeAt Go.RowKit Go.MapKept
set_option linter.unusedSimpArgs false
set_option linter.unusedVariables false

/-- The parameters' numbers. -/
noncomputable def FVp (ps : List ByteArray) : ByteArray → Option Nat := ps.zipIdx.foldl (fun F p => putN F p.1 p.2) (fun _ => none)
theorem FVp_snoc (ps : List ByteArray) (a : ByteArray) : FVp (ps ++ [a]) = putN (FVp ps) a ps.length := by
  unfold FVp
  rw [List.zipIdx_append, List.foldl_append]
  simp [List.zipIdx_cons]

theorem list_snoc_ind {α : Type} {motive : List α → Prop} (nil : motive []) (snoc : ∀ l a, motive l → motive (l ++ [a])) : ∀ l, motive l := fun l => by
  have h : ∀ n (l : List α), l.length = n → motive l := by
    intro n
    induction n with
    | zero => intro l hl; rw [List.length_eq_zero_iff.1 hl]; exact nil
    | succ n ih =>
      intro l hl
      have hne : l ≠ [] := by intro e; rw [e] at hl; cases hl
      rw [← List.dropLast_concat_getLast hne]
      exact snoc _ _ (ih _ (by simp; omega))
  exact h _ l rfl

theorem FVp_some (ps : List ByteArray) : ∀ nm j, FVp ps nm = some j → j < ps.length ∧ ps[j]? = some nm := by
  induction ps using list_snoc_ind with
  | nil => intro nm j h; simp [FVp] at h
  | snoc ps a ih =>
    intro nm j h
    rw [FVp_snoc] at h
    unfold putN at h
    split at h
    · rename_i e
      cases h
      subst e
      simp
    · obtain ⟨h1, h2⟩ := ih nm j h
      refine ⟨by simp; omega, ?_⟩
      rw [List.getElem?_append_left h1]
      exact h2

theorem FVp_isSome (ps : List ByteArray) (nm : ByteArray) : (FVp ps nm).isSome = true ↔ nm ∈ ps := by
  induction ps using list_snoc_ind with
  | nil => simp [FVp]
  | snoc ps a ih =>
    rw [FVp_snoc]
    unfold putN
    split
    · rename_i e; simp [e]
    · rename_i e; rw [ih]; simp [e]

def S0 (z : Nat) (vm vv : Value) (FV : ByteArray → Option Nat) (n : Nat) (xs : List Value) : St :=
  { Wb := z + 1 + 1 + 1, Sb := z + 1 + 1, Ub := z + 1, vm := vm, vv := vv, tv := .slice none 0 0, ov := .slice none 0 0, kv := .slice none 0 0, step := 0, FU := fun _ => none, nU := 0, FV := FV, n := n, xs := xs, m := 0, os := [], tn := 0, ts := [], kn := 0, ks := [] }

theorem VOK.decl {n : Nat} {xs : List Value} {pn : Nat → ByteArray} (h : VOK n 0 xs pn) (nm : ByteArray) (hp : pn n = nm) : VOK (n + 1) 0 ((xs ++ newVar nm).set (n * 10 + 3) (.bool true)) pn := by
  have hl := h.1
  refine ⟨by simp [newVar, hl]; omega, fun j hj => ?_⟩
  by_cases e : j = n
  · subst e
    have R : ∀ c, c < 10 → c ≠ 3 → ((xs ++ newVar nm).set (j * 10 + 3) (.bool true))[j * 10 + c]? = (newVar nm)[c]? := fun c hc hc3 => by
      rw [List.getElem?_set_ne (by omega), List.getElem?_append_right (by omega), hl, Nat.add_sub_cancel_left]
    have R0 := R 0 (by omega) (by omega)
    simp only [Nat.add_zero] at R0
    refine ⟨R0.trans (by rw [hp]; rfl), R 1 (by omega) (by omega), R 2 (by omega) (by omega), ?_, R 4 (by omega) (by omega), R 5 (by omega) (by omega), ⟨0, R 6 (by omega) (by omega), Nat.le_refl _⟩, ⟨_, R 7 (by omega) (by omega)⟩, ⟨_, R 8 (by omega) (by omega)⟩, ⟨_, R 9 (by omega) (by omega)⟩⟩
    rw [List.getElem?_set_self (by simp [newVar, hl])]
  · have hjn : j < n := by omega
    have R : ∀ c, c < 10 → ((xs ++ newVar nm).set (n * 10 + 3) (.bool true))[j * 10 + c]? = xs[j * 10 + c]? := fun c hc => by
      rw [List.getElem?_set_ne (by omega), List.getElem?_append_left (by omega)]
    have R0 := R 0 (by omega)
    simp only [Nat.add_zero] at R0
    obtain ⟨h0, h1, h2, h3, h4, h5, ⟨st, h6, h6'⟩, ⟨r, h7⟩, ⟨p, h8⟩, ⟨q, h9⟩⟩ := h.2 j hjn
    exact ⟨R0.trans h0, (R 1 (by omega)).trans h1, (R 2 (by omega)).trans h2, (R 3 (by omega)).trans h3, (R 4 (by omega)).trans h4, (R 5 (by omega)).trans h5, ⟨st, (R 6 (by omega)).trans h6, h6'⟩, ⟨r, (R 7 (by omega)).trans h7⟩, ⟨p, (R 8 (by omega)).trans h8⟩, ⟨q, (R 9 (by omega)).trans h9⟩⟩

theorem After.more {B R : Nat} {s0 : St} {pn : Nat → ByteArray} {w w1 w2 : World} {M : List Sm} (h : After B R s0 pn w M w1) (hg : w1.grownBy w2 none) : After B R s0 pn w M w2 := by
  obtain ⟨nU, kv, tv, ov, xs, m, os, hI, hf, hv, ho⟩ := h
  exact ⟨nU, kv, tv, ov, xs, m, os, hI.more hg, hf.grown hg hI.hB (by simp), hv, ho⟩

def nms (P : List (ByteArray × Nat)) : List ByteArray := P.map (fun x => x.1)
def pnf (P : List (ByteArray × Nat)) : Nat → ByteArray := fun j => ((P[j]?).map (fun x => x.1)).getD ByteArray.empty

theorem StmtAt.to {z B R : Nat} {w wr : World} {v : Value} {x : Sm} (h : StmtAt z R w v x) (ec : ∀ b i, b < z → b ≠ R → wr.cell? ⟨b, i, none⟩ = w.cell? ⟨b, i, none⟩) (hz : z ≤ B) : StmtAt B R wr v x := by
  obtain ⟨r, nm, idb⟩ := x
  obtain ⟨h1, h2, h3, h4⟩ := h
  refine ⟨Nat.lt_of_lt_of_le h1 hz, h2, (ec _ _ h1 h2).trans h3, ?_⟩
  cases r with
  | true =>
    obtain ⟨rb, e1, e2, e3, e4⟩ := h4
    exact ⟨rb, e1, Nat.lt_of_lt_of_le e2 hz, e3, (ec _ _ e2 e3).trans e4⟩
  | false =>
    obtain ⟨ab, lb, e1, e2, e3, e4, e5⟩ := h4
    exact ⟨ab, lb, e1, Nat.lt_of_lt_of_le e2 hz, e3, (ec _ _ e2 e3).trans e4, (ec _ _ e2 e3).trans e5⟩

/-- A parameter's name lies in w. -/
def ParAt (z R : Nat) (w : World) (a : Option Addr) (i : Nat) (x : ByteArray × Nat) : Prop :=
  ∃ pb, a = some ⟨pb, 0, none⟩ ∧ pb < z ∧ pb ≠ R ∧ w.cell? ⟨pb, i, none⟩ = some (.pointer (some ⟨x.2, 0, none⟩)) ∧ x.2 < z ∧ x.2 ≠ R ∧ w.cell? ⟨x.2, 2, none⟩ = some (.string x.1)

theorem make_run {P : Program} (t e : TypeId) (z : Value) (size bytes : Nat) (ht : P.underlying t = some (.slice e)) (hinfo : (P.info? e).map (fun i => (i.zero, i.size, i.bytes)) = some (some z, size, bytes))
    (n : Nat) (hbytes : bytes * n ≤ 281474976710656) (h63 : n ≤ 9223372036854775807) (w : World) :
    (Instr.makeSlice t (.int .i64 (n : Int)) (.int .i64 (n : Int))).run P w = .ok (.slice (some ⟨w.heap.size, 0, none⟩) n n) (w.alloc (.cells (madeCells z.cells (n * size)) e)) := by
  obtain ⟨i, hi, hzz⟩ := Option.map_eq_some_iff.1 hinfo
  simp only [Prod.mk.injEq] at hzz
  obtain ⟨hz, hs, hb⟩ := hzz
  have hb' : (i.bytes : Int) * (n : Int) ≤ 281474976710656 := by
    have h : ((i.bytes * n : Nat) : Int) ≤ 281474976710656 := by rw [hb]; omega
    rwa [Int.natCast_mul] at h
  have hr := run_make (P := P) w t e i z ht hi hz .i64 .i64 n n (by omega) (Int.le_refl _) hb' (by omega)
  simp only [Int.toNat_natCast, hs] at hr
  exact hr
theorem info82 : (Try.prog.info? 82).map (fun i => (i.zero, i.size, i.bytes)) = some (some (.int .u8 0), 1, 1) := by kernel_rfl
theorem make48 (n : Nat) (hn : n ≤ 60000) (w : World) : (Instr.makeSlice 48 (.int .i64 (n : Int)) (.int .i64 (n : Int))).run Try.prog w = .ok (.slice (some ⟨w.heap.size, 0, none⟩) n n) (w.alloc (.cells (madeCells #[.int .u8 0] n) 82)) := by
  have h := make_run (P := Try.prog) 48 82 (.int .u8 0) 1 1 Try.underlying48 info82 n (by omega) (by omega) w
  rw [Nat.mul_one] at h
  exact h

theorem region_any {P : Program} {ops : Array Oper} {Q : Exit → Act → World → Prop} {S : World → Prop} {id : Nat} {a : Act} {w : World} (hm : P.follows .mixedOrders = true) (hS : S w.drew)
    (h : ∀ X, w.grownBy X none → S X → wpAnyH P .any ops Q S ops.size (Array.replicate ops.size false) a X) : (Code.region id ops true).wp P Q a w := wp_region_held_drew hm hS (fun hs => h _ (gdrew w none) hs)

theorem row_kept {w w' : World} {b n : Nat} {t : TypeId} {F : Nat → Value} {row : Option Nat} (h : w.rowIs b t n F) (hg : w.grownBy w' row) (hne : some b ≠ row) : w'.rowIs b t n F := by
  obtain ⟨cs, h1, h2⟩ := h
  exact ⟨cs, blk_kept h1 hg hne, h2⟩

/-- What region 8 of walkFunc leaves. -/
def Made (w5 : World) (z n : Nat) (ids : List Nat) (rb pb lb : Nat) (wc : World) : Prop :=
  w5.grownBy wc none ∧ wc.heap[rb]? = some (.cells #[.map (some (z + 1)), .slice (some ⟨pb, 0, none⟩) n n, .map (some lb)] 51 (0, 0)) ∧ wc.rowIs pb 82 n (fun _ => .int .u8 0) ∧ PMap wc lb ids ∧ w5.heap.size ≤ rb ∧ w5.heap.size ≤ pb ∧ w5.heap.size ≤ lb

theorem Made.mk' {w5 X : World} {z n : Nat} {ids : List Nat} {rb pb lb : Nat} (G : w5.grownBy X none) (fR : w5.heap.size ≤ rb ∧ X.heap[rb]? = some (.cells #[.map none, .slice none 0 0, .map none] 51 (0, 0))) (fP : w5.heap.size ≤ pb ∧ X.rowIs pb 82 n (fun _ => .int .u8 0)) (fL : w5.heap.size ≤ lb ∧ PMap X lb ids) :
    Made w5 z n ids rb pb lb (((X.setCell ⟨rb, 0, none⟩ (.map (some (z + 1)))).setCell ⟨rb, 1, none⟩ (.slice (some ⟨pb, 0, none⟩) n n)).setCell ⟨rb, 2, none⟩ (.map (some lb))) := by
  obtain ⟨f1, f2⟩ := fR
  have g1 := gset X ⟨rb, 0, none⟩ (.map (some (z + 1)))
  have g2 := gset (X.setCell ⟨rb, 0, none⟩ (.map (some (z + 1)))) ⟨rb, 1, none⟩ (.slice (some ⟨pb, 0, none⟩) n n)
  have g3 := gset ((X.setCell ⟨rb, 0, none⟩ (.map (some (z + 1)))).setCell ⟨rb, 1, none⟩ (.slice (some ⟨pb, 0, none⟩) n n)) ⟨rb, 2, none⟩ (.map (some lb))
  have gg := (g1.trans g2).trans g3
  refine ⟨grown_new G gg f1, ?_, ?_, ?_, f1, fP.1, fL.1⟩
  · exact blk_set (blk_set (blk_set f2 0 _) 1 _) 2 _
  · refine row_kept fP.2 gg (fun e => ?_)
    obtain ⟨cs, h1, _⟩ := fP.2
    exact ne_of_tag h1 f2 (by simp [tagOf]) (by simpa using e)
  · refine fL.2.kept gg (fun e => ?_)
    obtain ⟨o, h1, h2⟩ := fL.2.blk
    exact ne_of_tag h1 f2 (by rw [h2]; simp [tagOf]) (by simpa using e)

/-- The walk's start. -/
def W1 (w : World) (R : Nat) : World :=
  (((w.alloc (.cells #[.map none, .slice none 0 0, .map none] 51)).alloc (.map #[] 0)).alloc (.cells #[.map none, .pointer none] 87)).alloc (.cells #[.map (some (w.heap.size + 1)), .pointer (some ⟨w.heap.size + 2, 0, none⟩), .slice none 0 0, .bool false, .int .i64 0, .int .i64 0, .slice none 0 0, .slice none 0 0, .slice none 0 0, .func (.func 22) #[] #[], .map (some R)] 93)

theorem W1_inv {w : World} {R : Nat} {F : ByteArray → Option Value} {k : Nat} (hR : StrMap w R F k) : Inv (w.heap.size + 1) R (S0 w.heap.size (.map none) (.slice none 0 0) (FVp []) 0 []) (W1 w R) ∧ w.grownBy (W1 w R) none ∧ (W1 w R).heap[w.heap.size]? = some (.cells #[.map none, .slice none 0 0, .map none] 51 (0, 0)) := by
  obtain ⟨o, hRo, _⟩ := hR.blk
  have hRlt := lt_of_blk hRo
  have s1 : (w.alloc (.cells #[.map none, .slice none 0 0, .map none] 51)).heap.size = w.heap.size + 1 := by simp
  have s2 : ((w.alloc (.cells #[.map none, .slice none 0 0, .map none] 51)).alloc (.map #[] 0)).heap.size = w.heap.size + 2 := by simp
  have s3 : (((w.alloc (.cells #[.map none, .slice none 0 0, .map none] 51)).alloc (.map #[] 0)).alloc (.cells #[.map none, .pointer none] 87)).heap.size = w.heap.size + 3 := by simp
  have g1 := galloc w (.cells #[.map none, .slice none 0 0, .map none] 51) none
  have g2 := galloc (w.alloc (.cells #[.map none, .slice none 0 0, .map none] 51)) (.map #[] 0) none
  have g3 := galloc ((w.alloc (.cells #[.map none, .slice none 0 0, .map none] 51)).alloc (.map #[] 0)) (.cells #[.map none, .pointer none] 87) none
  have g4 := galloc (((w.alloc (.cells #[.map none, .slice none 0 0, .map none] 51)).alloc (.map #[] 0)).alloc (.cells #[.map none, .pointer none] 87)) (.cells #[.map (some (w.heap.size + 1)), .pointer (some ⟨w.heap.size + 2, 0, none⟩), .slice none 0 0, .bool false, .int .i64 0, .int .i64 0, .slice none 0 0, .slice none 0 0, .slice none 0 0, .func (.func 22) #[] #[], .map (some R)] 93) none
  have gA := ((g1.trans g2).trans g3).trans g4
  have hb0 := (MapKept.heap_alloc w (.cells #[.map none, .slice none 0 0, .map none] 51)).1
  have hU := StrMap.made (w.alloc (.cells #[.map none, .slice none 0 0, .map none] 51))
  rw [s1] at hU
  have hS := (MapKept.heap_alloc ((w.alloc (.cells #[.map none, .slice none 0 0, .map none] 51)).alloc (.map #[] 0)) (.cells #[.map none, .pointer none] 87)).1
  rw [s2] at hS
  have hW := (MapKept.heap_alloc (((w.alloc (.cells #[.map none, .slice none 0 0, .map none] 51)).alloc (.map #[] 0)).alloc (.cells #[.map none, .pointer none] 87)) (.cells #[.map (some (w.heap.size + 1)), .pointer (some ⟨w.heap.size + 2, 0, none⟩), .slice none 0 0, .bool false, .int .i64 0, .int .i64 0, .slice none 0 0, .slice none 0 0, .slice none 0 0, .func (.func 22) #[] #[], .map (some R)] 93)).1
  rw [s3] at hW
  refine ⟨⟨?_, hW, blk_kept hS g4 (by simp), ?_, .inl ⟨rfl, fun t => rfl⟩, ⟨F, k, hR.kept gA (by simp)⟩, ?_, ?_, ?_, ?_, World.ownsRow_nil _ _ _ _, World.ownsRow_nil _ _ _ _, World.ownsRow_nil _ _ _ _, World.ownsRow_nil _ _ _ _⟩, gA, ?_⟩
  · show w.heap.size + 1 ≤ (W1 w R).heap.size
    simp [W1]
  · exact (hU.kept g3 (by simp)).kept g4 (by simp)
  · show w.heap.size + 1 ≤ w.heap.size + 3; omega
  · show w.heap.size + 1 ≤ w.heap.size + 2; omega
  · show w.heap.size + 1 ≤ w.heap.size + 1; omega
  · omega
  · exact blk_kept (blk_kept (blk_kept hb0 g2 (by simp)) g3 (by simp)) g4 (by simp)

set_option maxRecDepth 100000 in
set_option maxHeartbeats 1000000 in
theorem walkFunc_run {w : World} {R : Nat} {F : ByteArray → Option Value} {k : Nat} (hR : StrMap w R F k) (Db Bb : Nat) (pa : Option Addr) (pc : Nat) (P : List (ByteArray × Nat)) (hP : P.length ≤ 60000) (sa : Option Addr) (sc : Nat) (L : List Sm) (hL : L.length ≤ 60000)
    (hD3 : w.cell? ⟨Db, 3, none⟩ = some (.slice pa P.length pc)) (hD4 : w.cell? ⟨Db, 4, none⟩ = some (.pointer (some ⟨Bb, 0, none⟩))) (hDR : Db ≠ R) (hDz : Db < w.heap.size) (hB0 : w.cell? ⟨Bb, 0, none⟩ = some (.slice sa L.length sc)) (hBR : Bb ≠ R) (hBz : Bb < w.heap.size)
    (hPar : ∀ i x, P[i]? = some x → ParAt w.heap.size R w pa i x) (hS : ∀ i x, L[i]? = some x → ∃ sb v, sa = some ⟨sb, 0, none⟩ ∧ sb < w.heap.size ∧ sb ≠ R ∧ w.cell? ⟨sb, i, none⟩ = some v ∧ StmtAt w.heap.size R w v x)
    (hnd : (L.map (·.2.2)).Nodup) (hC : ∀ x ∈ L, ∃ c t, w.heap[x.2.2]? = some (.cells c t (0, 0))) :
    Calls Try.prog 21 #[.pointer (some ⟨Db, 0, none⟩), .func (.func 22) #[] #[], .map (some R)] w fun e w' => ∃ ub pb lb kU, e = .returned (.agg #[.map (some ub), .slice (some ⟨pb, 0, none⟩) P.length P.length, .map (some lb)]) ∧ StrMap w' ub (fU (useF L)) kU ∧ w'.rowIs pb 82 P.length (fun j => .int .u8 ((useF L (pnf P j)).getD 0 : Nat)) ∧ PMap w' lb ((retL (FVp (nms P)) L).map (fun x => x.1)) ∧ Fr w.heap.size R w w' := by
  obtain ⟨hI1, hg1, hb1⟩ := W1_inv hR
  have hRz : R < w.heap.size := by
    obtain ⟨oR, hoR, _⟩ := hR.blk
    exact lt_of_blk hoR
  have hcw : ∀ b i, b < w.heap.size → (W1 w R).cell? ⟨b, i, none⟩ = w.cell? ⟨b, i, none⟩ := fun b i hb => World.cell?_of_block (hg1.block b hb (by simp))
  have d3 : (W1 w R).cell? ⟨Db, 3, none⟩ = some (.slice pa P.length pc) := (hcw _ _ hDz).trans hD3
  have d4 : (W1 w R).cell? ⟨Db, 4, none⟩ = some (.pointer (some ⟨Bb, 0, none⟩)) := (hcw _ _ hDz).trans hD4
  have b0 : (W1 w R).cell? ⟨Bb, 0, none⟩ = some (.slice sa L.length sc) := (hcw _ _ hBz).trans hB0
  obtain ⟨w1, hw1⟩ : ∃ w1, w1 = W1 w R := ⟨_, rfl⟩
  obtain ⟨z, hz⟩ : ∃ z, z = w.heap.size := ⟨_, rfl⟩
  rw [← hw1] at hI1 hg1 hb1 d3 d4 b0
  rw [← hw1] at hcw
  rw [← hz] at hI1 hb1 hDz hBz hcw hRz
  have H0 : Hid (Inv (z + 1) R (S0 z (.map none) (.slice none 0 0) (FVp []) 0 []) w1 ∧ Fr (z + 1) R w1 w1 ∧ VOK 0 0 [] (pnf P)) := ⟨hI1, Fr.refl _ _ _, rfl, fun j hj => by omega⟩
  have HP : Hid (∀ i x, P[i]? = some x → ParAt z R w1 pa i x) := fun i x hx => by
    obtain ⟨pb, h1, h2, h3, h4, h5, h6, h7⟩ := hPar i x hx
    rw [← hz] at h2 h5
    exact ⟨pb, h1, h2, h3, (hcw _ _ h2).trans h4, h5, h6, (hcw _ _ h5).trans h7⟩
  have m0 := @run_makeMap Try.prog
  clear hPar hI1 hR
  clear hD3 hD4 hB0
  go_enter Try.func21, Try.ntmps21
  go_upto_region 2 with fail
  change Code.wp Try.prog _ _ _ (W1 w R)
  rw [← hw1, ← hz]
  have HW := hd hw1
  have HZ := hd hz
  clear hw1 hz m0
  go_wp2
  go_loopg [25] P.length (fun g x wr => ∃ (i : Nat) (vm vv : Value) (xs : List Value), g = P.length - i ∧ i ≤ P.length ∧ x = .int .i64 i ∧ Hid (Inv (z + 1) R (S0 z vm vv (FVp ((nms P).take i)) i xs) wr ∧ Fr (z + 1) R w1 wr ∧ VOK i 0 xs (pnf P)))
  case atStart => exact ⟨0, _, _, _, by omega, by omega, rfl, H0.out⟩
  case round =>
    clear H0
    obtain ⟨i, vm, vv, xs, rfl, hi, rfl, H⟩ := hrel
    by_cases hlt : i < P.length
    · obtain ⟨hI, hf, hv⟩ := H.out
      have hx : P[i]? = some P[i] := List.getElem?_eq_getElem hlt
      obtain ⟨⟨nm, idb⟩, hxe⟩ : ∃ x, P[i] = x := ⟨_, rfl⟩
      rw [hxe] at hx
      obtain ⟨pb, rfl, pbz, pbR, cP, idz, idR, cN⟩ := HP.out i _ hx
      dsimp only at idz idR cN cP
      have eP := cell_fr cP hf (by omega) pbR
      have eN := cell_fr cN hf (by omega) idR
      have ltI : (i : Int) < P.length := by omega
      have CL := hd (declare_any hI nm idb eN (by omega) idR (by show i ≤ 65536; omega))
      have htk : (nms P).take (i + 1) = (nms P).take i ++ [nm] := by rw [List.take_add_one]; unfold nms; rw [List.getElem?_map, hx]; rfl
      have hlen : ((nms P).take i).length = i := by simp [nms]; omega
      have ST : Hid (∀ (g cap : Nat) (vm : Value) (w' : World), Inv (z + 1) R { S0 z vm (.slice (some ⟨g, 0, none⟩) (i + 1) cap) (putN (FVp ((nms P).take i)) nm i) (i + 1) (xs ++ newVar nm) with vm := vm } w' → Fr (z + 1) R wr w' →
          (w'.cell? ⟨g, i * 10 + 3, none⟩ = some (.bool false) ∧ w'.frozen? ⟨g, i * 10 + 3, none⟩ = false) ∧ Hid (Inv (z + 1) R (S0 z vm (.slice (some ⟨g, 0, none⟩) (i + 1) cap) (FVp ((nms P).take (i + 1))) (i + 1) ((xs ++ newVar nm).set (i * 10 + 3) (.bool true))) (w'.setCell ⟨g, i * 10 + 3, none⟩ (.bool true)) ∧ Fr (z + 1) R w1 (w'.setCell ⟨g, i * 10 + 3, none⟩ (.bool true)) ∧ VOK (i + 1) 0 ((xs ++ newVar nm).set (i * 10 + 3) (.bool true)) (pnf P))) := by
        intro g cap vm w' hI' hf'
        have hvr : w'.ownsRow (z + 1) 95 10 (.slice (some ⟨g, 0, none⟩) (i + 1) cap) (i + 1) (xs ++ newVar nm) := hI'.hv
        have hc3 : (xs ++ newVar nm)[i * 10 + 3]? = some (.bool false) := by rw [List.getElem?_append_right (by rw [hv.1]; omega), hv.1, Nat.add_sub_cancel_left]; rfl
        have gB : z + 1 ≤ g := own_blk_ge hvr g rfl
        refine ⟨⟨own_cell hvr hc3, own_free hvr _⟩, ?_, ?_, hv.decl nm (by unfold pnf; rw [hx]; rfl)⟩
        · rw [htk, FVp_snoc, hlen]
          exact hI'.setV (g := g) (cap := cap) rfl (i * 10 + 3) (.bool true)
        · exact (hf.trans hf').grown (gset w' ⟨g, i * 10 + 3, none⟩ (.bool true)) hI'.hB (fun k e => by simp at e; subst e; exact .inl gB)
      clear hI hf hv hx hxe htk hlen H
      go_wp2_with fail
      refine CL.out.mono ?_
      rintro e w5 ⟨g, cap, vm', rfl, hI5, hf5⟩
      obtain ⟨⟨q1, q2⟩, H5⟩ := ST.out g cap vm' w5 hI5 hf5
      clear hI5 hf5 CL ST
      dsimp only [S0]
      go_wp2
      go_roundg (P.length - (i + 1))
      case measure => omega
      case rel => exact ⟨i + 1, _, _, _, rfl, hlt, rfl, H5.out⟩
    · have e : i = P.length := by omega
      subst e
      obtain ⟨hI, hf, hv⟩ := H.out
      have ecw : ∀ b i, b < z → b ≠ R → wr.cell? ⟨b, i, none⟩ = w.cell? ⟨b, i, none⟩ := fun b i hb hbR => (World.cell?_of_block (hf.block b (by omega) hbR)).trans (hcw b i hb)
      have e4 := cell_fr d4 hf (by omega) hDR
      have eb := cell_fr b0 hf (by omega) hBR
      have hFV : ∀ nm j, (S0 z vm vv (FVp (nms P)) P.length xs).FV nm = some j → j < P.length ∧ pnf P j = nm := fun nm j hj => by
        obtain ⟨h1, h2⟩ := FVp_some _ nm j hj
        unfold nms at h2
        rw [List.getElem?_map] at h2
        exact ⟨by simpa [nms] using h1, by unfold pnf; rw [h2]; rfl⟩
      have eT : (nms P).take P.length = nms P := List.take_of_length_le (by simp [nms])
      rw [eT] at hI
      have CL := hd (stmts_run (s0 := S0 z vm vv (FVp (nms P)) P.length xs) (pn := pnf P) (nU0 := 0) (kv0 := .slice none 0 0) (tv0 := .slice none 0 0) (ov0 := .slice none 0 0) (xs0 := xs) hI hv (by show P.length ≤ 65536; omega) (fun nm j hj => (hFV nm j hj).1) L hL sa sc (fun i x hx => by
        obtain ⟨sb, v, h1, h2, h3, h4, h5⟩ := hS i x hx
        rw [← HZ.out] at h2 h5
        exact ⟨sb, v, h1, by omega, h3, (ecw _ _ h2 h3).trans h4, h5.to ecw (by omega)⟩))
      have GF := hd hf
      have HC := hd (show ∀ x ∈ L, ∃ c t, w1.heap[x.2.2]? = some (.cells c t (0, 0)) from fun x hx => by
        obtain ⟨c, t, h⟩ := hC x hx
        exact ⟨c, t, blk_kept h hg1 (by simp)⟩)
      have HB := hd (show ∀ x ∈ L, x.2.2 < z ∧ x.2.2 ≠ R from fun x hx => by
        obtain ⟨i, hi⟩ := List.mem_iff_getElem?.1 hx
        obtain ⟨sb, v, _, _, _, _, h5⟩ := hS i x hi
        rw [← HZ.out] at h5
        exact ⟨h5.1, h5.2.1⟩)
      have GV := hd hFV
      clear hI hf hv H ecw hcw hS hC
      go_wp2_with fail
      refine CL.out.mono ?_
      rintro e w5 ⟨rfl, hA5⟩
      have HA := hd hA5
      clear hA5 CL
      have SX : Hid (∀ X, w5.grownBy X none → X.cell? ⟨z + 1 + 1 + 1, 0, none⟩ = some (.map (some (z + 1))) ∧ X.cell? ⟨Db, 3, none⟩ = some (.slice pa P.length pc)) := fun X hX => by
        obtain ⟨nU, kv, tv, ov, xs, m, os, hI, hf, _⟩ := HA.out.more hX
        exact ⟨cell_blk hI.hW 0, cell_fr (cell_fr d3 GF.out (by omega) hDR) hf (by omega) hDR⟩
      have HC5 : Hid (∀ X, w5.grownBy X none → ∀ x ∈ L, ∃ c t, X.heap[x.2.2]? = some (.cells c t (0, 0))) := fun X hX x hx => by
        obtain ⟨nU, kv, tv, ov, xs, m, os, hI, hf, _⟩ := HA.out.more hX
        obtain ⟨c, t, h⟩ := HC.out x hx
        obtain ⟨hb, hr⟩ := HB.out x hx
        exact ⟨c, t, blk_fr (blk_fr h GF.out (by omega) hr) hf (by omega) hr⟩
      have hmk := make48 P.length hP
      go_upto_region 8 with fail
      go_cut [10] from 44 (fun p wc => ∃ rb pb lb, p = .pointer (some ⟨rb, 0, none⟩) ∧ Hid (Made w5 z P.length ((retL (FVp (nms P)) L).map (fun x => x.1)) rb pb lb wc))
      case first =>
        obtain ⟨s1, s2⟩ := SX.out w5 (grefl w5 none)
        refine region_any (S := fun X => X.cell? ⟨z + 1 + 1 + 1, 0, none⟩ = some (.map (some (z + 1))) ∧ X.cell? ⟨Db, 3, none⟩ = some (.slice pa P.length pc)) (by kernel_rfl) (by exact SX.out _ (gdrew w5 none)) (fun X0 gX0 hHeld => ?_)
        have G0 : Hid (w5.grownBy X0 none) := gX0
        clear gX0
        refine wpAnyH_take (i := 0) (v := ?v0) rfl (by kernel_rfl) (by kernel_rfl) (by kernel_rfl) (fun _ _ _ h => h) (Or.inl ⟨by rfl, ?y0⟩) (by assumption) ?r0
        case y0 => intro w hSw; (try dsimp only at hSw); go_simp; try with_reducible rfl
        simp only [Act.put, List.setIfInBounds_toArray, List.set_cons_zero, List.set_cons_succ]
        refine wpAnyH_take (i := 1) (v := ?v1) rfl (by kernel_rfl) (by kernel_rfl) (by kernel_rfl) (fun _ _ _ h => h) (Or.inl ⟨by rfl, ?y1⟩) (by assumption) ?r1
        case y1 => intro w hSw; (try dsimp only at hSw); go_simp; try with_reducible rfl
        simp only [Act.put, List.setIfInBounds_toArray, List.set_cons_zero, List.set_cons_succ]
        refine wpAnyH_take (i := 2) (v := ?v2) rfl (by kernel_rfl) (by kernel_rfl) (by kernel_rfl) (fun _ _ _ h => h) (Or.inl ⟨by rfl, ?y2⟩) (by assumption) ?r2
        case y2 => intro w hSw; (try dsimp only at hSw); go_simp; try with_reducible rfl
        simp only [Act.put, List.setIfInBounds_toArray, List.set_cons_zero, List.set_cons_succ]
        refine wpAnyH_take (i := 3) (v := ?v3) rfl (by kernel_rfl) (by kernel_rfl) (by kernel_rfl) (fun _ _ _ h => h) (Or.inl ⟨by rfl, ?y3⟩) (by assumption) ?r3
        case y3 => intro w hSw; (try dsimp only at hSw); go_simp; try with_reducible rfl
        simp only [Act.put, List.setIfInBounds_toArray, List.set_cons_zero, List.set_cons_succ]
        refine wpAnyH_take (i := 4) (v := ?v4) rfl (by kernel_rfl) (by kernel_rfl) (by kernel_rfl) (fun _ _ _ h => h) (Or.inl ⟨by rfl, ?y4⟩) (by assumption) ?r4
        case y4 => intro w hSw; (try dsimp only at hSw); go_simp; try with_reducible rfl
        simp only [Act.put, List.setIfInBounds_toArray, List.set_cons_zero, List.set_cons_succ]
        refine wpAnyH_take (i := 5) (v := ?v5) rfl (by kernel_rfl) (by kernel_rfl) (by kernel_rfl) (fun _ _ _ h => h) (Or.inl ⟨by rfl, ?y5⟩) (by assumption) ?r5
        case y5 => intro w hSw; (try dsimp only at hSw); go_simp; try with_reducible rfl
        simp only [Act.put, List.setIfInBounds_toArray, List.set_cons_zero, List.set_cons_succ]
        refine wpAnyH_take (i := 6) (v := ?v6) rfl (by kernel_rfl) (by kernel_rfl) (by kernel_rfl) (fun _ _ _ h => h) (Or.inl ⟨by rfl, ?y6⟩) (by assumption) ?r6
        case y6 => intro w hSw; (try dsimp only at hSw); go_simp; try with_reducible rfl
        simp only [Act.put, List.setIfInBounds_toArray, List.set_cons_zero, List.set_cons_succ]
        refine wpAnyH_take (i := 7) (v := ?v7) rfl (by kernel_rfl) (by kernel_rfl) (by kernel_rfl) (fun _ _ _ h => h) (Or.inl ⟨by rfl, ?y7⟩) (by assumption) ?r7
        case y7 => intro w hSw; (try dsimp only at hSw); go_simp; try with_reducible rfl
        simp only [Act.put, List.setIfInBounds_toArray, List.set_cons_zero, List.set_cons_succ]
        refine wpAnyH_take (i := 8) (v := ?v8) rfl (by kernel_rfl) (by kernel_rfl) (by kernel_rfl) (fun _ _ _ h => h) (Or.inl ⟨by rfl, ?y8⟩) (by assumption) ?r8
        case y8 => intro w hSw; (try dsimp only at hSw); go_simp; try with_reducible rfl
        simp only [Act.put, List.setIfInBounds_toArray, List.set_cons_zero, List.set_cons_succ]
        refine wpAnyH_take (i := 10) (v := ?v10) rfl (by kernel_rfl) (by kernel_rfl) (by kernel_rfl) (fun _ _ _ h => h) (Or.inl ⟨by rfl, ?y10⟩) (by assumption) ?r10
        case y10 => intro w hSw; (try dsimp only at hSw); go_simp; try with_reducible rfl
        simp only [Act.put, List.setIfInBounds_toArray, List.set_cons_zero, List.set_cons_succ]
        clear s1 s2
        refine wpAnyH_ready (rs := [9, 11, 13]) (by kernel_rfl) (by simp) ?_
        refine (AllReadyH.cons rfl (fun K hK => ?_) (AllReadyH.cons rfl (fun K hK => ?_) (AllReadyH.cons rfl (fun K hK => ?_) AllReadyH.nil)))
        · go_simp
          refine hK.out _ _ (SX.out _ (G0.out.trans (galloc X0 (Obj.cells (madeCells #[.int .u8 0] P.length) 82) none))) (fun hHeld => ?_)
          clear hK K hHeld
          obtain ⟨pb, hpb⟩ : ∃ b, b = X0.heap.size := ⟨_, rfl⟩
          obtain ⟨X1, hX1⟩ : ∃ Y, Y = X0.alloc (Obj.cells (madeCells #[.int .u8 0] P.length) 82) := ⟨_, rfl⟩
          rw [← hX1, ← hpb]
          have gg : X0.grownBy X1 none := by rw [hX1]; exact galloc X0 (Obj.cells (madeCells #[.int .u8 0] P.length) 82) none
          have G1 : Hid (w5.grownBy X1 none) := G0.out.trans gg
          have fP : Hid (w5.heap.size ≤ pb ∧ X1.rowIs pb 82 P.length (fun _ => .int .u8 0)) := ⟨by rw [hpb]; exact G0.out.size, by rw [hX1, hpb]; exact World.rowIs_made X0 (.int .u8 0) P.length 82⟩
          have hHeld := SX.out X1 G1.out
          clear hX1 hpb gg
          refine wpAnyH_ready (rs := [11, 13]) (by kernel_rfl) (by simp) ?_
          refine (AllReadyH.cons rfl (fun K hK => ?_) (AllReadyH.cons rfl (fun K hK => ?_) AllReadyH.nil))
          · go_simp
            go_wp2_with fail
            refine (last_run (HA.out.more G1.out) GV.out hL hnd (HC5.out X1 G1.out)).mono ?_
            rintro e X2 ⟨lb, rfl, hPM, gg, hlb⟩
            have G2 : Hid (w5.grownBy X2 none) := G1.out.trans gg
            have fP : Hid (w5.heap.size ≤ pb ∧ X2.rowIs pb 82 P.length (fun _ => .int .u8 0)) := ⟨fP.out.1, row_kept fP.out.2 gg (by simp)⟩
            have fL : Hid (w5.heap.size ≤ lb ∧ PMap X2 lb ((retL (FVp (nms P)) L).map (fun x => x.1))) := ⟨Nat.le_trans G1.out.size hlb, hPM⟩
            clear hPM gg hlb
            have hHeld' := hd (SX.out X2 G2.out)
            go_wp2
            refine hK.out _ _ hHeld'.out (fun hHeld => ?_)
            clear hK K
            refine wpAnyH_take (i := 12) (v := ?v12_1) rfl (by kernel_rfl) (by kernel_rfl) (by kernel_rfl) (fun _ _ _ h => h) (Or.inl ⟨by rfl, ?y12_1⟩) (by assumption) ?r12_1
            case y12_1 => intro w hSw; (try dsimp only at hSw); go_simp; try with_reducible rfl
            simp only [Act.put, List.setIfInBounds_toArray, List.set_cons_zero, List.set_cons_succ]
            refine wpAnyH_ready (rs := [13]) (by kernel_rfl) (by simp) ?_
            refine (AllReadyH.cons rfl (fun K hK => ?_) AllReadyH.nil)
            · go_simp
              refine hK.out _ _ (SX.out _ (G2.out.trans (galloc X2 (Obj.cells #[.map none, .slice none 0 0, .map none] 51) none))) (fun hHeld => ?_)
              clear hK K hHeld
              obtain ⟨rb, hrb⟩ : ∃ b, b = X2.heap.size := ⟨_, rfl⟩
              obtain ⟨X3, hX3⟩ : ∃ Y, Y = X2.alloc (Obj.cells #[.map none, .slice none 0 0, .map none] 51) := ⟨_, rfl⟩
              rw [← hX3, ← hrb]
              have gg : X2.grownBy X3 none := by rw [hX3]; exact galloc X2 (Obj.cells #[.map none, .slice none 0 0, .map none] 51) none
              have G3 : Hid (w5.grownBy X3 none) := G2.out.trans gg
              have fP : Hid (w5.heap.size ≤ pb ∧ X3.rowIs pb 82 P.length (fun _ => .int .u8 0)) := ⟨fP.out.1, row_kept fP.out.2 gg (by simp)⟩
              have fL : Hid (w5.heap.size ≤ lb ∧ PMap X3 lb ((retL (FVp (nms P)) L).map (fun x => x.1))) := ⟨fL.out.1, fL.out.2.kept gg (by simp)⟩
              have fR : Hid (w5.heap.size ≤ rb ∧ X3.heap[rb]? = some (Obj.cells #[.map none, .slice none 0 0, .map none] 51)) := ⟨by rw [hrb]; exact G2.out.size, by rw [hX3, hrb]; exact (MapKept.heap_alloc X2 (Obj.cells #[.map none, .slice none 0 0, .map none] 51)).1⟩
              have hHeld := SX.out X3 G3.out
              clear hX3 hrb gg
              have f0 : X3.cell? ⟨rb, 0, none⟩ = some (.map none) := cell_blk fR.out.2 0
              have f1 : X3.cell? ⟨rb, 1, none⟩ = some (.slice none 0 0) := cell_blk fR.out.2 1
              have f2 : X3.cell? ⟨rb, 2, none⟩ = some (.map none) := cell_blk fR.out.2 2
              have u0 : X3.frozen? ⟨rb, 0, none⟩ = false := free_blk fR.out.2 0
              have u1 : X3.frozen? ⟨rb, 1, none⟩ = false := free_blk fR.out.2 1
              have u2 : X3.frozen? ⟨rb, 2, none⟩ = false := free_blk fR.out.2 2
              have MD := hd (Made.mk' (z := z) G3.out fR.out fP.out fL.out)
              refine wpAnyH_ready (rs := [14]) (by kernel_rfl) (by simp) ?_
              refine AllReadyH.cons rfl (fun K hK => ?_) AllReadyH.nil
              go_simp
              refine hK.out _ _ (SX.out _ MD.out.1) (fun hHeld => ?_)
              clear hK K
              refine wpAnyH_done (by kernel_rfl) ?_ _
              clear hHeld f0 f1 f2 u0 u1 u2
              go_wp2
              go_meet
              exact ⟨rb, pb, lb, rfl, MD⟩
          · go_simp
            refine hK.out _ _ (SX.out _ (G1.out.trans (galloc X1 (Obj.cells #[.map none, .slice none 0 0, .map none] 51) none))) (fun hHeld => ?_)
            clear hK K hHeld
            obtain ⟨rb, hrb⟩ : ∃ b, b = X1.heap.size := ⟨_, rfl⟩
            obtain ⟨X2, hX2⟩ : ∃ Y, Y = X1.alloc (Obj.cells #[.map none, .slice none 0 0, .map none] 51) := ⟨_, rfl⟩
            rw [← hX2, ← hrb]
            have gg : X1.grownBy X2 none := by rw [hX2]; exact galloc X1 (Obj.cells #[.map none, .slice none 0 0, .map none] 51) none
            have G2 : Hid (w5.grownBy X2 none) := G1.out.trans gg
            have fP : Hid (w5.heap.size ≤ pb ∧ X2.rowIs pb 82 P.length (fun _ => .int .u8 0)) := ⟨fP.out.1, row_kept fP.out.2 gg (by simp)⟩
            have fR : Hid (w5.heap.size ≤ rb ∧ X2.heap[rb]? = some (Obj.cells #[.map none, .slice none 0 0, .map none] 51)) := ⟨by rw [hrb]; exact G1.out.size, by rw [hX2, hrb]; exact (MapKept.heap_alloc X1 (Obj.cells #[.map none, .slice none 0 0, .map none] 51)).1⟩
            have hHeld := SX.out X2 G2.out
            clear hX2 hrb gg
            refine wpAnyH_ready (rs := [11]) (by kernel_rfl) (by simp) ?_
            refine (AllReadyH.cons rfl (fun K hK => ?_) AllReadyH.nil)
            · go_simp
              go_wp2_with fail
              refine (last_run (HA.out.more G2.out) GV.out hL hnd (HC5.out X2 G2.out)).mono ?_
              rintro e X3 ⟨lb, rfl, hPM, gg, hlb⟩
              have G3 : Hid (w5.grownBy X3 none) := G2.out.trans gg
              have fP : Hid (w5.heap.size ≤ pb ∧ X3.rowIs pb 82 P.length (fun _ => .int .u8 0)) := ⟨fP.out.1, row_kept fP.out.2 gg (by simp)⟩
              have fR : Hid (w5.heap.size ≤ rb ∧ X3.heap[rb]? = some (Obj.cells #[.map none, .slice none 0 0, .map none] 51)) := ⟨fR.out.1, blk_kept fR.out.2 gg (by simp)⟩
              have fL : Hid (w5.heap.size ≤ lb ∧ PMap X3 lb ((retL (FVp (nms P)) L).map (fun x => x.1))) := ⟨Nat.le_trans G2.out.size hlb, hPM⟩
              clear hPM gg hlb
              have hHeld' := hd (SX.out X3 G3.out)
              go_wp2
              refine hK.out _ _ hHeld'.out (fun hHeld => ?_)
              clear hK K
              refine wpAnyH_take (i := 12) (v := ?v12_2) rfl (by kernel_rfl) (by kernel_rfl) (by kernel_rfl) (fun _ _ _ h => h) (Or.inl ⟨by rfl, ?y12_2⟩) (by assumption) ?r12_2
              case y12_2 => intro w hSw; (try dsimp only at hSw); go_simp; try with_reducible rfl
              simp only [Act.put, List.setIfInBounds_toArray, List.set_cons_zero, List.set_cons_succ]
              have f0 : X3.cell? ⟨rb, 0, none⟩ = some (.map none) := cell_blk fR.out.2 0
              have f1 : X3.cell? ⟨rb, 1, none⟩ = some (.slice none 0 0) := cell_blk fR.out.2 1
              have f2 : X3.cell? ⟨rb, 2, none⟩ = some (.map none) := cell_blk fR.out.2 2
              have u0 : X3.frozen? ⟨rb, 0, none⟩ = false := free_blk fR.out.2 0
              have u1 : X3.frozen? ⟨rb, 1, none⟩ = false := free_blk fR.out.2 1
              have u2 : X3.frozen? ⟨rb, 2, none⟩ = false := free_blk fR.out.2 2
              have MD := hd (Made.mk' (z := z) G3.out fR.out fP.out fL.out)
              refine wpAnyH_ready (rs := [14]) (by kernel_rfl) (by simp) ?_
              refine AllReadyH.cons rfl (fun K hK => ?_) AllReadyH.nil
              go_simp
              refine hK.out _ _ (SX.out _ MD.out.1) (fun hHeld => ?_)
              clear hK K
              refine wpAnyH_done (by kernel_rfl) ?_ _
              clear hHeld f0 f1 f2 u0 u1 u2
              go_wp2
              go_meet
              exact ⟨rb, pb, lb, rfl, MD⟩
        · go_simp
          go_wp2_with fail
          refine (last_run (HA.out.more G0.out) GV.out hL hnd (HC5.out X0 G0.out)).mono ?_
          rintro e X1 ⟨lb, rfl, hPM, gg, hlb⟩
          have G1 : Hid (w5.grownBy X1 none) := G0.out.trans gg
          have fL : Hid (w5.heap.size ≤ lb ∧ PMap X1 lb ((retL (FVp (nms P)) L).map (fun x => x.1))) := ⟨Nat.le_trans G0.out.size hlb, hPM⟩
          clear hPM gg hlb
          have hHeld' := hd (SX.out X1 G1.out)
          go_wp2
          refine hK.out _ _ hHeld'.out (fun hHeld => ?_)
          clear hK K
          refine wpAnyH_ready (rs := [9, 13]) (by kernel_rfl) (by simp) ?_
          refine (AllReadyH.cons rfl (fun K hK => ?_) (AllReadyH.cons rfl (fun K hK => ?_) AllReadyH.nil))
          · go_simp
            refine hK.out _ _ (SX.out _ (G1.out.trans (galloc X1 (Obj.cells (madeCells #[.int .u8 0] P.length) 82) none))) (fun hHeld => ?_)
            clear hK K hHeld
            obtain ⟨pb, hpb⟩ : ∃ b, b = X1.heap.size := ⟨_, rfl⟩
            obtain ⟨X2, hX2⟩ : ∃ Y, Y = X1.alloc (Obj.cells (madeCells #[.int .u8 0] P.length) 82) := ⟨_, rfl⟩
            rw [← hX2, ← hpb]
            have gg : X1.grownBy X2 none := by rw [hX2]; exact galloc X1 (Obj.cells (madeCells #[.int .u8 0] P.length) 82) none
            have G2 : Hid (w5.grownBy X2 none) := G1.out.trans gg
            have fL : Hid (w5.heap.size ≤ lb ∧ PMap X2 lb ((retL (FVp (nms P)) L).map (fun x => x.1))) := ⟨fL.out.1, fL.out.2.kept gg (by simp)⟩
            have fP : Hid (w5.heap.size ≤ pb ∧ X2.rowIs pb 82 P.length (fun _ => .int .u8 0)) := ⟨by rw [hpb]; exact G1.out.size, by rw [hX2, hpb]; exact World.rowIs_made X1 (.int .u8 0) P.length 82⟩
            have hHeld := SX.out X2 G2.out
            clear hX2 hpb gg
            refine wpAnyH_take (i := 12) (v := ?v12_3) rfl (by kernel_rfl) (by kernel_rfl) (by kernel_rfl) (fun _ _ _ h => h) (Or.inl ⟨by rfl, ?y12_3⟩) (by assumption) ?r12_3
            case y12_3 => intro w hSw; (try dsimp only at hSw); go_simp; try with_reducible rfl
            simp only [Act.put, List.setIfInBounds_toArray, List.set_cons_zero, List.set_cons_succ]
            refine wpAnyH_ready (rs := [13]) (by kernel_rfl) (by simp) ?_
            refine (AllReadyH.cons rfl (fun K hK => ?_) AllReadyH.nil)
            · go_simp
              refine hK.out _ _ (SX.out _ (G2.out.trans (galloc X2 (Obj.cells #[.map none, .slice none 0 0, .map none] 51) none))) (fun hHeld => ?_)
              clear hK K hHeld
              obtain ⟨rb, hrb⟩ : ∃ b, b = X2.heap.size := ⟨_, rfl⟩
              obtain ⟨X3, hX3⟩ : ∃ Y, Y = X2.alloc (Obj.cells #[.map none, .slice none 0 0, .map none] 51) := ⟨_, rfl⟩
              rw [← hX3, ← hrb]
              have gg : X2.grownBy X3 none := by rw [hX3]; exact galloc X2 (Obj.cells #[.map none, .slice none 0 0, .map none] 51) none
              have G3 : Hid (w5.grownBy X3 none) := G2.out.trans gg
              have fP : Hid (w5.heap.size ≤ pb ∧ X3.rowIs pb 82 P.length (fun _ => .int .u8 0)) := ⟨fP.out.1, row_kept fP.out.2 gg (by simp)⟩
              have fL : Hid (w5.heap.size ≤ lb ∧ PMap X3 lb ((retL (FVp (nms P)) L).map (fun x => x.1))) := ⟨fL.out.1, fL.out.2.kept gg (by simp)⟩
              have fR : Hid (w5.heap.size ≤ rb ∧ X3.heap[rb]? = some (Obj.cells #[.map none, .slice none 0 0, .map none] 51)) := ⟨by rw [hrb]; exact G2.out.size, by rw [hX3, hrb]; exact (MapKept.heap_alloc X2 (Obj.cells #[.map none, .slice none 0 0, .map none] 51)).1⟩
              have hHeld := SX.out X3 G3.out
              clear hX3 hrb gg
              have f0 : X3.cell? ⟨rb, 0, none⟩ = some (.map none) := cell_blk fR.out.2 0
              have f1 : X3.cell? ⟨rb, 1, none⟩ = some (.slice none 0 0) := cell_blk fR.out.2 1
              have f2 : X3.cell? ⟨rb, 2, none⟩ = some (.map none) := cell_blk fR.out.2 2
              have u0 : X3.frozen? ⟨rb, 0, none⟩ = false := free_blk fR.out.2 0
              have u1 : X3.frozen? ⟨rb, 1, none⟩ = false := free_blk fR.out.2 1
              have u2 : X3.frozen? ⟨rb, 2, none⟩ = false := free_blk fR.out.2 2
              have MD := hd (Made.mk' (z := z) G3.out fR.out fP.out fL.out)
              refine wpAnyH_ready (rs := [14]) (by kernel_rfl) (by simp) ?_
              refine AllReadyH.cons rfl (fun K hK => ?_) AllReadyH.nil
              go_simp
              refine hK.out _ _ (SX.out _ MD.out.1) (fun hHeld => ?_)
              clear hK K
              refine wpAnyH_done (by kernel_rfl) ?_ _
              clear hHeld f0 f1 f2 u0 u1 u2
              go_wp2
              go_meet
              exact ⟨rb, pb, lb, rfl, MD⟩
          · go_simp
            refine hK.out _ _ (SX.out _ (G1.out.trans (galloc X1 (Obj.cells #[.map none, .slice none 0 0, .map none] 51) none))) (fun hHeld => ?_)
            clear hK K hHeld
            obtain ⟨rb, hrb⟩ : ∃ b, b = X1.heap.size := ⟨_, rfl⟩
            obtain ⟨X2, hX2⟩ : ∃ Y, Y = X1.alloc (Obj.cells #[.map none, .slice none 0 0, .map none] 51) := ⟨_, rfl⟩
            rw [← hX2, ← hrb]
            have gg : X1.grownBy X2 none := by rw [hX2]; exact galloc X1 (Obj.cells #[.map none, .slice none 0 0, .map none] 51) none
            have G2 : Hid (w5.grownBy X2 none) := G1.out.trans gg
            have fL : Hid (w5.heap.size ≤ lb ∧ PMap X2 lb ((retL (FVp (nms P)) L).map (fun x => x.1))) := ⟨fL.out.1, fL.out.2.kept gg (by simp)⟩
            have fR : Hid (w5.heap.size ≤ rb ∧ X2.heap[rb]? = some (Obj.cells #[.map none, .slice none 0 0, .map none] 51)) := ⟨by rw [hrb]; exact G1.out.size, by rw [hX2, hrb]; exact (MapKept.heap_alloc X1 (Obj.cells #[.map none, .slice none 0 0, .map none] 51)).1⟩
            have hHeld := SX.out X2 G2.out
            clear hX2 hrb gg
            refine wpAnyH_ready (rs := [9]) (by kernel_rfl) (by simp) ?_
            refine (AllReadyH.cons rfl (fun K hK => ?_) AllReadyH.nil)
            · go_simp
              refine hK.out _ _ (SX.out _ (G2.out.trans (galloc X2 (Obj.cells (madeCells #[.int .u8 0] P.length) 82) none))) (fun hHeld => ?_)
              clear hK K hHeld
              obtain ⟨pb, hpb⟩ : ∃ b, b = X2.heap.size := ⟨_, rfl⟩
              obtain ⟨X3, hX3⟩ : ∃ Y, Y = X2.alloc (Obj.cells (madeCells #[.int .u8 0] P.length) 82) := ⟨_, rfl⟩
              rw [← hX3, ← hpb]
              have gg : X2.grownBy X3 none := by rw [hX3]; exact galloc X2 (Obj.cells (madeCells #[.int .u8 0] P.length) 82) none
              have G3 : Hid (w5.grownBy X3 none) := G2.out.trans gg
              have fL : Hid (w5.heap.size ≤ lb ∧ PMap X3 lb ((retL (FVp (nms P)) L).map (fun x => x.1))) := ⟨fL.out.1, fL.out.2.kept gg (by simp)⟩
              have fR : Hid (w5.heap.size ≤ rb ∧ X3.heap[rb]? = some (Obj.cells #[.map none, .slice none 0 0, .map none] 51)) := ⟨fR.out.1, blk_kept fR.out.2 gg (by simp)⟩
              have fP : Hid (w5.heap.size ≤ pb ∧ X3.rowIs pb 82 P.length (fun _ => .int .u8 0)) := ⟨by rw [hpb]; exact G2.out.size, by rw [hX3, hpb]; exact World.rowIs_made X2 (.int .u8 0) P.length 82⟩
              have hHeld := SX.out X3 G3.out
              clear hX3 hpb gg
              refine wpAnyH_take (i := 12) (v := ?v12_4) rfl (by kernel_rfl) (by kernel_rfl) (by kernel_rfl) (fun _ _ _ h => h) (Or.inl ⟨by rfl, ?y12_4⟩) (by assumption) ?r12_4
              case y12_4 => intro w hSw; (try dsimp only at hSw); go_simp; try with_reducible rfl
              simp only [Act.put, List.setIfInBounds_toArray, List.set_cons_zero, List.set_cons_succ]
              have f0 : X3.cell? ⟨rb, 0, none⟩ = some (.map none) := cell_blk fR.out.2 0
              have f1 : X3.cell? ⟨rb, 1, none⟩ = some (.slice none 0 0) := cell_blk fR.out.2 1
              have f2 : X3.cell? ⟨rb, 2, none⟩ = some (.map none) := cell_blk fR.out.2 2
              have u0 : X3.frozen? ⟨rb, 0, none⟩ = false := free_blk fR.out.2 0
              have u1 : X3.frozen? ⟨rb, 1, none⟩ = false := free_blk fR.out.2 1
              have u2 : X3.frozen? ⟨rb, 2, none⟩ = false := free_blk fR.out.2 2
              have MD := hd (Made.mk' (z := z) G3.out fR.out fP.out fL.out)
              refine wpAnyH_ready (rs := [14]) (by kernel_rfl) (by simp) ?_
              refine AllReadyH.cons rfl (fun K hK => ?_) AllReadyH.nil
              go_simp
              refine hK.out _ _ (SX.out _ MD.out.1) (fun hHeld => ?_)
              clear hK K
              refine wpAnyH_done (by kernel_rfl) ?_ _
              clear hHeld f0 f1 f2 u0 u1 u2
              go_wp2
              go_meet
              exact ⟨rb, pb, lb, rfl, MD⟩
        · go_simp
          refine hK.out _ _ (SX.out _ (G0.out.trans (galloc X0 (Obj.cells #[.map none, .slice none 0 0, .map none] 51) none))) (fun hHeld => ?_)
          clear hK K hHeld
          obtain ⟨rb, hrb⟩ : ∃ b, b = X0.heap.size := ⟨_, rfl⟩
          obtain ⟨X1, hX1⟩ : ∃ Y, Y = X0.alloc (Obj.cells #[.map none, .slice none 0 0, .map none] 51) := ⟨_, rfl⟩
          rw [← hX1, ← hrb]
          have gg : X0.grownBy X1 none := by rw [hX1]; exact galloc X0 (Obj.cells #[.map none, .slice none 0 0, .map none] 51) none
          have G1 : Hid (w5.grownBy X1 none) := G0.out.trans gg
          have fR : Hid (w5.heap.size ≤ rb ∧ X1.heap[rb]? = some (Obj.cells #[.map none, .slice none 0 0, .map none] 51)) := ⟨by rw [hrb]; exact G0.out.size, by rw [hX1, hrb]; exact (MapKept.heap_alloc X0 (Obj.cells #[.map none, .slice none 0 0, .map none] 51)).1⟩
          have hHeld := SX.out X1 G1.out
          clear hX1 hrb gg
          refine wpAnyH_ready (rs := [9, 11]) (by kernel_rfl) (by simp) ?_
          refine (AllReadyH.cons rfl (fun K hK => ?_) (AllReadyH.cons rfl (fun K hK => ?_) AllReadyH.nil))
          · go_simp
            refine hK.out _ _ (SX.out _ (G1.out.trans (galloc X1 (Obj.cells (madeCells #[.int .u8 0] P.length) 82) none))) (fun hHeld => ?_)
            clear hK K hHeld
            obtain ⟨pb, hpb⟩ : ∃ b, b = X1.heap.size := ⟨_, rfl⟩
            obtain ⟨X2, hX2⟩ : ∃ Y, Y = X1.alloc (Obj.cells (madeCells #[.int .u8 0] P.length) 82) := ⟨_, rfl⟩
            rw [← hX2, ← hpb]
            have gg : X1.grownBy X2 none := by rw [hX2]; exact galloc X1 (Obj.cells (madeCells #[.int .u8 0] P.length) 82) none
            have G2 : Hid (w5.grownBy X2 none) := G1.out.trans gg
            have fR : Hid (w5.heap.size ≤ rb ∧ X2.heap[rb]? = some (Obj.cells #[.map none, .slice none 0 0, .map none] 51)) := ⟨fR.out.1, blk_kept fR.out.2 gg (by simp)⟩
            have fP : Hid (w5.heap.size ≤ pb ∧ X2.rowIs pb 82 P.length (fun _ => .int .u8 0)) := ⟨by rw [hpb]; exact G1.out.size, by rw [hX2, hpb]; exact World.rowIs_made X1 (.int .u8 0) P.length 82⟩
            have hHeld := SX.out X2 G2.out
            clear hX2 hpb gg
            refine wpAnyH_ready (rs := [11]) (by kernel_rfl) (by simp) ?_
            refine (AllReadyH.cons rfl (fun K hK => ?_) AllReadyH.nil)
            · go_simp
              go_wp2_with fail
              refine (last_run (HA.out.more G2.out) GV.out hL hnd (HC5.out X2 G2.out)).mono ?_
              rintro e X3 ⟨lb, rfl, hPM, gg, hlb⟩
              have G3 : Hid (w5.grownBy X3 none) := G2.out.trans gg
              have fP : Hid (w5.heap.size ≤ pb ∧ X3.rowIs pb 82 P.length (fun _ => .int .u8 0)) := ⟨fP.out.1, row_kept fP.out.2 gg (by simp)⟩
              have fR : Hid (w5.heap.size ≤ rb ∧ X3.heap[rb]? = some (Obj.cells #[.map none, .slice none 0 0, .map none] 51)) := ⟨fR.out.1, blk_kept fR.out.2 gg (by simp)⟩
              have fL : Hid (w5.heap.size ≤ lb ∧ PMap X3 lb ((retL (FVp (nms P)) L).map (fun x => x.1))) := ⟨Nat.le_trans G2.out.size hlb, hPM⟩
              clear hPM gg hlb
              have hHeld' := hd (SX.out X3 G3.out)
              go_wp2
              refine hK.out _ _ hHeld'.out (fun hHeld => ?_)
              clear hK K
              refine wpAnyH_take (i := 12) (v := ?v12_5) rfl (by kernel_rfl) (by kernel_rfl) (by kernel_rfl) (fun _ _ _ h => h) (Or.inl ⟨by rfl, ?y12_5⟩) (by assumption) ?r12_5
              case y12_5 => intro w hSw; (try dsimp only at hSw); go_simp; try with_reducible rfl
              simp only [Act.put, List.setIfInBounds_toArray, List.set_cons_zero, List.set_cons_succ]
              have f0 : X3.cell? ⟨rb, 0, none⟩ = some (.map none) := cell_blk fR.out.2 0
              have f1 : X3.cell? ⟨rb, 1, none⟩ = some (.slice none 0 0) := cell_blk fR.out.2 1
              have f2 : X3.cell? ⟨rb, 2, none⟩ = some (.map none) := cell_blk fR.out.2 2
              have u0 : X3.frozen? ⟨rb, 0, none⟩ = false := free_blk fR.out.2 0
              have u1 : X3.frozen? ⟨rb, 1, none⟩ = false := free_blk fR.out.2 1
              have u2 : X3.frozen? ⟨rb, 2, none⟩ = false := free_blk fR.out.2 2
              have MD := hd (Made.mk' (z := z) G3.out fR.out fP.out fL.out)
              refine wpAnyH_ready (rs := [14]) (by kernel_rfl) (by simp) ?_
              refine AllReadyH.cons rfl (fun K hK => ?_) AllReadyH.nil
              go_simp
              refine hK.out _ _ (SX.out _ MD.out.1) (fun hHeld => ?_)
              clear hK K
              refine wpAnyH_done (by kernel_rfl) ?_ _
              clear hHeld f0 f1 f2 u0 u1 u2
              go_wp2
              go_meet
              exact ⟨rb, pb, lb, rfl, MD⟩
          · go_simp
            go_wp2_with fail
            refine (last_run (HA.out.more G1.out) GV.out hL hnd (HC5.out X1 G1.out)).mono ?_
            rintro e X2 ⟨lb, rfl, hPM, gg, hlb⟩
            have G2 : Hid (w5.grownBy X2 none) := G1.out.trans gg
            have fR : Hid (w5.heap.size ≤ rb ∧ X2.heap[rb]? = some (Obj.cells #[.map none, .slice none 0 0, .map none] 51)) := ⟨fR.out.1, blk_kept fR.out.2 gg (by simp)⟩
            have fL : Hid (w5.heap.size ≤ lb ∧ PMap X2 lb ((retL (FVp (nms P)) L).map (fun x => x.1))) := ⟨Nat.le_trans G1.out.size hlb, hPM⟩
            clear hPM gg hlb
            have hHeld' := hd (SX.out X2 G2.out)
            go_wp2
            refine hK.out _ _ hHeld'.out (fun hHeld => ?_)
            clear hK K
            refine wpAnyH_ready (rs := [9]) (by kernel_rfl) (by simp) ?_
            refine (AllReadyH.cons rfl (fun K hK => ?_) AllReadyH.nil)
            · go_simp
              refine hK.out _ _ (SX.out _ (G2.out.trans (galloc X2 (Obj.cells (madeCells #[.int .u8 0] P.length) 82) none))) (fun hHeld => ?_)
              clear hK K hHeld
              obtain ⟨pb, hpb⟩ : ∃ b, b = X2.heap.size := ⟨_, rfl⟩
              obtain ⟨X3, hX3⟩ : ∃ Y, Y = X2.alloc (Obj.cells (madeCells #[.int .u8 0] P.length) 82) := ⟨_, rfl⟩
              rw [← hX3, ← hpb]
              have gg : X2.grownBy X3 none := by rw [hX3]; exact galloc X2 (Obj.cells (madeCells #[.int .u8 0] P.length) 82) none
              have G3 : Hid (w5.grownBy X3 none) := G2.out.trans gg
              have fL : Hid (w5.heap.size ≤ lb ∧ PMap X3 lb ((retL (FVp (nms P)) L).map (fun x => x.1))) := ⟨fL.out.1, fL.out.2.kept gg (by simp)⟩
              have fR : Hid (w5.heap.size ≤ rb ∧ X3.heap[rb]? = some (Obj.cells #[.map none, .slice none 0 0, .map none] 51)) := ⟨fR.out.1, blk_kept fR.out.2 gg (by simp)⟩
              have fP : Hid (w5.heap.size ≤ pb ∧ X3.rowIs pb 82 P.length (fun _ => .int .u8 0)) := ⟨by rw [hpb]; exact G2.out.size, by rw [hX3, hpb]; exact World.rowIs_made X2 (.int .u8 0) P.length 82⟩
              have hHeld := SX.out X3 G3.out
              clear hX3 hpb gg
              refine wpAnyH_take (i := 12) (v := ?v12_6) rfl (by kernel_rfl) (by kernel_rfl) (by kernel_rfl) (fun _ _ _ h => h) (Or.inl ⟨by rfl, ?y12_6⟩) (by assumption) ?r12_6
              case y12_6 => intro w hSw; (try dsimp only at hSw); go_simp; try with_reducible rfl
              simp only [Act.put, List.setIfInBounds_toArray, List.set_cons_zero, List.set_cons_succ]
              have f0 : X3.cell? ⟨rb, 0, none⟩ = some (.map none) := cell_blk fR.out.2 0
              have f1 : X3.cell? ⟨rb, 1, none⟩ = some (.slice none 0 0) := cell_blk fR.out.2 1
              have f2 : X3.cell? ⟨rb, 2, none⟩ = some (.map none) := cell_blk fR.out.2 2
              have u0 : X3.frozen? ⟨rb, 0, none⟩ = false := free_blk fR.out.2 0
              have u1 : X3.frozen? ⟨rb, 1, none⟩ = false := free_blk fR.out.2 1
              have u2 : X3.frozen? ⟨rb, 2, none⟩ = false := free_blk fR.out.2 2
              have MD := hd (Made.mk' (z := z) G3.out fR.out fP.out fL.out)
              refine wpAnyH_ready (rs := [14]) (by kernel_rfl) (by simp) ?_
              refine AllReadyH.cons rfl (fun K hK => ?_) AllReadyH.nil
              go_simp
              refine hK.out _ _ (SX.out _ MD.out.1) (fun hHeld => ?_)
              clear hK K
              refine wpAnyH_done (by kernel_rfl) ?_ _
              clear hHeld f0 f1 f2 u0 u1 u2
              go_wp2
              go_meet
              exact ⟨rb, pb, lb, rfl, MD⟩
      case rest =>
        obtain ⟨rb, pb, lb, rfl, MD⟩ := hcut
        have D3 : Hid (∀ X, wc.grownBy X (some pb) → X.cell? ⟨Db, 3, none⟩ = some (.slice pa P.length pc) ∧ X.cell? ⟨z + 1 + 1 + 1, 0, none⟩ = some (.map (some (z + 1))) ∧ X.cell? ⟨rb, 1, none⟩ = some (.slice (some ⟨pb, 0, none⟩) P.length P.length) ∧ X.cell? ⟨rb, 0, none⟩ = some (.map (some (z + 1))) ∧ X.cell? ⟨rb, 2, none⟩ = some (.map (some lb)) ∧ X.heap[z]? = some (.cells #[.map none, .slice none 0 0, .map none] 51 (0, 0))) := fun X hX => by
          obtain ⟨mg, mr, mp, ml, mr2, mp2, ml2⟩ := MD.out
          obtain ⟨nU, kv, tv, ov, xs', m, os, hI, hf, hv, ho⟩ := HA.out.more mg
          obtain ⟨nU5, kv5, tv5, ov5, xs5, m5, os5, hI5, hf5, _⟩ := HA.out
          have sW : z + 1 + 1 + 1 < w5.heap.size := lt_of_blk hI5.hW
          have hWX := blk_kept hI.hW hX (by show some (z + 1 + 1 + 1) ≠ some pb; simp; omega)
          have hrX := blk_kept mr hX (fun e => by
            obtain ⟨cs, h1, _⟩ := mp
            exact ne_of_tag mr h1 (by simp [tagOf]) (by simpa using e))
          have hzc := blk_fr (blk_fr hb1 GF.out (by omega) (by omega)) hf (by omega) (by omega)
          have c3 := cell_fr (cell_fr d3 GF.out (by omega) hDR) hf (by omega) hDR
          exact ⟨(World.cell?_of_block (hX.block Db (Nat.lt_of_lt_of_le (by omega) mg.size) (by simp; omega))).trans c3, cell_blk hWX 0, cell_blk hrX 1, cell_blk hrX 0, cell_blk hrX 2, blk_kept hzc hX (by simp; omega)⟩
        have DI : Hid (∀ i, i < P.length → ∃ pb0 nm idb vg vc, pa = some ⟨pb0, 0, none⟩ ∧ pnf P i = nm ∧ pb ≠ idb ∧ pb ≠ vg ∧ ∀ X, wc.grownBy X (some pb) → X.cell? ⟨pb0, i, none⟩ = some (.pointer (some ⟨idb, 0, none⟩)) ∧ X.cell? ⟨idb, 2, none⟩ = some (.string nm) ∧ X.cell? ⟨z + 1 + 1 + 1, 2, none⟩ = some (.slice (some ⟨vg, 0, none⟩) P.length vc) ∧ X.cell? ⟨vg, i * 10 + 5, none⟩ = some (.bool false) ∧
            (Instr.lookup 47 (.map (some (z + 1))) (.string nm) false).run Try.prog X = .ok (.int .u8 ((useF L nm).getD 0 : Nat)) X) := by
          intro i hi
          obtain ⟨mg, mr, mp, ml, mr2, mp2, ml2⟩ := MD.out
          obtain ⟨nU, kv, tv, ov, xs', m, os, hI, hf, hv, ho⟩ := HA.out.more mg
          obtain ⟨nU5, kv5, tv5, ov5, xs5, m5, os5, hI5, hf5, _⟩ := HA.out
          have sW : z + 1 + 1 + 1 < w5.heap.size := lt_of_blk hI5.hW
          have hx : P[i]? = some P[i] := List.getElem?_eq_getElem hi
          obtain ⟨⟨nm, idb⟩, hxe⟩ : ∃ x, P[i] = x := ⟨_, rfl⟩
          rw [hxe] at hx
          obtain ⟨pb0, hpa, pbz, pbR, cP, idz, idR, cN⟩ := HP.out i _ hx
          dsimp only at idz idR cN cP
          obtain ⟨vg, vc, hvv⟩ : ∃ g cap, vv = .slice (some ⟨g, 0, none⟩) P.length cap := by
            rcases hI.hv.2 with ⟨_, h2⟩ | ⟨g', cap, cur, h1, _⟩
            · exact absurd h2 (by show ¬ P.length = 0; omega)
            · exact ⟨g', cap, h1⟩
          have hvw5 : w5.ownsRow (z + 1) 95 10 (.slice (some ⟨vg, 0, none⟩) P.length vc) P.length xs5 := by rw [← hvv]; exact hI5.hv
          have lvg := (hvw5.lt vg rfl).2
          have hvw : wc.ownsRow (z + 1) 95 10 (.slice (some ⟨vg, 0, none⟩) P.length vc) P.length xs' := by rw [← hvv]; exact hI.hv
          refine ⟨pb0, nm, idb, vg, vc, hpa, by unfold pnf; rw [hx]; rfl, by omega, by omega, fun X hX => ?_⟩
          have eP := cell_fr (cell_fr cP GF.out (by omega) pbR) hf (by omega) pbR
          have eN := cell_fr (cell_fr cN GF.out (by omega) idR) hf (by omega) idR
          have hWX := blk_kept hI.hW hX (by show some (z + 1 + 1 + 1) ≠ some pb; simp; omega)
          have hvX := own_kept hvw hX (.inr (by show some vg ≠ some pb; simp; omega))
          have hUX := hI.hU.kept hX (by show some (z + 1) ≠ some pb; simp; omega)
          obtain ⟨_, _, _, _, _, x5, _⟩ := hv.2 i hi
          exact ⟨(World.cell?_of_block (hX.block pb0 (Nat.lt_of_lt_of_le (by omega) mg.size) (by simp; omega))).trans eP, (World.cell?_of_block (hX.block idb (Nat.lt_of_lt_of_le (by omega) mg.size) (by simp; omega))).trans eN, (cell_blk hWX 2).trans (by rw [← hvv]; rfl), own_cell hvX x5, look47 hUX nm⟩
        have FIN : Hid (∀ X, wc.grownBy X (some pb) → X.rowIs pb 82 P.length (fun j => .int .u8 ((useF L (pnf P j)).getD 0 : Nat)) → ∃ ub pb' lb' kU, Ending.returned (.agg #[.map (some (z + 1)), .slice (some ⟨pb, 0, none⟩) P.length P.length, .map (some lb)]) = .returned (.agg #[.map (some ub), .slice (some ⟨pb', 0, none⟩) P.length P.length, .map (some lb')]) ∧ StrMap (((X.setCell ⟨z, 0, none⟩ (.map (some (z + 1)))).setCell ⟨z, 1, none⟩ (.slice (some ⟨pb, 0, none⟩) P.length P.length)).setCell ⟨z, 2, none⟩ (.map (some lb))) ub (fU (useF L)) kU ∧ (((X.setCell ⟨z, 0, none⟩ (.map (some (z + 1)))).setCell ⟨z, 1, none⟩ (.slice (some ⟨pb, 0, none⟩) P.length P.length)).setCell ⟨z, 2, none⟩ (.map (some lb))).rowIs pb' 82 P.length (fun j => .int .u8 ((useF L (pnf P j)).getD 0 : Nat)) ∧ PMap (((X.setCell ⟨z, 0, none⟩ (.map (some (z + 1)))).setCell ⟨z, 1, none⟩ (.slice (some ⟨pb, 0, none⟩) P.length P.length)).setCell ⟨z, 2, none⟩ (.map (some lb))) lb' ((retL (FVp (nms P)) L).map (fun x => x.1)) ∧ Fr w.heap.size R w (((X.setCell ⟨z, 0, none⟩ (.map (some (z + 1)))).setCell ⟨z, 1, none⟩ (.slice (some ⟨pb, 0, none⟩) P.length P.length)).setCell ⟨z, 2, none⟩ (.map (some lb)))) := fun X hX hrow => by
          obtain ⟨mg, mr, mp, ml, mr2, mp2, ml2⟩ := MD.out
          obtain ⟨nU, kv, tv, ov, xs', m, os, hI, hf, hv, ho⟩ := HA.out.more mg
          obtain ⟨nU5, kv5, tv5, ov5, xs5, m5, os5, hI5, hf5, _⟩ := HA.out
          have sW : z + 1 + 1 + 1 < w5.heap.size := lt_of_blk hI5.hW
          have hUX := hI.hU.kept hX (by show some (z + 1) ≠ some pb; simp; omega)
          have hLX := ml.kept hX (fun e => by
            obtain ⟨o, h1, h2⟩ := ml.blk
            obtain ⟨cs, h3, _⟩ := mp
            exact ne_of_tag h1 h3 (by rw [h2]; simp [tagOf]) (by simpa using e))
          have g1 := gset X ⟨z, 0, none⟩ (.map (some (z + 1)))
          have g2 := gset (X.setCell ⟨z, 0, none⟩ (.map (some (z + 1)))) ⟨z, 1, none⟩ (.slice (some ⟨pb, 0, none⟩) P.length P.length)
          have g3 := gset ((X.setCell ⟨z, 0, none⟩ (.map (some (z + 1)))).setCell ⟨z, 1, none⟩ (.slice (some ⟨pb, 0, none⟩) P.length P.length)) ⟨z, 2, none⟩ (.map (some lb))
          have gg := (g1.trans g2).trans g3
          refine ⟨z + 1, pb, lb, nU, rfl, hUX.kept gg (by show some (z + 1) ≠ some z; simp), row_kept hrow gg (by simp; omega), hLX.kept gg (by simp; omega), ?_⟩
          rw [← HZ.out]
          have zw : z ≤ w1.heap.size := by rw [HZ.out]; exact hg1.size
          have a0 : Fr z R w w1 := (Fr.refl z R w).grown hg1 (by rw [HZ.out]; exact Nat.le_refl _) (by simp)
          have a1 : Fr z R w wc := (a0.trans (GF.out.mono (by omega))).trans (hf.mono (by omega))
          have a2 : Fr z R w X := a1.grown hX (by have := hI.hB; omega) (fun k e => by simp at e; subst e; exact .inl (by omega))
          exact a2.grown gg (Nat.le_trans (by have := hI.hB; omega) hX.size) (fun k e => by simp at e; subst e; exact .inl (Nat.le_refl _))
        have HR0 : Hid (wc.rowIs pb 82 P.length (fun _ => .int .u8 0)) := MD.out.2.2.1
        have nW : pb ≠ z + 1 + 1 + 1 := by
          obtain ⟨mg, mr, mp, ml, mr2, mp2, ml2⟩ := MD.out
          obtain ⟨nU5, kv5, tv5, ov5, xs5, m5, os5, hI5, hf5, _⟩ := HA.out
          have sW : z + 1 + 1 + 1 < w5.heap.size := lt_of_blk hI5.hW
          omega
        have nR : pb ≠ rb := by
          obtain ⟨mg, mr, mp, ml, mr2, mp2, ml2⟩ := MD.out
          obtain ⟨cs, h3, _⟩ := mp
          exact fun e => ne_of_tag mr h3 (by simp [tagOf]) e.symm
        have nZ : rb ≠ z := by
          obtain ⟨mg, mr, mp, ml, mr2, mp2, ml2⟩ := MD.out
          obtain ⟨nU5, kv5, tv5, ov5, xs5, m5, os5, hI5, hf5, _⟩ := HA.out
          have sW : z + 1 + 1 + 1 < w5.heap.size := lt_of_blk hI5.hW
          omega
        obtain ⟨q3, _⟩ := D3.out wc (grefl wc _)
        clear SX HC5 hmk MD
        go_wp2
        go_loopg [62] P.length (fun g x wr => ∃ i : Nat, g = P.length - i ∧ i ≤ P.length ∧ x = .int .i64 i ∧ Hid (wc.grownBy wr (some pb) ∧ wr.rowIs pb 82 P.length (fun j => if j < i then .int .u8 ((useF L (pnf P j)).getD 0 : Nat) else .int .u8 0)))
        case atStart => exact ⟨0, by omega, by omega, rfl, grefl wc _, by simpa using HR0.out⟩
        case round =>
          clear HR0 q3
          obtain ⟨i, rfl, hi, rfl, H⟩ := hrel
          by_cases hlt : i < P.length
          · obtain ⟨pb0, nm, idb, vg, vc, rfl, hnm, n1, n2, FX⟩ := DI.out i hlt
            obtain ⟨p1, p2, p3, p4, lk⟩ := FX wr H.out.1
            have lk1 := (FX wr.drew (H.out.1.trans (gdrew wr _))).2.2.2.2
            obtain ⟨_, p6, p7, _⟩ := D3.out wr H.out.1
            have ltI : (i : Int) < P.length := by omega
            obtain ⟨cs, r1, r2, r3⟩ := H.out.2
            have p8 : wr.cell? ⟨pb, i, none⟩ = some (.int .u8 0) := (cell_blk r1 i).trans ((r3 i hlt).trans (by simp))
            have p9 : wr.frozen? ⟨pb, i, none⟩ = false := free_blk r1 i
            have HX : Hid (wc.grownBy (wr.setCell ⟨pb, i, none⟩ (.int .u8 ((useF L nm).getD 0 : Nat))) (some pb) ∧ (wr.setCell ⟨pb, i, none⟩ (.int .u8 ((useF L nm).getD 0 : Nat))).rowIs pb 82 P.length (fun j => if j < i + 1 then .int .u8 ((useF L (pnf P j)).getD 0 : Nat) else .int .u8 0)) := by
              refine ⟨H.out.1.trans (gset wr ⟨pb, i, none⟩ (.int .u8 ((useF L nm).getD 0 : Nat))), cs.setIfInBounds i (.int .u8 ((useF L nm).getD 0 : Nat)), blk_set r1 i _, by simpa using r2, fun j hj => ?_⟩
              by_cases e : j = i
              · subst e
                rw [Array.getElem?_setIfInBounds_self_of_lt (by omega)]; dsimp only; rw [hnm, if_pos (by omega)]
              · rw [Array.getElem?_setIfInBounds_ne (fun h => e h.symm), r3 j hj]; dsimp only
                by_cases h : j < i
                · rw [if_pos h, if_pos (by omega)]
                · rw [if_neg h, if_neg (by omega)]
            clear FX H r1 r2 r3 hnm
            go_wp2
            go_region_held (fun X => X.cell? ⟨rb, 1, none⟩ = some (.slice (some ⟨pb, 0, none⟩) P.length P.length) ∧ X.cell? ⟨z + 1 + 1 + 1, 0, none⟩ = some (.map (some (z + 1))) ∧ X.cell? ⟨idb, 2, none⟩ = some (.string nm)) (go_keep) (fail)
            go_wp2
            go_roundg (P.length - (i + 1))
            case measure => omega
            case rel =>
              obtain ⟨c1, c2⟩ := HX.out
              exact ⟨i + 1, rfl, hlt, rfl, c1.trans (gdrew _ _), row_kept c2 (gdrew _ none) (by simp)⟩
          · have e : i = P.length := by omega
            subst e
            obtain ⟨_, _, p1, p0, p2, hz0⟩ := D3.out wr H.out.1
            have v0 : wr.cell? ⟨z, 0, none⟩ = some (.map none) := cell_blk hz0 0
            have v1 : wr.cell? ⟨z, 1, none⟩ = some (.slice none 0 0) := cell_blk hz0 1
            have v2 : wr.cell? ⟨z, 2, none⟩ = some (.map none) := cell_blk hz0 2
            have y0 : wr.frozen? ⟨z, 0, none⟩ = false := free_blk hz0 0
            have y1 : wr.frozen? ⟨z, 1, none⟩ = false := free_blk hz0 1
            have y2 : wr.frozen? ⟨z, 2, none⟩ = false := free_blk hz0 2
            have HX := hd (FIN.out wr H.out.1 (by
              obtain ⟨cs, r1, r2, r3⟩ := H.out.2
              exact ⟨cs, r1, r2, fun j hj => (r3 j hj).trans (by dsimp only; rw [if_pos hj])⟩))
            clear H hz0 FIN
            go_wp2
            exact bodyPost_ret (v := .agg #[.map (some (z + 1)), .slice (some ⟨pb, 0, none⟩) P.length P.length, .map (some lb)]) (by simp [results, Try.results21, go_sem, v0, v1, v2]) rfl HX.out
end Go.Proofs.Qxb6613372a
