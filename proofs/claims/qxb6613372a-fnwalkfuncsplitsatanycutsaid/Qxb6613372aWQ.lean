/-
  Seat b6613372a: zzWalkSummary.
-/
import Derived.Test.Qxb6613372aWP
namespace Go.Proofs.Qxb6613372a
open Go.ChangeShapes Go.WideShapes Go.ChangeAt Go.RowKit Go.MapKept
set_option linter.unusedSimpArgs false
set_option linter.unusedVariables false

/-- The uses of the names in a list of statements. -/
noncomputable def uP (M : List (Bool × ByteArray)) : ByteArray → Option Nat := M.foldl (fun F x => putN F x.2 ((F x.2).getD 0 ||| bitOf x.1)) (fun _ => none)
noncomputable def cntP (ps : List ByteArray) (M : List (Bool × ByteArray)) : Nat := (M.filter (fun x => x.1 && (FVp ps x.2).isSome)).length

theorem useF_plain (L : List Sm) : useF L = uP (L.map plainOf) := by
  unfold useF uP
  rw [List.foldl_map]
  rfl
theorem retL_plain (ps : List ByteArray) : ∀ L : List Sm, (retL (FVp ps) L).length = cntP ps (L.map plainOf)
  | [] => by simp [retL, cntP]
  | (r, nm, b) :: L => by
    have ih := retL_plain ps L
    unfold retL cntP at ih ⊢
    cases r with
    | false => simpa [List.filterMap_cons, plainOf, List.filter_cons] using ih
    | true =>
      cases hj : FVp ps nm with
      | none => simpa [List.filterMap_cons, plainOf, List.filter_cons, hj] using ih
      | some j => simpa [List.filterMap_cons, plainOf, List.filter_cons, hj] using ih

def keyOf (x : MapEntry) : ByteArray := match x.key with | .string s => s | _ => ByteArray.empty
theorem StrMap.keys {w : World} {b : Nat} {F : ByteArray → Option Value} {n : Nat} (h : StrMap w b F n) : ∃ keys : List ByteArray, keys.Nodup ∧ keys.length = n ∧ ∀ s, s ∈ keys ↔ (F s).isSome = true := by
  obtain ⟨es, clk, hb, h1, h2, h3, h4⟩ := h
  have hk : ∀ x ∈ es.toList, x.key = .string (keyOf x) := fun x hx => by
    obtain ⟨s, hs⟩ := h2 x hx
    unfold keyOf
    rw [hs]
  have e1 : es.toList.map (·.key) = (es.toList.map keyOf).map Value.string := by
    rw [List.map_map]
    exact List.map_congr_left (fun x hx => hk x hx)
  refine ⟨es.toList.map keyOf, ?_, by simp [h1], fun s => ?_⟩
  · rw [e1] at h3
    exact List.Pairwise.of_map Value.string (fun a b hab e => hab (by rw [e])) h3
  · rw [List.mem_map]
    constructor
    · rintro ⟨x, hx, rfl⟩
      rw [(h4 (keyOf x) x.val).2 ⟨x, hx, hk x hx, rfl⟩]
      rfl
    · intro hs
      obtain ⟨v, hv⟩ := Option.isSome_iff_exists.1 hs
      obtain ⟨x, hx, h5, _⟩ := (h4 s v).1 hv
      refine ⟨x, hx, ?_⟩
      have := hk x hx
      rw [h5] at this
      exact (Value.string.inj this).symm
theorem fU_isSome (F : ByteArray → Option Nat) (s : ByteArray) : (fU F s).isSome = (F s).isSome := by
  unfold fU
  cases F s <;> rfl

theorem Fr.grownBy {B R : Nat} {w0 w w' : World} (h0 : w0.grownBy w none) (h : Fr B R w w') (hB : w0.heap.size ≤ B) (hR : w0.heap.size ≤ R) : w0.grownBy w' none :=
  ⟨h.os.trans h0.os, h.tape.trans h0.tape, h.output.trans h0.output, Nat.le_trans h0.size h.size, fun k hk _ => (h.block k (by omega) (by omega)).trans (h0.block k hk (by simp))⟩

def Keys (F : ByteArray → Option Nat) (n : Nat) : Prop := ∃ keys : List ByteArray, keys.Nodup ∧ keys.length = n ∧ ∀ s, s ∈ keys ↔ (F s).isSome = true

/-- What the walk of a script leaves behind. -/
def Told (wT : World) (tb ub pb n lb : Nat) (f : Nat → Nat) (cnt kU : Nat) : Prop :=
  wT.heap[tb]? = some (BUo ub pb n lb) ∧ (∃ F, StrMap wT ub F kU) ∧ wT.rowIs pb 82 n (fun j => .int .u8 (f j : Nat)) ∧ ∃ ids : List Nat, PMap wT lb ids ∧ ids.length = cnt
theorem Told.more {wT w' : World} {tb ub pb n lb : Nat} {f : Nat → Nat} {cnt kU : Nat} (h : Told wT tb ub pb n lb f cnt kU) (hg : wT.grownBy w' none) : Told w' tb ub pb n lb f cnt kU := by
  obtain ⟨h1, ⟨F, h2⟩, h3, ids, h4, h5⟩ := h
  exact ⟨blk_kept h1 hg (by simp), ⟨F, h2.kept hg (by simp)⟩, row_kept h3 hg (by simp), ids, h4.kept hg (by simp), h5⟩

theorem strsAt_of {w : World} {b n : Nat} {a : Option Addr} {S : Nat → ByteArray} (ha : 0 < n → a = some ⟨b, 0, none⟩) (h : StrAt w b 0 n S) : StrsAt w a ((List.range n).map S) := fun i s hs => by
  have hi : i < n := by have := (List.getElem?_eq_some_iff.1 hs).1; simpa using this
  rw [List.getElem?_map, List.getElem?_range hi] at hs
  cases hs
  have hc := h i hi
  rw [Nat.zero_add] at hc
  exact ⟨b, ha (by omega), World.block_lt_of_cell? w _ hc, hc⟩

theorem row_strs {w : World} {b n : Nat} {S : Nat → ByteArray} (h : w.rowIs b 9 n (fun i => .string (S i))) : StrAt w b 0 n S := fun i hi => by rw [Nat.zero_add]; exact h.cell hi
theorem boolsAt_of {w : World} {b n : Nat} {Rt : Nat → Bool} (h : w.rowIs b 4 n (fun i => .bool (Rt i))) : BoolsAt w (some ⟨b, 0, none⟩) ((List.range n).map Rt) := fun i s hs => by
  have hi : i < n := by have := (List.getElem?_eq_some_iff.1 hs).1; simpa using this
  rw [List.getElem?_map, List.getElem?_range hi] at hs
  cases hs
  exact ⟨b, rfl, h.lt, h.cell hi⟩

set_option maxRecDepth 100000 in
set_option maxHeartbeats 1000000 in
theorem sum_run {w : World} (pa : Option Addr) (b n c : Nat) (S : Nat → ByteArray) (hn : n ≤ 60000) (hpa : 0 < n → pa = some ⟨b, 0, none⟩) (hS : StrAt w b 0 n S)
    (sa : Option Addr) (b2 o2 m c2 : Nat) (Rt : Nat → Bool) (Nm : Nat → ByteArray) (hm : m ≤ 60000) (hsa : 0 < m → sa = some ⟨b2, o2, none⟩) (hM : StmAt w b2 o2 m Rt Nm) :
    Calls Try.prog 12 #[.slice pa n c, .slice sa m c2] w fun e w' => ∃ qb kU, e = .returned (.tuple #[.slice (some ⟨qb, 0, none⟩) n n, .int .i64 (cntP ((List.range n).map S) ((List.range m).map (fun i => (Rt i, Nm i))) : Nat), .int .i64 (kU : Nat)]) ∧
      w'.rowIs qb 5 n (fun j => .int .u8 ((uP ((List.range m).map (fun i => (Rt i, Nm i))) (S j)).getD 0 : Nat)) ∧ Keys (uP ((List.range m).map (fun i => (Rt i, Nm i)))) kU ∧ w.grownBy w' none := by
  have SP := hd (split_run sa b2 o2 m c2 w Rt Nm hm hsa hM)
  have m0 := @run_makeMap Try.prog
  have SC : Hid (∀ w1 : World, w1.rowIs w.heap.size 9 m (fun i => .string (Nm i)) → w1.rowIs (w.heap.size + 1) 4 m (fun i => .bool (Rt i)) → w.grownBy w1 none →
      Calls Try.prog 16 #[.slice pa n c, .slice (some ⟨w.heap.size, 0, none⟩) m m, .slice (some ⟨w.heap.size + 1, 0, none⟩) m m, .map (some w1.heap.size)] (w1.alloc (.map #[] 0)) fun e w' => ∃ ub pb lb kU, e = .returned (BU ub pb n lb) ∧ Hid (w.grownBy (w'.alloc (BUo ub pb n lb)) none ∧ Keys (uP ((List.range m).map (fun i => (Rt i, Nm i)))) kU ∧ Told (w'.alloc (BUo ub pb n lb)) w'.heap.size ub pb n lb (fun j => (uP ((List.range m).map (fun i => (Rt i, Nm i))) (S j)).getD 0) (cntP ((List.range n).map S) ((List.range m).map (fun i => (Rt i, Nm i)))) kU)) := fun w1 h1 h2 hg => by
    have hg2 : w1.grownBy (w1.alloc (.map #[] 0)) none := galloc w1 _ none
    have hR := StrMap.made w1
    have a1 : StrsAt (w1.alloc (.map #[] 0)) pa ((List.range n).map S) := strsAt_of hpa (hS.more (hg.trans hg2))
    have a2 : StrsAt (w1.alloc (.map #[] 0)) (some ⟨w.heap.size, 0, none⟩) (((List.range m).map (fun i => (Rt i, Nm i))).map (fun x => x.2)) := by
      rw [List.map_map]
      exact strsAt_of (n := m) (fun _ => rfl) (row_strs (row_kept h1 hg2 (by simp)))
    have a3 : BoolsAt (w1.alloc (.map #[] 0)) (some ⟨w.heap.size + 1, 0, none⟩) (((List.range m).map (fun i => (Rt i, Nm i))).map (fun x => x.1)) := by
      rw [List.map_map]
      exact boolsAt_of (row_kept h2 hg2 (by simp))
    have run := script_run hR pa (some ⟨w.heap.size, 0, none⟩) (some ⟨w.heap.size + 1, 0, none⟩) c m m ((List.range n).map S) ((List.range m).map (fun i => (Rt i, Nm i))) (by simpa using hn) (by simpa using hm) a1 a2 a3
    rw [List.length_map, List.length_range, List.length_map, List.length_range] at run
    refine run.mono ?_
    rintro e w' ⟨P, L, hP, hL, ub, pb, lb, kU, he, hU, hp, hl, hf⟩
    have hPl : P.length = n := by have := congrArg List.length hP; simpa [nms] using this
    rw [hPl] at he hp
    refine ⟨ub, pb, lb, kU, he, ?_, ?_, ?_⟩
    · have s1 : w.heap.size ≤ w1.heap.size := hg.size
      exact (Fr.grownBy (hg.trans hg2) hf (Nat.le_trans s1 hg2.size) s1).trans (galloc _ _ none)
    · obtain ⟨keys, k1, k2, k3⟩ := hU.keys
      exact ⟨keys, k1, k2, fun s => by rw [k3, fU_isSome, useF_plain, hL]⟩
    · have g3 := galloc w' (BUo ub pb n lb) none
      refine ⟨(MapKept.heap_alloc w' (BUo ub pb n lb)).1, ⟨_, hU.kept g3 (by simp)⟩, ?_, _, hl.kept g3 (by simp), ?_⟩
      · refine (row_kept hp g3 (by simp)).congr (fun j hj => ?_)
        have : pnf P j = S j := by
          unfold pnf
          have h3 : (P[j]?).map (fun x => x.1) = some (S j) := by rw [← List.getElem?_map]; show (nms P)[j]? = _; rw [hP, List.getElem?_map, List.getElem?_range hj]; rfl
          rw [h3]; rfl
        rw [this, useF_plain, hL]
      · rw [List.length_map, hP, retL_plain, hL]
  clear hpa hS hsa hM
  go_enter Try.func12, Try.ntmps12
  go_wp2_with fail
  refine SP.out.mono ?_
  rintro e w1 ⟨rfl, h1, h2, hg⟩
  have CL := hd (SC.out w1 h1 h2 hg)
  clear SP SC h1 h2 hg
  go_wp2_with fail
  refine CL.out.mono ?_
  rintro e w2 ⟨ub, pb, lb, kU, rfl, HT⟩
  clear CL m0
  obtain ⟨wT, hwT⟩ : ∃ X, X = w2.alloc (BUo ub pb n lb) := ⟨_, rfl⟩
  obtain ⟨tb, htb⟩ : ∃ X, X = w2.heap.size := ⟨_, rfl⟩
  rw [← hwT, ← htb] at HT
  have hwT' : wT = w2.alloc (.cells #[.map (some ub), .slice (some ⟨pb, 0, none⟩) n n, .map (some lb)] 51) := hwT
  clear hwT
  have hmk := make36 n hn
  have PL := hd (fun X => plen_run ub pb n lb X)
  unfold BU
  go_upto_region 3 with fail
  rw [← hwT', ← htb]
  clear hwT' htb
  obtain ⟨hg0, hKeys, hTold⟩ := HT.out
  have HTold := hd hTold
  have HK := hd hKeys
  have HG := hd hg0
  have t0 : wT.cell? ⟨tb, 0, none⟩ = some (.map (some ub)) := cell_blk hTold.1 0
  have t1 : wT.cell? ⟨tb, 1, none⟩ = some (.slice (some ⟨pb, 0, none⟩) n n) := cell_blk hTold.1 1
  have t2 : wT.cell? ⟨tb, 2, none⟩ = some (.map (some lb)) := cell_blk hTold.1 2
  clear hg0 hKeys hTold HT
  go_wp2_with fail
  refine (PL.out _).mono ?_
  rintro e w3 ⟨rfl, hw3⟩
  have G3 : Hid (wT.grownBy w3 none) := by rw [hw3]; exact galloc _ _ none
  clear hw3 PL t0 t1 t2
  go_wp2
  clear hmk
  have R0 : Hid ((w3.alloc (.cells (madeCells #[.int .u8 0] n) 5)).rowIs w3.heap.size 5 n (fun j => if j < 0 then .int .u8 (((uP ((List.range m).map (fun i => (Rt i, Nm i))) (S j)).getD 0 : Nat) : Int) else .int .u8 0) ∧ wT.grownBy (w3.alloc (.cells (madeCells #[.int .u8 0] n) 5)) none) := ⟨(World.rowIs_made w3 (.int .u8 0) n 5).congr (fun i _ => by simp), G3.out.trans (galloc _ _ none)⟩
  have GQ : Hid (wT.heap.size ≤ w3.heap.size) := G3.out.size
  obtain ⟨qb, hqb⟩ : ∃ b, b = w3.heap.size := ⟨_, rfl⟩
  rw [← hqb] at R0 GQ ⊢
  clear G3 hqb
  go_loopg [11] n (fun g y wr => ∃ (k : Nat), k ≤ n ∧ g = n - k ∧ y = .int .i64 k ∧ Hid (wr.rowIs qb 5 n (fun j => if j < k then .int .u8 (((uP ((List.range m).map (fun i => (Rt i, Nm i))) (S j)).getD 0 : Nat) : Int) else .int .u8 0) ∧ wT.grownBy wr none))
  case atStart => exact ⟨0, Nat.zero_le _, rfl, rfl, R0.out⟩
  case round =>
    clear R0
    obtain ⟨k, hk, rfl, rfl, H⟩ := hrel
    obtain ⟨hrow, hg⟩ := H.out
    have hT := HTold.out.more hg
    have t0 : wr.cell? ⟨tb, 0, none⟩ = some (.map (some ub)) := cell_blk hT.1 0
    have t1 : wr.cell? ⟨tb, 1, none⟩ = some (.slice (some ⟨pb, 0, none⟩) n n) := cell_blk hT.1 1
    have t2 : wr.cell? ⟨tb, 2, none⟩ = some (.map (some lb)) := cell_blk hT.1 2
    by_cases hlt : k < n
    · have hk' : (k : Int) < n := by omega
      have CL := hd (puse_run ub pb n lb k hn hlt wr ((uP ((List.range m).map (fun i => (Rt i, Nm i))) (S k)).getD 0) (hT.2.2.1.cell hlt))
      have NX : Hid (∀ o : Obj, ((wr.alloc o).cell? ⟨qb, k, none⟩ = some (.int .u8 0) ∧ (wr.alloc o).frozen? ⟨qb, k, none⟩ = false) ∧ Hid (((wr.alloc o).setCell ⟨qb, k, none⟩ (.int .u8 (((uP ((List.range m).map (fun i => (Rt i, Nm i))) (S k)).getD 0 : Nat) : Int))).rowIs qb 5 n (fun j => if j < k + 1 then .int .u8 (((uP ((List.range m).map (fun i => (Rt i, Nm i))) (S j)).getD 0 : Nat) : Int) else .int .u8 0) ∧ wT.grownBy ((wr.alloc o).setCell ⟨qb, k, none⟩ (.int .u8 (((uP ((List.range m).map (fun i => (Rt i, Nm i))) (S k)).getD 0 : Nat) : Int))) none)) := fun o => by
        have g0 := (hrow.alloc o).cell (i := k) hlt
        have f0 := (hrow.alloc o).frozen k
        simp only [Nat.lt_irrefl, if_false] at g0
        refine ⟨⟨g0, f0⟩, ((hrow.alloc o).set k _).congr (fun j hj => ?_), grown_new (hg.trans (galloc _ _ none)) (gset _ ⟨qb, k, none⟩ _) GQ.out⟩
        by_cases e : j = k
        · subst e; simp
        · rw [if_neg e]
          by_cases h : j < k
          · rw [if_pos h, if_pos (by omega)]
          · rw [if_neg h, if_neg (by omega)]
      generalize (uP ((List.range m).map (fun i => (Rt i, Nm i))) (S k)).getD 0 = v at CL NX
      unfold BU BUo at CL
      clear hrow hg hT H
      go_wp2_with fail
      refine CL.out.mono ?_
      rintro e w5 ⟨rfl, hw5⟩
      obtain ⟨⟨q1, q2⟩, H5⟩ := NX.out (.cells #[.map (some ub), .slice (some ⟨pb, 0, none⟩) n n, .map (some lb)] 51)
      rw [← hw5] at q1 q2 H5
      clear CL NX hw5
      go_wp2
      go_roundg (n - (k + 1))
      case measure => omega
      case rel => exact ⟨k + 1, hlt, rfl, by go_num, H5.out⟩
    · have hk' : ¬ (k : Int) < n := by omega
      have LL : Hid (∀ X, wr.grownBy X none → Calls Try.prog 19 #[.agg #[.map (some ub), .slice (some ⟨pb, 0, none⟩) n n, .map (some lb)]] X fun e w' => e = .returned (.int .i64 (cntP ((List.range n).map S) ((List.range m).map (fun i => (Rt i, Nm i))) : Nat)) ∧ w' = X.alloc (.cells #[.map (some ub), .slice (some ⟨pb, 0, none⟩) n n, .map (some lb)] 51)) := fun X hX => by
        obtain ⟨h1, h2, h3, ids, h4, h5⟩ := hT.more hX
        rw [← h5]
        exact llen_run ub pb n lb X ids h4
      have LN : Hid (∀ X, wr.grownBy X none → Calls Try.prog 20 #[.agg #[.map (some ub), .slice (some ⟨pb, 0, none⟩) n n, .map (some lb)]] X fun e w' => e = .returned (.int .i64 (kU : Nat)) ∧ w' = X.alloc (.cells #[.map (some ub), .slice (some ⟨pb, 0, none⟩) n n, .map (some lb)] 51)) := fun X hX => by
        obtain ⟨h1, ⟨F, h2⟩, h3, ids, h4, h5⟩ := hT.more hX
        exact nlen_run ub pb n lb X F kU h2
      have FIN : Hid (∀ X, wr.grownBy X none → ∃ qb' kU', Ending.returned (.tuple #[.slice (some ⟨qb, 0, none⟩) n n, .int .i64 (cntP ((List.range n).map S) ((List.range m).map (fun i => (Rt i, Nm i))) : Nat), .int .i64 (kU : Nat)]) = .returned (.tuple #[.slice (some ⟨qb', 0, none⟩) n n, .int .i64 (cntP ((List.range n).map S) ((List.range m).map (fun i => (Rt i, Nm i))) : Nat), .int .i64 (kU' : Nat)]) ∧
          X.rowIs qb' 5 n (fun j => .int .u8 ((uP ((List.range m).map (fun i => (Rt i, Nm i))) (S j)).getD 0 : Nat)) ∧ Keys (uP ((List.range m).map (fun i => (Rt i, Nm i)))) kU' ∧ w.grownBy X none) := fun X hX => by
        refine ⟨qb, kU, rfl, (row_kept hrow hX (by simp)).congr (fun j hj => by rw [if_pos (by omega)]), HK.out, (HG.out.trans hg).trans hX⟩
      clear hrow hg hT H
      go_wp2
      have gd : wr.grownBy wr.drew none := gdrew wr none
      have e19 : Hid (∀ X : World, wr.grownBy X none → wr.grownBy (X.alloc (.cells #[.map (some ub), .slice (some ⟨pb, 0, none⟩) n n, .map (some lb)] 51)) none) := fun X hX => hX.trans (galloc _ _ none)
      refine region_any (S := fun X => X.cell? ⟨tb, 0, none⟩ = some (.map (some ub)) ∧ X.cell? ⟨tb, 1, none⟩ = some (.slice (some ⟨pb, 0, none⟩) n n) ∧ X.cell? ⟨tb, 2, none⟩ = some (.map (some lb))) (by kernel_rfl) (by exact ⟨t0, t1, t2⟩) (fun X0 gX0 hHeld => ?_)
      have SX : Hid (∀ X, wr.grownBy X none → X.cell? ⟨tb, 0, none⟩ = some (.map (some ub)) ∧ X.cell? ⟨tb, 1, none⟩ = some (.slice (some ⟨pb, 0, none⟩) n n) ∧ X.cell? ⟨tb, 2, none⟩ = some (.map (some lb))) := fun X hX => ⟨cell_grown t0 hX, cell_grown t1 hX, cell_grown t2 hX⟩
      have G0 : Hid (wr.grownBy X0 none) := gX0
      clear gX0 gd t0 t1 t2
      refine wpAnyH_take (i := 0) (v := ?v0) rfl (by kernel_rfl) (by kernel_rfl) (by kernel_rfl) (fun _ _ _ h => h) (Or.inl ⟨by rfl, ?y0⟩) (by assumption) ?r0
      case y0 => intro w hSw; (try dsimp only at hSw); go_simp; try with_reducible rfl
      simp only [Act.put, List.setIfInBounds_toArray, List.set_cons_zero, List.set_cons_succ]
      refine wpAnyH_take (i := 1) (v := ?v1) rfl (by kernel_rfl) (by kernel_rfl) (by kernel_rfl) (fun _ _ _ h => h) (Or.inl ⟨by rfl, ?y1⟩) (by assumption) ?r1
      case y1 => intro w hSw; (try dsimp only at hSw); go_simp; try with_reducible rfl
      simp only [Act.put, List.setIfInBounds_toArray, List.set_cons_zero, List.set_cons_succ]
      refine wpAnyH_take (i := 3) (v := ?v3) rfl (by kernel_rfl) (by kernel_rfl) (by kernel_rfl) (fun _ _ _ h => h) (Or.inl ⟨by rfl, ?y3⟩) (by assumption) ?r3
      case y3 => intro w hSw; (try dsimp only at hSw); go_simp; try with_reducible rfl
      simp only [Act.put, List.setIfInBounds_toArray, List.set_cons_zero, List.set_cons_succ]
      refine wpAnyH_ready (rs := [2]) (by kernel_rfl) (by simp) ?_
      refine AllReadyH.cons rfl (fun K hK => ?_) AllReadyH.nil
      go_simp
      go_wp2_with fail
      refine (LL.out X0 G0.out).mono ?_
      rintro e X1 ⟨rfl, hX1⟩
      have G1 : Hid (wr.grownBy X1 none) := by rw [hX1]; exact e19.out X0 G0.out
      have hS1 := hd (SX.out X1 G1.out)
      clear hX1
      go_wp2
      refine hK.out _ _ hS1.out (fun hHeld => ?_)
      clear hK K
      refine wpAnyH_ready (rs := [4]) (by kernel_rfl) (by simp) ?_
      refine AllReadyH.cons rfl (fun K hK => ?_) AllReadyH.nil
      go_simp
      go_wp2_with fail
      refine (LN.out X1 G1.out).mono ?_
      rintro e X2 ⟨rfl, hX2⟩
      have G2 : Hid (wr.grownBy X2 none) := by rw [hX2]; exact e19.out X1 G1.out
      have hS2 := hd (SX.out X2 G2.out)
      clear hX2
      go_wp2
      refine hK.out _ _ hS2.out (fun hHeld => ?_)
      clear hK K
      refine wpAnyH_ready (rs := [5]) (by kernel_rfl) (by simp) ?_
      refine AllReadyH.cons rfl (fun K hK => ?_) AllReadyH.nil
      go_simp
      refine hK.out _ _ hS2.out (fun hHeld => ?_)
      clear hK K
      refine wpAnyH_ready (rs := [6]) (by kernel_rfl) (by simp) ?_
      refine AllReadyH.cons rfl (fun K hK => ?_) AllReadyH.nil
      go_simp
      refine hK.out _ _ hS2.out (fun hHeld => ?_)
      clear hK K
      refine wpAnyH_ready (rs := [7]) (by kernel_rfl) (by simp) ?_
      refine AllReadyH.cons rfl (fun K hK => ?_) AllReadyH.nil
      go_simp
      refine hK.out _ _ hS2.out (fun hHeld => ?_)
      clear hK K
      refine wpAnyH_done (by kernel_rfl) ?_ _
      clear hHeld
      have HX := hd (FIN.out X2 G2.out)
      go_wp2
      exact bodyPost_ret (v := .tuple #[.slice (some ⟨qb, 0, none⟩) n n, .int .i64 (cntP ((List.range n).map S) ((List.range m).map (fun i => (Rt i, Nm i))) : Nat), .int .i64 (kU : Nat)]) (by simp [results, Try.results12, go_sem]) rfl HX.out
end Go.Proofs.Qxb6613372a
