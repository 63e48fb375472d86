/-
  Seat b6613372a: the law's small helpers.
-/
import Derived.Test.Qxb6613372aWO
import Derived.Test.Qxb6613372aWN
namespace Go.Proofs.Qxb6613372a
open Go.ChangeShapes Go.WideShapes Go.ChangeAt Go.RowKit Go.MapKept
set_option linter.unusedSimpArgs false
set_option linter.unusedVariables false

theorem info9 : (Try.prog.info? 9).map (fun i => (i.zero, i.size, i.bytes)) = some (some (.string ByteArray.empty), 1, 16) := by kernel_rfl
theorem info4 : (Try.prog.info? 4).map (fun i => (i.zero, i.size, i.bytes)) = some (some (.bool false), 1, 1) := by kernel_rfl
theorem info5 : (Try.prog.info? 5).map (fun i => (i.zero, i.size, i.bytes)) = some (some (.int .u8 0), 1, 1) := by kernel_rfl
theorem info40 : (Try.prog.info? 40).map (fun i => (i.zero, i.size, i.bytes)) = some (some (.agg #[.bool false, .string ByteArray.empty]), 2, 24) := by kernel_rfl
theorem make30 (n : Nat) (hn : n ≤ 60000) (w : World) : (Instr.makeSlice 30 (.int .i64 (n : Int)) (.int .i64 (n : Int))).run Try.prog w = .ok (.slice (some ⟨w.heap.size, 0, none⟩) n n) (w.alloc (.cells (madeCells #[.string ByteArray.empty] n) 9)) := by
  have h := make_run (P := Try.prog) 30 9 (.string ByteArray.empty) 1 16 Try.underlying30 info9 n (by omega) (by omega) w
  rw [Nat.mul_one] at h
  exact h
theorem make44 (n : Nat) (hn : n ≤ 60000) (w : World) : (Instr.makeSlice 44 (.int .i64 (n : Int)) (.int .i64 (n : Int))).run Try.prog w = .ok (.slice (some ⟨w.heap.size, 0, none⟩) n n) (w.alloc (.cells (madeCells #[.bool false] n) 4)) := by
  have h := make_run (P := Try.prog) 44 4 (.bool false) 1 1 Try.underlying44 info4 n (by omega) (by omega) w
  rw [Nat.mul_one] at h
  exact h
theorem make36 (n : Nat) (hn : n ≤ 60000) (w : World) : (Instr.makeSlice 36 (.int .i64 (n : Int)) (.int .i64 (n : Int))).run Try.prog w = .ok (.slice (some ⟨w.heap.size, 0, none⟩) n n) (w.alloc (.cells (madeCells #[.int .u8 0] n) 5)) := by
  have h := make_run (P := Try.prog) 36 5 (.int .u8 0) 1 1 Try.underlying36 info5 n (by omega) (by omega) w
  rw [Nat.mul_one] at h
  exact h
theorem make31 (n : Nat) (hn : n ≤ 60000) (w : World) : (Instr.makeSlice 31 (.int .i64 (n : Int)) (.int .i64 (n : Int))).run Try.prog w = .ok (.slice (some ⟨w.heap.size, 0, none⟩) n n) (w.alloc (.cells (madeCells #[.bool false, .string ByteArray.empty] (n * 2)) 40)) :=
  make_run (P := Try.prog) 31 40 (.agg #[.bool false, .string ByteArray.empty]) 2 24 Try.underlying31 info40 n (by omega) (by omega) w
theorem rowIs_madeAny (w : World) (z : Array Value) (n : Nat) (t : TypeId) : (w.alloc (.cells (madeCells z n) t)).rowIs w.heap.size t n (fun i => z[i % z.size]!) :=
  ⟨_, Deep.blk_alloc_new _ _, size_madeCells _ _, fun i hi => by simp [madeCells, hi]⟩

theorem cell_grown {w w' : World} {b i : Nat} {v : Value} (h : w.cell? ⟨b, i, none⟩ = some v) (hg : w.grownBy w' none) : w'.cell? ⟨b, i, none⟩ = some v :=
  (World.cell?_of_block (hg.block b (World.block_lt_of_cell? w ⟨b, i, none⟩ h) (by simp))).trans h

theorem StrAt.more {w w' : World} {b o n : Nat} {S : Nat → ByteArray} (h : StrAt w b o n S) (hg : w.grownBy w' none) : StrAt w' b o n S := fun i hi => cell_grown (h i hi) hg
theorem StmAt.more {w w' : World} {b o n : Nat} {Rt : Nat → Bool} {Nm : Nat → ByteArray} (h : StmAt w b o n Rt Nm) (hg : w.grownBy w' none) : StmAt w' b o n Rt Nm := fun i hi => ⟨cell_grown (h i hi).1 hg, cell_grown (h i hi).2 hg⟩

theorem cloneS_nil (n c : Nat) (w : World) : Calls Try.prog 10 #[.slice none n c] w fun e w' => e = .returned (.slice none 0 0) ∧ w' = w := by
  have hn := fun wx => Lib.run_eql_slice_nil (P := Try.prog) wx 30 9 none n c 0 0 Try.underlying30
  go_enter Try.func10, Try.ntmps10
  go_wp2
  go_ret
  exact ⟨rfl, rfl⟩
theorem cloneM_nil (n c : Nat) (w : World) : Calls Try.prog 11 #[.slice none n c] w fun e w' => e = .returned (.slice none 0 0) ∧ w' = w := by
  have hn := fun wx => Lib.run_eql_slice_nil (P := Try.prog) wx 31 40 none n c 0 0 Try.underlying31
  go_enter Try.func11, Try.ntmps11
  go_wp2
  go_ret
  exact ⟨rfl, rfl⟩

set_option maxRecDepth 100000 in
theorem cloneS_some (x : Addr) (b o n c : Nat) (w : World) (S : Nat → ByteArray) (hn : n ≤ 60000) (hx : 0 < n → x = ⟨b, o, none⟩) (hS : StrAt w b o n S) :
    Calls Try.prog 10 #[.slice (some x) n c] w fun e w' => e = .returned (.slice (some ⟨w.heap.size, 0, none⟩) n n) ∧ w'.rowIs w.heap.size 9 n (fun i => .string (S i)) ∧ w.grownBy w' none := by
  have hnil := fun wx => Lib.run_eql_slice_nil (P := Try.prog) wx 30 9 (some x) n c 0 0 Try.underlying30
  have hmk := make30 n hn
  have HX := hd hx
  have HS := hd hS
  clear hx hS
  go_enter Try.func10, Try.ntmps10
  go_wp2
  clear hnil hmk
  go_loopg [4] n (fun g y wr => ∃ (k : Nat), k ≤ n ∧ g = n - k ∧ y = .int .i64 k ∧ Hid (wr.rowIs w.heap.size 9 n (fun j => if j < k then .string (S j) else .string ByteArray.empty) ∧ w.grownBy wr none))
  case atStart => exact ⟨0, Nat.zero_le _, rfl, rfl, (World.rowIs_made w (.string ByteArray.empty) n 9).congr (fun i _ => by simp), galloc w _ none⟩
  case round =>
    obtain ⟨k, hk, rfl, rfl, H⟩ := hrel
    by_cases hlt : k < n
    · obtain rfl := HX.out (by omega)
      obtain ⟨hrow, hg⟩ := H.out
      have hc := (HS.out.more hg) k hlt
      have hk' : (k : Int) < n := by omega
      have g0 := hrow.cell (i := k) hlt
      have f0 := hrow.frozen k
      simp only [Nat.lt_irrefl, if_false] at g0
      have R : Hid ((wr.setCell ⟨w.heap.size, k, none⟩ (.string (S k))).rowIs w.heap.size 9 n (fun j => if j < k + 1 then .string (S j) else .string ByteArray.empty) ∧ w.grownBy (wr.setCell ⟨w.heap.size, k, none⟩ (.string (S k))) none) := by
        refine ⟨(hrow.set k (.string (S k))).congr (fun j hj => ?_), grown_new hg (gset wr ⟨w.heap.size, k, none⟩ (.string (S k))) (Nat.le_refl _)⟩
        by_cases e : j = k
        · subst e; simp
        · rw [if_neg e]
          by_cases h : j < k
          · rw [if_pos h, if_pos (by omega)]
          · rw [if_neg h, if_neg (by omega)]
      clear hrow hg H
      go_wp2
      go_roundg (n - (k + 1))
      case measure => omega
      case rel => exact ⟨k + 1, hlt, rfl, by go_num, R.out⟩
    · have hk' : ¬ (k : Int) < n := by omega
      go_wp2
      go_ret
      obtain ⟨hrow, hg⟩ := H.out
      exact ⟨rfl, hrow.congr (fun i hi => by rw [if_pos (by omega)]), hg⟩

set_option maxRecDepth 100000 in
theorem cloneM_some (x : Addr) (b o n c : Nat) (w : World) (Rt : Nat → Bool) (Nm : Nat → ByteArray) (hn : n ≤ 60000) (hx : 0 < n → x = ⟨b, o, none⟩) (hS : StmAt w b o n Rt Nm) :
    Calls Try.prog 11 #[.slice (some x) n c] w fun e w' => e = .returned (.slice (some ⟨w.heap.size, 0, none⟩) n n) ∧ StmAt w' w.heap.size 0 n Rt Nm ∧ w.grownBy w' none := by
  have hnil := fun wx => Lib.run_eql_slice_nil (P := Try.prog) wx 31 40 (some x) n c 0 0 Try.underlying31
  have hmk := make31 n hn
  have HX := hd hx
  have HS := hd hS
  clear hx hS
  go_enter Try.func11, Try.ntmps11
  go_wp2
  clear hnil hmk
  go_loopg [4] n (fun g y wr => ∃ (k : Nat) (F : Nat → Value), k ≤ n ∧ g = n - k ∧ y = .int .i64 k ∧ Hid (wr.rowIs w.heap.size 40 (n * 2) F ∧ (∀ i, i < k → F (i * 2) = .bool (Rt i) ∧ F (i * 2 + 1) = .string (Nm i)) ∧ (∀ i, k ≤ i → i < n → F (i * 2) = .bool false ∧ F (i * 2 + 1) = .string ByteArray.empty) ∧ w.grownBy wr none))
  case atStart =>
    refine ⟨0, _, Nat.zero_le _, rfl, rfl, rowIs_madeAny w _ _ _, (fun i hi => absurd hi (Nat.not_lt_zero _)), (fun i _ hi => ?_), galloc w _ none⟩
    constructor <;> simp [Nat.mul_mod_left, Nat.add_mod]
  case round =>
    obtain ⟨k, F, hk, rfl, rfl, H⟩ := hrel
    by_cases hlt : k < n
    · obtain rfl := HX.out (by omega)
      obtain ⟨hrow, hF, hE, hg⟩ := H.out
      obtain ⟨hc0, hc1⟩ := (HS.out.more hg) k hlt
      have hk' : (k : Int) < n := by omega
      have g0 := hrow.cell (i := k * 2) (by omega)
      have g1 := hrow.cell (i := k * 2 + 1) (by omega)
      rw [(hE k (Nat.le_refl _) hlt).1] at g0
      rw [(hE k (Nat.le_refl _) hlt).2] at g1
      have f0 := hrow.frozen (k * 2)
      have f1 := hrow.frozen (k * 2 + 1)
      have R : Hid (∃ F' : Nat → Value, ((wr.setCell ⟨w.heap.size, k * 2, none⟩ (.bool (Rt k))).setCell ⟨w.heap.size, k * 2 + 1, none⟩ (.string (Nm k))).rowIs w.heap.size 40 (n * 2) F' ∧ (∀ i, i < k + 1 → F' (i * 2) = .bool (Rt i) ∧ F' (i * 2 + 1) = .string (Nm i)) ∧ (∀ i, k + 1 ≤ i → i < n → F' (i * 2) = .bool false ∧ F' (i * 2 + 1) = .string ByteArray.empty) ∧ w.grownBy ((wr.setCell ⟨w.heap.size, k * 2, none⟩ (.bool (Rt k))).setCell ⟨w.heap.size, k * 2 + 1, none⟩ (.string (Nm k))) none) := by
        refine ⟨_, (hrow.set (k * 2) (.bool (Rt k))).set (k * 2 + 1) (.string (Nm k)), fun i hi => ?_, fun i hi hin => ?_, grown_new (grown_new hg (gset wr ⟨w.heap.size, k * 2, none⟩ (.bool (Rt k))) (Nat.le_refl _)) (gset _ ⟨w.heap.size, k * 2 + 1, none⟩ (.string (Nm k))) (Nat.le_refl _)⟩
        · by_cases e : i = k
          · subst e
            exact ⟨by rw [if_neg (by omega), if_pos rfl], by rw [if_pos rfl]⟩
          · have h1 := hF i (by omega)
            exact ⟨by rw [if_neg (by omega), if_neg (by omega)]; exact h1.1, by rw [if_neg (by omega), if_neg (by omega)]; exact h1.2⟩
        · have h1 := hE i (by omega) hin
          exact ⟨by rw [if_neg (by omega), if_neg (by omega)]; exact h1.1, by rw [if_neg (by omega), if_neg (by omega)]; exact h1.2⟩
      clear hrow hF hE hg H
      go_wp2
      go_roundg (n - (k + 1))
      case measure => omega
      case rel =>
        obtain ⟨F', r⟩ := R.out
        exact ⟨k + 1, F', hlt, rfl, by go_num, r⟩
    · have hk' : ¬ (k : Int) < n := by omega
      go_wp2
      go_ret
      obtain ⟨hrow, hF, hE, hg⟩ := H.out
      refine ⟨rfl, fun i hi => ?_, hg⟩
      have h1 := hF i (by omega)
      exact ⟨by rw [Nat.zero_add, hrow.cell (by omega), h1.1], by rw [Nat.zero_add, hrow.cell (by omega), h1.2]⟩

set_option maxRecDepth 100000 in
theorem has_run (a : Option Addr) (b n c : Nat) (w : World) (S : Nat → ByteArray) (hn : n ≤ 60000) (hx : 0 < n → a = some ⟨b, 0, none⟩) (hS : StrAt w b 0 n S) (s : ByteArray) (r : Bool) (hr : r = true ↔ ∃ i, i < n ∧ S i = s) :
    Calls Try.prog 13 #[.slice a n c, .string s] w fun e w' => e = .returned (.bool r) ∧ w' = w := by
  have HX := hd hx
  have HS := hd hS
  have HR := hd hr
  clear hx hS hr
  go_enter Try.func13, Try.ntmps13
  go_wp2
  go_loopg [5] n (fun g y wr => ∃ (k : Nat), k ≤ n ∧ g = n - k ∧ y = .int .i64 k ∧ Hid (∀ i, i < k → S i ≠ s) ∧ wr = w)
  case atStart => exact ⟨0, Nat.zero_le _, rfl, rfl, fun i hi => absurd hi (Nat.not_lt_zero _), rfl⟩
  case round =>
    obtain ⟨k, hk, rfl, rfl, H, rfl⟩ := hrel
    by_cases hlt : k < n
    · obtain rfl := HX.out (by omega)
      have hc := HS.out k hlt
      rw [Nat.zero_add] at hc
      have hk' : (k : Int) < n := by omega
      by_cases e : S k = s
      · rw [e] at hc
        have hr : r = true := HR.out.2 ⟨k, hlt, e⟩
        subst hr
        clear e
        go_wp2
        exact bodyPost_ret (v := .bool true) (by simp [results, Try.results13, go_sem]) rfl ⟨rfl, rfl⟩
      · have H2 : Hid (∀ i, i < k + 1 → S i ≠ s) := fun i hi => by
          by_cases e' : i = k
          · rw [e']; exact e
          · exact H.out i (by omega)
        obtain ⟨t, ht⟩ : ∃ t, S k = t := ⟨_, rfl⟩
        rw [ht] at hc e
        have e' : (t.toList == s.toList) = false := by
          rw [ByteArray.toList_eq, ByteArray.toList_eq]
          refine beq_false_of_ne (fun h => e ?_)
          cases t; cases s
          simpa [← Array.toList_inj] using h
        clear H ht
        go_wp2
        go_roundg (n - (k + 1))
        case measure => omega
        case rel => exact ⟨k + 1, hlt, rfl, by go_num, H2.out, rfl⟩
    · have hk' : ¬ (k : Int) < n := by omega
      have hr : r = false := by
        cases hb : r with
        | false => rfl
        | true =>
          obtain ⟨i, hi, e⟩ := HR.out.1 hb
          exact absurd e (H.out i (by omega))
      subst hr
      go_wp2
      exact bodyPost_ret (v := .bool false) (by simp [results, Try.results13, go_sem]) rfl ⟨rfl, rfl⟩

set_option maxRecDepth 100000 in
theorem split_run (a : Option Addr) (b o n c : Nat) (w : World) (Rt : Nat → Bool) (Nm : Nat → ByteArray) (hn : n ≤ 60000) (hx : 0 < n → a = some ⟨b, o, none⟩) (hS : StmAt w b o n Rt Nm) :
    Calls Try.prog 15 #[.slice a n c] w fun e w' => e = .returned (.tuple #[.slice (some ⟨w.heap.size, 0, none⟩) n n, .slice (some ⟨w.heap.size + 1, 0, none⟩) n n]) ∧ w'.rowIs w.heap.size 9 n (fun i => .string (Nm i)) ∧ w'.rowIs (w.heap.size + 1) 4 n (fun i => .bool (Rt i)) ∧ w.grownBy w' none := by
  have hmk1 := make30 n hn
  have hmk2 := make44 n hn
  have HX := hd hx
  have HS := hd hS
  clear hx hS
  go_enter Try.func15, Try.ntmps15
  go_wp2
  clear hmk1 hmk2
  go_loopg [6] n (fun g y wr => ∃ (k : Nat), k ≤ n ∧ g = n - k ∧ y = .int .i64 k ∧ Hid (wr.rowIs w.heap.size 9 n (fun j => if j < k then .string (Nm j) else .string ByteArray.empty) ∧ wr.rowIs (w.heap.size + 1) 4 n (fun j => if j < k then .bool (Rt j) else .bool false) ∧ w.grownBy wr none))
  case atStart =>
    refine ⟨0, Nat.zero_le _, rfl, rfl, ?_, ?_, (galloc w _ none).trans (galloc _ _ none)⟩
    · exact ((World.rowIs_made w (.string ByteArray.empty) n 9).alloc _).congr (fun i _ => by simp)
    · have := World.rowIs_made (w.alloc (.cells (madeCells #[.string ByteArray.empty] n) 9)) (.bool false) n 4
      have hsz : (w.alloc (.cells (madeCells #[.string ByteArray.empty] n) 9)).heap.size = w.heap.size + 1 := by simp
      rw [hsz] at this
      exact this.congr (fun i _ => by simp)
  case round =>
    obtain ⟨k, hk, rfl, rfl, H⟩ := hrel
    by_cases hlt : k < n
    · obtain rfl := HX.out (by omega)
      obtain ⟨hr1, hr2, hg⟩ := H.out
      obtain ⟨hc0, hc1⟩ := (HS.out.more hg) k hlt
      have hk' : (k : Int) < n := by omega
      have bl : b < w.heap.size := World.block_lt_of_cell? w _ (HS.out k hlt).1
      have nb : ¬ w.heap.size = b := by omega
      have nb' : ¬ b = w.heap.size := by omega
      have g0 := hr1.cell (i := k) hlt
      have f0 := hr1.frozen k
      have g1 := hr2.cell (i := k) hlt
      have f1 := hr2.frozen k
      simp only [Nat.lt_irrefl, if_false] at g0 g1
      have R : Hid (((wr.setCell ⟨w.heap.size, k, none⟩ (.string (Nm k))).setCell ⟨w.heap.size + 1, k, none⟩ (.bool (Rt k))).rowIs w.heap.size 9 n (fun j => if j < k + 1 then .string (Nm j) else .string ByteArray.empty) ∧ ((wr.setCell ⟨w.heap.size, k, none⟩ (.string (Nm k))).setCell ⟨w.heap.size + 1, k, none⟩ (.bool (Rt k))).rowIs (w.heap.size + 1) 4 n (fun j => if j < k + 1 then .bool (Rt j) else .bool false) ∧ w.grownBy ((wr.setCell ⟨w.heap.size, k, none⟩ (.string (Nm k))).setCell ⟨w.heap.size + 1, k, none⟩ (.bool (Rt k))) none) := by
        refine ⟨((hr1.set k (.string (Nm k))).setOther (by simp) _).congr (fun j hj => ?_), ((hr2.setOther (by simp) _).set k (.bool (Rt k))).congr (fun j hj => ?_), grown_new (grown_new hg (gset wr ⟨w.heap.size, k, none⟩ (.string (Nm k))) (Nat.le_refl _)) (gset _ ⟨w.heap.size + 1, k, none⟩ (.bool (Rt k))) (Nat.le_succ _)⟩
        · by_cases e : j = k
          · subst e; simp
          · rw [if_neg e]
            by_cases h : j < k
            · rw [if_pos h, if_pos (by omega)]
            · rw [if_neg h, if_neg (by omega)]
        · by_cases e : j = k
          · subst e; simp
          · rw [if_neg e]
            by_cases h : j < k
            · rw [if_pos h, if_pos (by omega)]
            · rw [if_neg h, if_neg (by omega)]
      clear hr1 hr2 hg H
      go_wp2
      go_roundg (n - (k + 1))
      case measure => omega
      case rel => exact ⟨k + 1, hlt, rfl, by go_num, R.out⟩
    · have hk' : ¬ (k : Int) < n := by omega
      have H5 : Hid (wr.rowIs w.heap.size 9 n (fun i => .string (Nm i)) ∧ wr.rowIs (w.heap.size + 1) 4 n (fun i => .bool (Rt i)) ∧ w.grownBy wr none) := by
        obtain ⟨hr1, hr2, hg⟩ := H.out
        exact ⟨hr1.congr (fun i hi => by rw [if_pos (by omega)]), hr2.congr (fun i hi => by rw [if_pos (by omega)]), hg⟩
      clear H
      go_wp2
      exact bodyPost_ret (v := .tuple #[.slice (some ⟨w.heap.size, 0, none⟩) n n, .slice (some ⟨w.heap.size + 1, 0, none⟩) n n]) (by simp [results, Try.results15, go_sem]) rfl ⟨rfl, H5.out⟩

def BU (u pb n l : Nat) : Value := .agg #[.map (some u), .slice (some ⟨pb, 0, none⟩) n n, .map (some l)]
def BUo (u pb n l : Nat) : Obj := .cells #[.map (some u), .slice (some ⟨pb, 0, none⟩) n n, .map (some l)] 51

theorem plen_run (u pb n l : Nat) (w : World) : Calls Try.prog 17 #[BU u pb n l] w fun e w' => e = .returned (.int .i64 n) ∧ w' = w.alloc (BUo u pb n l) := by
  unfold BU BUo
  go_enter Try.func17, Try.ntmps17
  go_wp2
  go_ret
  exact ⟨rfl, rfl⟩
theorem puse_run (u pb n l i : Nat) (hn : n ≤ 60000) (hi : i < n) (w : World) (v : Nat) (hv : w.cell? ⟨pb, i, none⟩ = some (.int .u8 v)) : Calls Try.prog 18 #[BU u pb n l, .int .i64 i] w fun e w' => e = .returned (.int .u8 v) ∧ w' = w.alloc (BUo u pb n l) := by
  unfold BU BUo
  have hi' : (i : Int) < n := by omega
  have hb := World.block_lt_of_cell? w _ hv
  have hv' : ∀ o : Obj, (w.alloc o).cell? ⟨pb, i, none⟩ = some (.int .u8 v) := fun o => (World.cell?_of_block (Below.heap_alloc w o pb hb)).trans hv
  go_enter Try.func18, Try.ntmps18
  go_wp2
  go_ret
  exact ⟨rfl, rfl⟩
theorem llen_run (u pb n l : Nat) (w : World) (ids : List Nat) (h : PMap w l ids) : Calls Try.prog 19 #[BU u pb n l] w fun e w' => e = .returned (.int .i64 ids.length) ∧ w' = w.alloc (BUo u pb n l) := by
  have hl := (h.kept (galloc w (BUo u pb n l) none) (by simp)).len Try.underlying49 (P := Try.prog)
  unfold BU
  unfold BUo at hl ⊢
  clear h
  go_enter Try.func19, Try.ntmps19
  go_wp2
  go_ret
  exact ⟨rfl, rfl⟩
theorem nlen_run (u pb n l : Nat) (w : World) (F : ByteArray → Option Value) (k : Nat) (h : StrMap w u F k) : Calls Try.prog 20 #[BU u pb n l] w fun e w' => e = .returned (.int .i64 k) ∧ w' = w.alloc (BUo u pb n l) := by
  have hl := (h.kept (galloc w (BUo u pb n l) none) (by simp)).len Try.underlying47 (P := Try.prog)
  unfold BU
  unfold BUo at hl ⊢
  clear h
  go_enter Try.func20, Try.ntmps20
  go_wp2
  go_ret
  exact ⟨rfl, rfl⟩
end Go.Proofs.Qxb6613372a
