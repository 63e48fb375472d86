/-
  Seat b6613462aF: the closed facts of fmt's stopped fronts over this dump, and the contracts of Errorf and fail.
-/
import Derived.Test.Qxb6613462aFmtRows
import Derived.Stop.CallBack
import Derived.Stop.IfaceNil
import Derived.WalkKit
import Derived.ProofKit
import Derived.OpenShut
import Derived.Below
import Derived.Outline
import Derived.WalkLawsBesides
import Derived.WalkSpells
import Derived.Deep.QuietTactic
import Derived.BigQuiet
import Derived.Deep.LoopGhost
import Derived.Deep.OwnRows
import Derived.Deep.RegionWith
import Derived.Lib.SliceRun
namespace Go.Proofs.Qxb6613462aFmt
open Go.ChangeShapes Go.WideShapes Go.ChangeAt Go.RowKit
open Go.Extern.Stop Go.Stop Go.Extern
set_option linter.unusedVariables false

theorem call16 (args : Array Value) (w : World) : (callFunc 16 args).run Tryf.prog w = ((FmtStop.sprintf #[9, 41] #[9] args).run Tryf.prog w).andThen fun v w' => .ok (.value v) w' :=
  run_callFunc_extern Tryf.func16 (by kernel_rfl) (by kernel_rfl) (by kernel_rfl) (by kernel_rfl) args w
theorem call18 (args : Array Value) (w : World) : (callFunc 18 args).run Tryf.prog w = ((FmtStop.errorf #[9, 41] #[28] args).run Tryf.prog w).andThen fun v w' => .ok (.value v) w' :=
  run_callFunc_extern Tryf.func18 (by kernel_rfl) (by kernel_rfl) (by kernel_rfl) (by kernel_rfl) args w
theorem fguard (name : String) (w : World) : (FmtStop.guard name).run Tryf.prog w = .ok () w := by kernel_rfl
theorem fmtQ : FmtStop.printed? ⟨#[37, 113, 32, 105, 110, 32, 37, 115]⟩ 2 = some [(0, 113, false), (1, 115, false)] := by kernel_rfl
theorem fmtW : FmtStop.printed? ⟨#[37, 119, 32, 97, 116, 32, 98, 121, 116, 101, 32, 37, 100, 58, 32, 37, 115]⟩ 3 = some [(0, 119, false), (1, 100, false), (2, 115, false)] := by kernel_rfl
theorem fmtWr (w : World) : (FmtDoors.printed ⟨#[37, 119, 32, 97, 116, 32, 98, 121, 116, 101, 32, 37, 100, 58, 32, 37, 115]⟩ 3).run Tryf.prog w = .ok [(0, 119, false), (1, 100, false), (2, 115, false)] w := by kernel_rfl
def shape3 : List UInt8 := [5, 3, 0, 0, 0, 0, 0, 0, 0, 105, 110, 116]
def shape5 : List UInt8 := [6, 5, 0, 0, 0, 0, 0, 0, 0, 117, 105, 110, 116, 56]
def shape9 : List UInt8 := [12, 6, 0, 0, 0, 0, 0, 0, 0, 115, 116, 114, 105, 110, 103]
theorem op3_100w (name : String) (x : Int) (w : World) : (FmtStop.operand name true 100 false (.iface 3 (.int .i64 x))).run Tryf.prog w = .ok (shape3, Go.Extern.Stop.digits 8 (x % 2 ^ 64).toNat) w := by kernel_rfl
theorem op5_113 (name : String) (x : Int) (w : World) : (FmtStop.operand name false 113 false (.iface 5 (.int .u8 x))).run Tryf.prog w = .ok (shape5, Go.Extern.Stop.digits 8 (x % 2 ^ 64).toNat) w := by kernel_rfl
theorem op9_115 (name : String) (x : ByteArray) (w : World) : (FmtStop.operand name false 115 false (.iface 9 (.string x))).run Tryf.prog w = .ok (shape9, FmtStop.pack x.data.toList) w := by kernel_rfl
theorem op9_115w (name : String) (x : ByteArray) (w : World) : (FmtStop.operand name true 115 false (.iface 9 (.string x))).run Tryf.prog w = .ok (shape9, FmtStop.pack x.data.toList) w := by kernel_rfl
theorem name43 : Tryf.prog.typeName? 3 43 = some "*errors.errorString" := by kernel_rfl
def plain43 : List UInt8 := 14 :: FmtStop.pack "*errors.errorString".toUTF8.data.toList
theorem opPlain43 (name : String) (a : Addr) (s : ByteArray) (w : World) (hc : w.cell? a = some (.string s)) :
    (FmtStop.operand name true 119 false (.iface 43 (.pointer (some a)))).run Tryf.prog w = .ok (plain43, s.data.toList) w := by
  have h1 : (typeStr 43).run Tryf.prog w = .ok "*errors.errorString" w := by kernel_rfl
  have d2 : Tryf.t43.desc = .pointer 45 := rfl
  have d3 : Tryf.t45.desc = .named "errors.errorString" 44 := rfl
  simp [FmtStop.operand, h1, d2, d3, run_load, hc, plain43]
theorem ptr42 (w : World) : (FmtStop.ptrTo "fmt.wrapError").run Tryf.prog w = .ok 42 w := by kernel_rfl
theorem elem42 (w : World) : (elemOf 42).run Tryf.prog w = .ok 64 w := by kernel_rfl
theorem isError43 (w : World) : (FmtDoors.textMethod 43 "Error").run Tryf.prog w = .ok true w := by kernel_rfl

attribute [local go_sem] call16 call18 fguard fmtQ fmtW fmtWr op3_100w op5_113 op9_115 op9_115w ptr42 elem42 isError43

theorem errorf_any (V : Nat) (a : Addr) (s what : ByteArray) (p : Int) (w : World)
    (h0 : w.cell? ⟨V, 0, none⟩ = some (.iface 43 (.pointer (some a)))) (h1 : w.cell? ⟨V, 1, none⟩ = some (.iface 3 (.int .i64 p))) (h2 : w.cell? ⟨V, 2, none⟩ = some (.iface 9 (.string what))) (hs : w.cell? a = some (.string s)) :
    Calls Tryf.prog 17 #[.string ⟨#[37, 119, 32, 97, 116, 32, 98, 121, 116, 101, 32, 37, 100, 58, 32, 37, 115]⟩, .slice (some ⟨V, 0, none⟩) 3 3] w fun e w' =>
      ∃ T : ByteArray, e = .returned (.iface 42 (.pointer (some ⟨w.heap.size, 0, none⟩))) ∧ w' = (w.alloc (.cells #[.string T, .iface 43 (.pointer (some a))] 64)).drew := by
  have hop := opPlain43 "fmt.errorf" a s w hs
  go_enter Tryf.func17, Tryf.ntmps17
  go_wp2
  go_ret
  exact ⟨_, rfl, rfl⟩

/-- w' is w, but for block B, which is now o, for new blocks, and for draws. -/
structure Ups (w w' : World) (B : Nat) (o : Obj) : Prop where
  os : w'.os = w.os
  tape : w'.tape = w.tape
  output : w'.output = w.output
  size : w.heap.size ≤ w'.heap.size
  block : ∀ k, k < w.heap.size → k ≠ B → w'.heap[k]? = w.heap[k]?
  here : w'.heap[B]? = some o

theorem Ups.start {w : World} {B : Nat} {o : Obj} (h : w.heap[B]? = some o) : Ups w w B o := ⟨rfl, rfl, rfl, Nat.le_refl _, fun _ _ _ => rfl, h⟩
theorem Ups.drewN {w wr : World} {B : Nat} {o : Obj} (h : Ups w wr B o) (n : Nat) : Ups w (wr.drewN n) B o := ⟨h.os, h.tape, h.output, h.size, h.block, h.here⟩
theorem Ups.drew {w wr : World} {B : Nat} {o : Obj} (h : Ups w wr B o) : Ups w wr.drew B o := ⟨h.os, h.tape, h.output, h.size, h.block, h.here⟩
theorem lt_block {w : World} {B : Nat} {o : Obj} (h : w.heap[B]? = some o) : B < w.heap.size := by
  obtain ⟨hlt, _⟩ := Array.getElem?_eq_some_iff.1 h
  exact hlt
theorem Ups.alloc {w wr : World} {B : Nat} {o : Obj} (h : Ups w wr B o) (x : Obj) : Ups w (wr.alloc x) B o :=
  ⟨h.os, h.tape, h.output, (by have := h.size; simp; omega), fun k hk hB => (Below.heap_alloc wr x k (Nat.lt_of_lt_of_le hk h.size)).trans (h.block k hk hB), (Below.heap_alloc wr x B (lt_block h.here)).trans h.here⟩
theorem heap_set {w : World} {B : Nat} {c : Array Value} {t : TypeId} {fr : Nat × Nat} (h : w.heap[B]? = some (.cells c t fr)) (i : Nat) (v : Value) :
    (w.setCell ⟨B, i, none⟩ v).heap[B]? = some (.cells (c.setIfInBounds i v) t fr) := by
  simp [World.setCell, Array.getElem?_modify, h]
theorem Ups.set {w wr : World} {B : Nat} {c : Array Value} {t : TypeId} {fr : Nat × Nat} (h : Ups w wr B (.cells c t fr)) (i : Nat) (v : Value) :
    Ups w (wr.setCell ⟨B, i, none⟩ v) B (.cells (c.setIfInBounds i v) t fr) :=
  ⟨h.os, h.tape, h.output, (by have := h.size; simpa [World.setCell] using this), fun k hk hB => (Below.heap_setCell wr _ v k hB).trans (h.block k hk hB), heap_set h.here i v⟩
theorem Ups.cell {w wr : World} {B : Nat} {o : Obj} (h : Ups w wr B o) {a : Addr} (hl : a.block < w.heap.size) (ha : a.block ≠ B) : wr.cell? a = w.cell? a := World.cell?_of_block (h.block _ hl ha)
theorem Ups.trans {w w1 w2 : World} {B : Nat} {o1 o2 : Obj} (h : Ups w w1 B o1) (k : Ups w1 w2 B o2) : Ups w w2 B o2 :=
  ⟨k.os.trans h.os, k.tape.trans h.tape, k.output.trans h.output, Nat.le_trans h.size k.size, fun i hi hB => (k.block i (Nat.lt_of_lt_of_le hi h.size) hB).trans (h.block i hi hB), k.here⟩

/-- The scanner's block: its text, its place, what it failed with. -/
def scan (d : Value) (p : Int) (er : Value) : Obj := .cells #[d, .int .i64 p, .string ⟨#[97, 32, 118, 97, 108, 117, 101]⟩, .slice none 0 0, .int .i64 0, er] 37

theorem cell_block {w : World} {B : Nat} {c : Array Value} {t : TypeId} {fr : Nat × Nat} (h : w.heap[B]? = some (.cells c t fr)) (i : Nat) : w.cell? ⟨B, i, none⟩ = c[i]? := by
  simp [World.cell?, h]
theorem free_block {w : World} {B : Nat} {c : Array Value} {t : TypeId} (h : w.heap[B]? = some (.cells c t (0, 0))) (i : Nat) : w.frozen? ⟨B, i, none⟩ = false := by
  simp [World.frozen?, h]

/-- The sentinel lies in memory. -/
def Sent (w : World) (a : Addr) (s : ByteArray) : Prop := w.cell? ⟨0, 0, none⟩ = some (.iface 43 (.pointer (some a))) ∧ w.cell? a = some (.string s)

theorem lt_of_cell {w : World} {a : Addr} {v : Value} (h : w.cell? a = some v) : a.block < w.heap.size := by
  rcases Nat.lt_or_ge a.block w.heap.size with h' | h'
  · exact h'
  · simp [World.cell?, Array.getElem?_eq_none h'] at h

theorem fail_any (B : Nat) (d : Value) (p : Int) (er : Value) (what : ByteArray) (a : Addr) (s : ByteArray) (w : World) (hB : w.heap[B]? = some (scan d p er)) (hS : Sent w a s) (hB0 : B ≠ 0) :
    Calls Tryf.prog 15 #[.pointer (some ⟨B, 0, none⟩), .string what] w fun e w' =>
      ∃ N, e = .returned (.iface 42 (.pointer (some ⟨N, 0, none⟩))) ∧ Ups w w' B (scan d p (.iface 42 (.pointer (some ⟨N, 0, none⟩)))) := by
  obtain ⟨hg, hs⟩ := hS
  have hBl := lt_block hB
  have h0l : 0 < w.heap.size := lt_of_cell hg
  have hal : a.block < w.heap.size := lt_of_cell hs
  have c1 : w.cell? ⟨B, 1, none⟩ = some (.int .i64 p) := cell_block hB 1
  have c5 : w.cell? ⟨B, 5, none⟩ = some er := cell_block hB 5
  have f5 : w.frozen? ⟨B, 5, none⟩ = false := free_block hB 5
  have hs1 : ∀ o1, (w.alloc o1).cell? a = some (.string s) := fun o1 => (World.cell?_alloc_lt _ _ _ hal).trans hs
  have HB : Hid (w.heap[B]? = some (scan d p er)) := hB
  clear hB
  go_enter Tryf.func15, Tryf.ntmps15
  go_wp2
  go_region_with (go_at_call 17; refine (errorf_any _ a s what p _ ?_ ?_ ?_ ?_).mono ?_; (go_simp); (go_simp); (go_simp); (exact hs1 _); rintro e w1 ⟨T, rfl, rfl⟩)
  all_goals
    go_wp2
    go_ret
    refine ⟨w.heap.size + 1, rfl, ?_⟩
    first
      | exact (((((Ups.start HB.out).set 5 _).alloc _).alloc _).drew).drew
      | exact ((((Ups.start HB.out).set 5 _).alloc _).alloc _).drew

theorem newAt_any (a : Option Addr) (n c : Nat) (p : Int) (w : World) :
    Calls Tryf.prog 7 #[.slice a n c, .int .i64 p] w fun e w' => e = .returned (.pointer (some ⟨w.heap.size, 0, none⟩)) ∧ w' = w.alloc (scan (.slice a n c) p .nilIface) := by
  go_enter Tryf.func7, Tryf.ntmps7
  go_wp2
  go_ret
  exact ⟨rfl, rfl⟩

theorem pos_any (B : Nat) (p : Int) (w : World) (hp : w.cell? ⟨B, 1, none⟩ = some (.int .i64 p)) :
    Calls Tryf.prog 9 #[.pointer (some ⟨B, 0, none⟩)] w fun e w' => e = .returned (.int .i64 p) ∧ w' = w := by
  go_enter Tryf.func9, Tryf.ntmps9
  go_wp2
  go_ret
  exact ⟨rfl, rfl⟩

theorem err_any (B : Nat) (er : Value) (w : World) (hp : w.cell? ⟨B, 5, none⟩ = some er) :
    Calls Tryf.prog 10 #[.pointer (some ⟨B, 0, none⟩)] w fun e w' => e = .returned er ∧ w' = w := by
  go_enter Tryf.func10, Tryf.ntmps10
  go_wp2
  go_ret
  exact ⟨rfl, rfl⟩

theorem info5 : (Tryf.prog.info? 5).map (fun i => (i.zero, i.size, i.bytes)) = some (some (.int .u8 0), 1, 1) := by kernel_rfl

theorem clone_nil (n c : Nat) (w : World) :
    Calls Tryf.prog 6 #[.slice none n c] w fun e w' => e = .returned (.slice none 0 0) ∧ w' = w := by
  have hn := fun wx => Lib.run_eql_slice_nil (P := Tryf.prog) wx 22 5 none n c 0 0 Tryf.underlying22
  go_enter Tryf.func6, Tryf.ntmps6
  go_wp2
  go_ret
  exact ⟨rfl, rfl⟩

theorem clone_some (x : Addr) (n c : Nat) (w : World) (f : Nat → Int) (hn : n ≤ 1048576) (hx : 0 < n → x.spot = none)
    (hc : ∀ i, i < n → w.cell? ⟨x.block, x.off + i, none⟩ = some (.int .u8 (f i))) (hb : 0 < n → x.block < w.heap.size) :
    Calls Tryf.prog 6 #[.slice (some x) n c] w fun e w' => e = .returned (.slice (some ⟨w.heap.size, 0, none⟩) n n) ∧
      w'.rowIs w.heap.size 5 n (fun i => .int .u8 (f i)) ∧ Below w.heap.size w w' ∧ w'.heap.size = w.heap.size + 1 := by
  have hnil := fun wx => Lib.run_eql_slice_nil (P := Tryf.prog) wx 22 5 (some x) n c 0 0 Tryf.underlying22
  have hmk := run_make_row' (P := Tryf.prog) 22 5 (.int .u8 0) 1 Tryf.underlying22 info5 rfl .i64 .i64 n (by omega) (by omega)
  obtain ⟨xb, xo, xs⟩ := x
  go_enter Tryf.func6, Tryf.ntmps6
  go_wp2
  clear hnil hmk
  go_loopg [4] n (fun g i wr => ∃ k : Nat, k ≤ n ∧ g = n - k ∧ i = .int .i64 k ∧ wr.rowIs w.heap.size 5 n (fun j => if j < k then .int .u8 (f j) else .int .u8 0) ∧ Below w.heap.size w wr ∧ wr.heap.size = w.heap.size + 1)
  case atStart =>
    refine ⟨0, Nat.zero_le _, by omega, rfl, ?_, (Below.refl _ _).alloc (Nat.le_refl _) _, by simp⟩
    exact (World.rowIs_made w (.int .u8 0) n 5).congr (fun i _ => by simp)
  case round =>
    obtain ⟨k, hk, rfl, rfl, hrow, hbel, hsz⟩ := hrel
    by_cases hlt : k < n
    · obtain rfl : xs = none := hx (by omega)
      have hcell : wr.cell? ⟨xb, xo + k, none⟩ = some (.int .u8 (f k)) := (hbel.cell (p := ⟨xb, xo + k, none⟩) (hb (by omega))).trans (hc k hlt)
      have hold := hrow.cell hlt
      rw [if_neg (by omega)] at hold
      have hfr := hrow.frozen k
      have hne : ¬ xb = w.heap.size := by have h2 : xb < w.heap.size := hb (by omega); omega
      have R : (wr.setCell ⟨w.heap.size, k, none⟩ (.int .u8 (f k))).rowIs w.heap.size 5 n (fun j => if j < k + 1 then .int .u8 (f j) else .int .u8 0) := by
        refine (hrow.set k (.int .u8 (f k))).congr fun j _ => ?_
        by_cases e : j = k
        · subst e; simp
        · simp only [if_neg e]
          by_cases e2 : j < k
          · rw [if_pos e2, if_pos (by omega)]
          · rw [if_neg e2, if_neg (by omega)]
      have R2 : Below w.heap.size w (wr.setCell ⟨w.heap.size, k, none⟩ (.int .u8 (f k))) := hbel.setCell (Nat.le_refl _) _
      have R3 : Hid ((wr.setCell ⟨w.heap.size, k, none⟩ (.int .u8 (f k))).heap.size = w.heap.size + 1) := by show _ = _; simpa [World.setCell] using hsz
      clear hrow hbel hc hx hb
      go_wp2
      go_roundg (n - (k + 1))
      case measure => omega
      case rel => exact ⟨k + 1, by omega, rfl, by go_num, R, R2, R3.out⟩
    · go_wp2
      go_ret
      refine ⟨rfl, hrow.congr fun i hi => ?_, hbel, hsz⟩
      rw [if_pos (by omega)]

theorem clone_any (a : Option Addr) (n c : Nat) (w : World) (f : Nat → Int) (hn : n ≤ 1048576) (ha : ∀ x, a = some x → 0 < n → x.spot = none ∧ x.block < w.heap.size ∧ ∀ i, i < n → w.cell? ⟨x.block, x.off + i, none⟩ = some (.int .u8 (f i)))
    (h0 : a = none → n = 0) :
    Calls Tryf.prog 6 #[.slice a n c] w fun e w' => ∃ a', e = .returned (.slice a' n n) ∧ (a' = none → n = 0) ∧ (∀ x, a' = some x → x = ⟨w.heap.size, 0, none⟩ ∧ w.heap.size < w'.heap.size) ∧
      (∀ i, i < n → w'.cell? ⟨w.heap.size, i, none⟩ = some (.int .u8 (f i))) ∧ Below w.heap.size w w' := by
  cases a with
  | none =>
    obtain rfl := h0 rfl
    refine (clone_nil 0 c w).mono ?_
    rintro e w' ⟨rfl, rfl⟩
    exact ⟨none, rfl, fun _ => rfl, fun x h => (by cases h), fun i h => absurd h (Nat.not_lt_zero _), Below.refl _ _⟩
  | some x =>
    refine (clone_some x n c w f hn (fun h => (ha x rfl h).1) (fun i h => (ha x rfl (by omega)).2.2 i h) (fun h => (ha x rfl h).2.1)).mono ?_
    rintro e w' ⟨rfl, hr, hb, hs⟩
    exact ⟨_, rfl, (fun h => by cases h), fun x h => ⟨by cases h; rfl, by omega⟩, fun i h => hr.cell h, hb⟩
end Go.Proofs.Qxb6613462aFmt
