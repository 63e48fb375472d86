/-
  Seat b6613462a: the contracts of the scanner's small functions and of the law's helpers.
-/
import Derived.Test.Qxb6613462aRows
import Derived.WalkKit
import Derived.ProofKit
import Derived.OpenShut
import Derived.Below
import Derived.Outline
import Derived.WalkLawsBesides
import Derived.Deep.QuietTactic
import Derived.BigQuiet
import Derived.Deep.LoopGhost
import Derived.Deep.OwnRows
import Derived.Deep.Light
namespace Go.Proofs.Qxb6613462a
open Go.ChangeShapes Go.WideShapes Go.ChangeAt Go.RowKit

/-! ### Worlds -/
/-- w' is w, but for block B, which is now o (and for draws). -/
structure Upd (w w' : World) (B : Nat) (o : Obj) : Prop where
  os : w'.os = w.os
  tape : w'.tape = w.tape
  output : w'.output = w.output
  size : w'.heap.size = w.heap.size
  block : ∀ k, k ≠ B → w'.heap[k]? = w.heap[k]?
  here : w'.heap[B]? = some o

theorem Upd.start {w : World} {B : Nat} {o : Obj} (h : w.heap[B]? = some o) : Upd w w B o := ⟨rfl, rfl, rfl, rfl, fun _ _ => rfl, h⟩

theorem cell_block {w : World} {B : Nat} {c : Array Value} {t : TypeId} {fr : Nat × Nat} (h : w.heap[B]? = some (.cells c t fr)) (i : Nat) : w.cell? ⟨B, i, none⟩ = c[i]? := by
  simp [World.cell?, h]

theorem free_block {w : World} {B : Nat} {c : Array Value} {t : TypeId} (h : w.heap[B]? = some (.cells c t (0, 0))) (i : Nat) : w.frozen? ⟨B, i, none⟩ = false := by
  simp [World.frozen?, h]

theorem heap_set {w : World} {B : Nat} {c : Array Value} {t : TypeId} {fr : Nat × Nat} (h : w.heap[B]? = some (.cells c t fr)) (i : Nat) (v : Value) :
    (w.setCell ⟨B, i, none⟩ v).heap[B]? = some (.cells (c.setIfInBounds i v) t fr) := by
  simp [World.setCell, Array.getElem?_modify, h]

theorem Upd.set {w wr : World} {B : Nat} {c : Array Value} {t : TypeId} {fr : Nat × Nat} (h : Upd w wr B (.cells c t fr)) (i : Nat) (v : Value) (n : Nat) :
    Upd w ((wr.setCell ⟨B, i, none⟩ v).drewN n) B (.cells (c.setIfInBounds i v) t fr) :=
  ⟨h.os, h.tape, h.output, (by have := h.size; simpa [World.setCell, World.drewN] using this), fun k hk => (Below.heap_setCell wr _ v k hk).trans (h.block k hk), heap_set h.here i v⟩

theorem Upd.drewN {w wr : World} {B : Nat} {o : Obj} (h : Upd w wr B o) (n : Nat) : Upd w (wr.drewN n) B o := ⟨h.os, h.tape, h.output, h.size, h.block, h.here⟩

theorem Upd.cell {w wr : World} {B : Nat} {o : Obj} (h : Upd w wr B o) {a : Addr} (ha : a.block ≠ B) : wr.cell? a = w.cell? a := World.cell?_of_block (h.block _ ha)

/-! ### Digits -/
def dgB (c : Int) : Bool := decide (48 ≤ c ∧ c ≤ 57)

theorem dig_of (c : Int) (w : World) (b : Bool) (hb : dgB c = b) : Calls Try.prog 12 #[.int .u8 c] w fun e w' => e = .returned (.bool b) ∧ w' = w := by
  have HB : Hid (dgB c = b) := hb
  clear hb
  rcases (show c < 48 ∨ (48 ≤ c ∧ c ≤ 57) ∨ 58 ≤ c from by omega) with h | ⟨h, h'⟩ | h
  all_goals
    go_enter Try.func12, Try.ntmps12
    go_wp2
    go_ret
    refine ⟨?_, rfl⟩
    have hb := HB.out
    unfold dgB at hb
    first
      | (have hb' : b = true := by rw [← hb]; exact decide_eq_true (by omega)
         subst hb'; simp; try omega)
      | (have hb' : b = false := by rw [← hb]; exact decide_eq_false (by omega)
         subst hb'; simp; try omega)

theorem dec_of (c : Int) (w : World) (b : Bool) (hb : dgB c = b) : Calls Try.prog 9 #[.int .u8 c] w fun e w' => e = .returned (.bool b) ∧ w' = w := by
  have HB : Hid (dgB c = b) := hb
  clear hb
  rcases (show c < 48 ∨ (48 ≤ c ∧ c ≤ 57) ∨ 58 ≤ c from by omega) with h | ⟨h, h'⟩ | h
  all_goals
    go_enter Try.func9, Try.ntmps9
    go_wp2
    go_ret
    refine ⟨?_, rfl⟩
    have hb := HB.out
    unfold dgB at hb
    first
      | (have hb' : b = true := by rw [← hb]; exact decide_eq_true (by omega)
         subst hb'; simp; try omega)
      | (have hb' : b = false := by rw [← hb]; exact decide_eq_false (by omega)
         subst hb'; simp; try omega)

/-- The end of the run of digits from place p on, at most k places further. -/
def runTo (f : Nat → Int) : Nat → Nat → Nat
  | 0, p => p
  | k + 1, p => if dgB (f p) then runTo f k (p + 1) else p

def runEnd (f : Nat → Int) (n p : Nat) : Nat := runTo f (n - p) p

theorem runEnd_step (f : Nat → Int) (n p : Nat) (h : p < n) (hd : dgB (f p) = true) : runEnd f n p = runEnd f n (p + 1) := by
  unfold runEnd
  obtain ⟨k, hk⟩ : ∃ k, n - p = k + 1 := ⟨n - p - 1, by omega⟩
  rw [hk, show n - (p + 1) = k by omega]
  simp [runTo, hd]
theorem runEnd_stop (f : Nat → Int) (n p : Nat) (h : p < n) (hd : dgB (f p) = false) : runEnd f n p = p := by
  unfold runEnd
  obtain ⟨k, hk⟩ : ∃ k, n - p = k + 1 := ⟨n - p - 1, by omega⟩
  rw [hk]
  simp [runTo, hd]
theorem runEnd_end (f : Nat → Int) (n p : Nat) (h : n ≤ p) : runEnd f n p = p := by
  unfold runEnd
  rw [show n - p = 0 by omega]
  rfl

/-- The scanner's block. -/
def scan (d : Value) (p : Int) : Obj := .cells #[d, .int .i64 p, .string ⟨#[97, 32, 118, 97, 108, 117, 101]⟩, .slice none 0 0, .int .i64 0, .nilIface] 36

theorem newAt_any (a : Option Addr) (n c : Nat) (p : Int) (w : World) :
    Calls Try.prog 6 #[.slice a n c, .int .i64 p] w fun e w' => e = .returned (.pointer (some ⟨w.heap.size, 0, none⟩)) ∧ w' = w.alloc (scan (.slice a n c) p) := by
  go_enter Try.func6, Try.ntmps6
  go_wp2
  go_ret
  exact ⟨rfl, rfl⟩

theorem pos_any (B : Nat) (p : Int) (w : World) (hp : w.cell? ⟨B, 1, none⟩ = some (.int .i64 p)) :
    Calls Try.prog 8 #[.pointer (some ⟨B, 0, none⟩)] w fun e w' => e = .returned (.int .i64 p) ∧ w' = w := by
  go_enter Try.func8, Try.ntmps8
  go_wp2
  go_ret
  exact ⟨rfl, rfl⟩

theorem fits_small (a : Option Addr) (n c : Nat) (p : Int) (w : World) (h : n ≤ 1048576) :
    Calls Try.prog 4 #[.slice a n c, .int .i64 p] w fun e w' => e = .returned (.bool true) ∧ w' = w := by
  go_enter Try.func4, Try.ntmps4
  go_wp2
  go_ret
  exact ⟨rfl, rfl⟩
theorem fits_big (a : Option Addr) (n c : Nat) (p : Int) (w : World) (h : 1048576 < n) :
    Calls Try.prog 4 #[.slice a n c, .int .i64 p] w fun e w' => e = .returned (.bool false) ∧ w' = w := by
  go_enter Try.func4, Try.ntmps4
  go_wp2
  go_ret
  exact ⟨rfl, rfl⟩

end Go.Proofs.Qxb6613462a
