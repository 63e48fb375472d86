/-
  Seat b6613462a: the contracts of digits and cloneBytes.
-/
import Derived.Test.Qxb6613462aA
import Derived.Lib.SliceRun
namespace Go.Proofs.Qxb6613462a
open Go.ChangeShapes Go.WideShapes Go.ChangeAt Go.RowKit

theorem info5 : (Try.prog.info? 5).map (fun i => (i.zero, i.size, i.bytes)) = some (some (.int .u8 0), 1, 1) := by kernel_rfl

theorem clone_nil (n c : Nat) (w : World) :
    Calls Try.prog 5 #[.slice none n c] w fun e w' => e = .returned (.slice none 0 0) ∧ w' = w := by
  have hn := fun wx => Lib.run_eql_slice_nil (P := Try.prog) wx 22 5 none n c 0 0 Try.underlying22
  go_enter Try.func5, Try.ntmps5
  go_wp2
  go_ret
  exact ⟨rfl, rfl⟩

theorem clone_some (x : Addr) (n c : Nat) (w : World) (f : Nat → Int) (hn : n ≤ 1048576) (hx : 0 < n → x.spot = none)
    (hc : ∀ i, i < n → w.cell? ⟨x.block, x.off + i, none⟩ = some (.int .u8 (f i))) (hb : 0 < n → x.block < w.heap.size) :
    Calls Try.prog 5 #[.slice (some x) n c] w fun e w' => e = .returned (.slice (some ⟨w.heap.size, 0, none⟩) n n) ∧
      w'.rowIs w.heap.size 5 n (fun i => .int .u8 (f i)) ∧ Below w.heap.size w w' ∧ w'.heap.size = w.heap.size + 1 := by
  have hnil := fun wx => Lib.run_eql_slice_nil (P := Try.prog) wx 22 5 (some x) n c 0 0 Try.underlying22
  have hmk := run_make_row' (P := Try.prog) 22 5 (.int .u8 0) 1 Try.underlying22 info5 rfl .i64 .i64 n (by omega) (by omega)
  obtain ⟨xb, xo, xs⟩ := x
  go_enter Try.func5, Try.ntmps5
  go_wp2
  clear hnil hmk
  go_loopg [4] n (fun g i wr => ∃ k : Nat, k ≤ n ∧ g = n - k ∧ i = .int .i64 k ∧ wr.rowIs w.heap.size 5 n (fun j => if j < k then .int .u8 (f j) else .int .u8 0) ∧ Below w.heap.size w wr ∧ wr.heap.size = w.heap.size + 1)
  case atStart =>
    refine ⟨0, Nat.zero_le _, by omega, rfl, ?_, (Below.refl _ _).alloc (Nat.le_refl _) _, by simp⟩
    exact (World.rowIs_made w (.int .u8 0) n 5).congr (fun i _ => by simp)
  case round =>
    obtain ⟨k, hk, rfl, rfl, hrow, hbel, hsz⟩ := hrel
    by_cases hlt : k < n
    · obtain rfl : xs = none := hx (by omega)
      have hcell : wr.cell? ⟨xb, xo + k, none⟩ = some (.int .u8 (f k)) := (hbel.cell (p := ⟨xb, xo + k, none⟩) (hb (by omega))).trans (hc k hlt)
      have hold := hrow.cell hlt
      rw [if_neg (by omega)] at hold
      have hfr := hrow.frozen k
      have hne : ¬ xb = w.heap.size := by have h2 : xb < w.heap.size := hb (by omega); omega
      have R : (wr.setCell ⟨w.heap.size, k, none⟩ (.int .u8 (f k))).rowIs w.heap.size 5 n (fun j => if j < k + 1 then .int .u8 (f j) else .int .u8 0) := by
        refine (hrow.set k (.int .u8 (f k))).congr fun j _ => ?_
        by_cases e : j = k
        · subst e; simp
        · simp only [if_neg e]
          by_cases e2 : j < k
          · rw [if_pos e2, if_pos (by omega)]
          · rw [if_neg e2, if_neg (by omega)]
      have R2 : Below w.heap.size w (wr.setCell ⟨w.heap.size, k, none⟩ (.int .u8 (f k))) := hbel.setCell (Nat.le_refl _) _
      have R3 : Hid ((wr.setCell ⟨w.heap.size, k, none⟩ (.int .u8 (f k))).heap.size = w.heap.size + 1) := by show _ = _; simpa [World.setCell] using hsz
      clear hrow hbel hc hx hb
      go_wp2
      go_roundg (n - (k + 1))
      case measure => omega
      case rel => exact ⟨k + 1, by omega, rfl, by go_num, R, R2, R3.out⟩
    · go_wp2
      go_ret
      refine ⟨rfl, hrow.congr fun i hi => ?_, hbel, hsz⟩
      rw [if_pos (by omega)]

/-- digits: the scanner's place moves on to the end of the run. -/
theorem digits_any (a : Option Addr) (n c p B : Nat) (w : World) (f : Nat → Int) (hn : n ≤ 1048576) (hp : p ≤ n)
    (hB : w.heap[B]? = some (scan (.slice a n c) p)) (b off : Nat) (hbB : 0 < n → b ≠ B) (ha : 0 < n → a = some ⟨b, off, none⟩)
    (hc : ∀ i, i < n → w.cell? ⟨b, off + i, none⟩ = some (.int .u8 (f i))) :
    Calls Try.prog 11 #[.pointer (some ⟨B, 0, none⟩)] w fun e w' => e = .returned (.bool (decide (p < runEnd f n p))) ∧
      Upd w w' B (scan (.slice a n c) (runEnd f n p)) := by
  have hB0 : w.cell? ⟨B, 0, none⟩ = some (.slice a n c) := cell_block hB 0
  have hB1 : w.cell? ⟨B, 1, none⟩ = some (.int .i64 p) := cell_block hB 1
  go_enter Try.func11, Try.ntmps11
  go_wp2
  clear hB0 hB1
  go_loopg [] (n - p) (fun g wr => ∃ k : Nat, p ≤ k ∧ k ≤ n ∧ g = n - k ∧ runEnd f n p = runEnd f n k ∧ Upd w wr B (scan (.slice a n c) k))
  case atStart => exact ⟨p, Nat.le_refl _, hp, rfl, rfl, Upd.start hB⟩
  case round =>
    obtain ⟨k, hpk, hk, rfl, hrun, hU⟩ := hrel
    have HR : Hid (runEnd f n p = runEnd f n k) := hrun
    have hB0 : wr.cell? ⟨B, 0, none⟩ = some (.slice a n c) := cell_block hU.here 0
    have hB1 : wr.cell? ⟨B, 1, none⟩ = some (.int .i64 k) := cell_block hU.here 1
    have hBf : wr.frozen? ⟨B, 1, none⟩ = false := free_block hU.here 1
    clear hrun hB
    by_cases hlt : k < n
    · have hlt' : (k : Int) < (n : Int) := by omega
      obtain rfl := ha (by omega)
      have hcell : wr.cell? ⟨b, off + k, none⟩ = some (.int .u8 (f k)) := (hU.cell (hbB (by omega))).trans (hc k hlt)
      by_cases hd : dgB (f k) = true
      · have HU : Hid (∀ m, Upd w ((wr.setCell ⟨B, 1, none⟩ (.int .i64 ((k + 1 : Nat) : Int))).drewN m) B (scan (.slice (some ⟨b, off, none⟩) n c) ((k + 1 : Nat) : Int))) := fun m => hU.set 1 _ m
        have HD : Hid (dgB (f k) = true) := hd
        clear hU hc hd ha hbB
        go_wp2
        go_quiet ((go_at_call 12; exact Calls.quiet_of_same (dig_of _ _ _ HD.out)))
        go_wp2
        go_roundg (n - (k + 1))
        case measure => omega
        case rel => 
          refine ⟨k + 1, by omega, by omega, rfl, ?_, HU.out _⟩
          rw [HR.out]; exact runEnd_step f n k hlt HD.out
      · have hd' : dgB (f k) = false := by simpa using hd
        have HD : Hid (dgB (f k) = false) := hd'
        have HU : Hid (Upd w wr B (scan (.slice (some ⟨b, off, none⟩) n c) k)) := hU
        clear hU hc hd hd' ha hbB
        go_wp2
        go_quiet ((go_at_call 12; exact Calls.quiet_of_same (dig_of _ _ _ HD.out)))
        go_wp2
        go_ret
        have e : runEnd f n p = k := HR.out.trans (runEnd_stop f n k hlt HD.out)
        rw [e]
        refine ⟨by simp, HU.out.drewN _⟩
    · have hd : decide ((k : Int) < (n : Int)) = false := decide_eq_false (by omega)
      have HU : Hid (Upd w wr B (scan (.slice a n c) k)) := hU
      clear hU hc ha hbB
      go_wp2
      go_quiet (fail)
      go_wp2
      go_ret
      have e : runEnd f n p = k := HR.out.trans (runEnd_end f n k (by omega))
      rw [e]
      refine ⟨by simp, HU.out.drewN _⟩

theorem zzdigits_any (a : Option Addr) (n c p B : Nat) (w : World) (f : Nat → Int) (hn : n ≤ 1048576) (hp : p ≤ n)
    (hB : w.heap[B]? = some (scan (.slice a n c) p)) (b off : Nat) (hbB : 0 < n → b ≠ B) (ha : 0 < n → a = some ⟨b, off, none⟩)
    (hc : ∀ i, i < n → w.cell? ⟨b, off + i, none⟩ = some (.int .u8 (f i))) :
    Calls Try.prog 7 #[.pointer (some ⟨B, 0, none⟩)] w fun e w' => e = .returned (.bool (decide (p < runEnd f n p))) ∧
      Upd w w' B (scan (.slice a n c) (runEnd f n p)) := by
  have D : Hid (Calls Try.prog 11 #[.pointer (some ⟨B, 0, none⟩)] w fun e w' => e = .returned (.bool (decide (p < runEnd f n p))) ∧
      Upd w w' B (scan (.slice a n c) (runEnd f n p))) := digits_any a n c p B w f hn hp hB b off hbB ha hc
  clear hB hc ha hbB
  go_enter Try.func7, Try.ntmps7
  go_wp2_with fail
  refine D.out.mono ?_
  rintro e w' ⟨rfl, hu⟩
  go_wp2
  go_ret
  exact ⟨rfl, hu⟩
end Go.Proofs.Qxb6613462a
