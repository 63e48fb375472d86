/-
  Seat b6613462aF: the contract of literal.
-/
import Derived.Test.Qxb6613462aFmtA
namespace Go.Proofs.Qxb6613462aFmt
open Go.ChangeShapes Go.WideShapes Go.ChangeAt Go.RowKit
open Go.Extern.Stop Go.Stop Go.Extern
set_option linter.unusedVariables false
attribute [local go_sem] call16 call18 fguard fmtQ fmtW fmtWr op3_100w op5_113 op9_115 op9_115w ptr42 elem42 isError43

/-- Byte i of a string, as a number. -/
def gOf (s : ByteArray) (i : Nat) : Int := ((s.data.toList.getD i 0).toNat : Int)

theorem gOf_at (s : ByteArray) (i : Nat) (h : i < s.size) : gOf s i = ((s[i]'h).toNat : Int) := by
  unfold gOf
  have h2 : i < s.data.toList.length := by simpa using h
  rw [List.getD_eq_getElem?_getD, List.getElem?_eq_getElem h2]
  rfl

/-- Where reading the word stops: k bytes agree; it is read whole, or the text ends there, or there they part. -/
def Stops (f : Nat → Int) (n p : Nat) (g : Nat → Int) (L k : Nat) : Prop :=
  k ≤ L ∧ p + k ≤ n ∧ (∀ i, i < k → f (p + i) = g i) ∧ (k < L → p + k = n ∨ (p + k < n ∧ f (p + k) ≠ g k))

theorem Stops.unique {f : Nat → Int} {n p : Nat} {g : Nat → Int} {L k j : Nat} (h : Stops f n p g L k) (h' : Stops f n p g L j) : k = j := by
  obtain ⟨a1, a2, a3, a4⟩ := h
  obtain ⟨b1, b2, b3, b4⟩ := h'
  rcases Nat.lt_trichotomy k j with h1 | h1 | h1
  · rcases a4 (by omega) with h2 | ⟨_, h2⟩
    · omega
    · exact absurd (b3 k h1) h2
  · exact h1
  · rcases b4 (by omega) with h2 | ⟨_, h2⟩
    · omega
    · exact absurd (a3 j h1) h2

/-- What literal leaves. -/
def LitRes (f : Nat → Int) (n p : Nat) (g : Nat → Int) (L : Nat) (w : World) (B : Nat) (d : Value) (e : Ending) (w' : World) : Prop :=
  ∃ k, Stops f n p g L k ∧ ((k = L ∧ e = .returned .nilIface ∧ Ups w w' B (scan d ((p + k : Nat) : Int) .nilIface)) ∨
    (k < L ∧ ∃ N, e = .returned (.iface 42 (.pointer (some ⟨N, 0, none⟩))) ∧ Ups w w' B (scan d ((p + k : Nat) : Int) (.iface 42 (.pointer (some ⟨N, 0, none⟩))))))

theorem Sent.ups {w w' : World} {a : Addr} {s : ByteArray} {B : Nat} {o : Obj} (h : Sent w a s) (hB0 : B ≠ 0) (hBa : a.block ≠ B) (hu : Ups w w' B o) : Sent w' a s :=
  ⟨(hu.cell (lt_of_cell h.1) (fun e => hB0 e.symm)).trans h.1, (hu.cell (lt_of_cell h.2) hBa).trans h.2⟩

/-- W is wr but for draws. -/
def Same (wr W : World) : Prop := W.heap = wr.heap ∧ W.os = wr.os ∧ W.tape = wr.tape ∧ W.output = wr.output
theorem wp_gen {P : Program} {c : Code} {Q : Exit → Act → World → Prop} {a : Act} {W : World} (wr : World) (h : Same wr W) (k : ∀ W', Same wr W' → Code.wp P c Q a W') : Code.wp P c Q a W := k W h
theorem Ups.same {w wr W : World} {B : Nat} {o : Obj} (h : Ups w wr B o) (hs : Same wr W) : Ups w W B o :=
  ⟨hs.2.1.trans h.os, hs.2.2.1.trans h.tape, hs.2.2.2.trans h.output, (by rw [hs.1]; exact h.size), (by rw [hs.1]; exact h.block), (by rw [hs.1]; exact h.here)⟩
theorem Same.cell {wr W : World} (h : Same wr W) (a : Addr) : W.cell? a = wr.cell? a := by simp [World.cell?, h.1]

set_option maxHeartbeats 1600000 in
theorem literal_any (ao : Option Addr) (n c p B : Nat) (w : World) (f : Nat → Int) (s : ByteArray) (hn : n ≤ 1048576) (hs : s.size ≤ 1048576) (hp : p ≤ n)
    (hB : w.heap[B]? = some (scan (.slice ao n c) p .nilIface)) (b off : Nat) (hbB : 0 < n → b ≠ B) (hao : 0 < n → ao = some ⟨b, off, none⟩) (hc : ∀ i, i < n → w.cell? ⟨b, off + i, none⟩ = some (.int .u8 (f i)))
    (a : Addr) (st : ByteArray) (hS : Sent w a st) (hB0 : B ≠ 0) (hBa : a.block ≠ B) :
    Calls Tryf.prog 14 #[.pointer (some ⟨B, 0, none⟩), .string s] w fun e w' => LitRes f n p (gOf s) s.size w B (.slice ao n c) e w' := by
  have HBS : Hid (0 < n → b ≠ B) := hbB
  have HAO : Hid (0 < n → ao = some ⟨b, off, none⟩) := hao
  have HC : Hid (∀ i, i < n → w.cell? ⟨b, off + i, none⟩ = some (.int .u8 (f i))) := hc
  have HS : Hid (Sent w a st) := hS
  have HB : Hid (w.heap[B]? = some (scan (.slice ao n c) p .nilIface)) := hB
  clear hbB hao hc hS hB
  go_enter Tryf.func14, Tryf.ntmps14
  go_wp2
  go_loopg [8] s.size (fun g y wr => ∃ k : Nat, k ≤ s.size ∧ p + k ≤ n ∧ g = s.size - k ∧ y = .int .i64 k ∧ Hid (∀ i, i < k → f (p + i) = gOf s i) ∧ Hid (Ups w wr B (scan (.slice ao n c) ((p + k : Nat) : Int) .nilIface)))
  case atStart => exact ⟨0, Nat.zero_le _, by omega, rfl, rfl, (fun i hi => absurd hi (Nat.not_lt_zero _)), Ups.start HB.out⟩
  case round =>
    obtain ⟨k, hk, hpk, rfl, rfl, HE, HU⟩ := hrel
    by_cases hlt : k < s.size
    · have hk' : (k : Int) < s.size := by omega
      have c0 : wr.cell? ⟨B, 0, none⟩ = some (.slice ao n c) := cell_block HU.out.here 0
      have c1 : wr.cell? ⟨B, 1, none⟩ = some (.int .i64 ((p + k : Nat) : Int)) := cell_block HU.out.here 1
      have f1 : wr.frozen? ⟨B, 1, none⟩ = false := free_block HU.out.here 1
      by_cases hend : p + k = n
      · have hend' : (((p + k : Nat) : Int) == (n : Int)) = true := by simp; omega
        have hsz : s.size ≤ 1048576 := hs
        have HEnd : Hid (p + k = n) := hend
        clear hend
        go_wp2
        go_quiet (fail)
        go_wp2_with fail
        refine (fail_any B (.slice ao n c) _ .nilIface _ a st _ (HU.out.drewN _).here (HS.out.ups hB0 hBa (HU.out.drewN _)) hB0).mono ?_
        rintro e w1 ⟨N, rfl, hU2⟩
        have HU2 : Hid (Ups w w1 B (scan (.slice ao n c) ((p + k : Nat) : Int) (.iface 42 (.pointer (some ⟨N, 0, none⟩))))) := (HU.out.drewN _).trans hU2
        clear hU2
        go_wp2
        go_ret
        exact ⟨k, ⟨hk, hpk, HE.out, fun _ => .inl HEnd.out⟩, .inr ⟨hlt, N, rfl, HU2.out⟩⟩
      · have hend' : (((p + k : Nat) : Int) == (n : Int)) = false := by simp; omega
        have hend2 : ((p : Int) + (k : Int) == (n : Int)) = false := by simp; omega
        have hpk' : ((p + k : Nat) : Int) < n := by omega
        have hpk2 : (p : Int) + k < n := by omega
        obtain rfl := HAO.out (by omega)
        have hdc : wr.cell? ⟨b, off + (p + k), none⟩ = some (.int .u8 (f (p + k))) := (HU.out.cell (lt_of_cell (HC.out (p + k) (by omega))) (HBS.out (by omega))).trans (HC.out (p + k) (by omega))
        have hgk := gOf_at s k hlt
        have HGK : Hid (gOf s k = ((s[k]'hlt).toNat : Int)) := hgk
        clear hgk hend
        by_cases heq : f (p + k) = gOf s k
        · have hb1 : (f (p + k) != ((s[k]'hlt).toNat : Int)) = false := by rw [heq, HGK.out]; simp
          have HQ : Hid (f (p + k) = gOf s k) := heq
          clear heq
          go_wp2
          go_quiet (fail)
          go_wp2
          go_quiet (fail)
          go_wp2
          go_roundg (s.size - (k + 1))
          case measure => omega
          case rel =>
            refine ⟨k + 1, by omega, by omega, rfl, by go_num, fun i hi => ?_, ?_⟩
            · by_cases e : i = k
              · rw [e]; exact HQ.out
              · exact HE.out i (by omega)
            · have e1 : (((p + (k + 1) : Nat)) : Int) = (p : Int) + k + 1 := by omega
              rw [e1]
              exact (HU.out.drewN _).set 1 _
        · have hb1 : (f (p + k) != ((s[k]'hlt).toNat : Int)) = true := by rw [← HGK.out]; simp [heq]
          have HQ : Hid (f (p + k) ≠ gOf s k) := heq
          clear heq
          go_wp2
          go_quiet (fail)
          go_wp2
          go_quiet (fail)
          go_wp2
          refine wp_gen wr ⟨rfl, rfl, rfl, rfl⟩ ?_
          intro wz hz
          have HUz : Hid (Ups w wz B (scan (.slice (some ⟨b, off, none⟩) n c) ((p + k : Nat) : Int) .nilIface)) := HU.out.same hz
          have d0 : wz.cell? ⟨B, 0, none⟩ = some (.slice (some ⟨b, off, none⟩) n c) := (hz.cell _).trans c0
          have d1 : wz.cell? ⟨B, 1, none⟩ = some (.int .i64 ((p + k : Nat) : Int)) := (hz.cell _).trans c1
          have d2 : wz.cell? ⟨b, off + (p + k), none⟩ = some (.int .u8 (f (p + k))) := (hz.cell _).trans hdc
          have hSr := HS.out.ups hB0 hBa HUz.out
          have hgr : ∀ o, (wz.alloc o).cell? ⟨0, 0, none⟩ = some (.iface 43 (.pointer (some a))) := fun o => (World.cell?_alloc_lt _ _ _ (lt_of_cell hSr.1)).trans hSr.1
          have hsr : ∀ o, (wz.alloc o).cell? a = some (.string st) := fun o => (World.cell?_alloc_lt _ _ _ (lt_of_cell hSr.2)).trans hSr.2
          have hBl : B < wz.heap.size := lt_block HUz.out.here
          have hbl : b < wz.heap.size := lt_of_cell d2
          have HUV : Hid (Ups w (wz.alloc (.cells #[.iface 5 (.int .u8 (f (p + k))), .iface 9 (.string s)] 20)) B (scan (.slice (some ⟨b, off, none⟩) n c) ((p + k : Nat) : Int) .nilIface)) := HUz.out.alloc _
          clear hSr hz c0 c1 f1 hdc HU
          go_region_with (go_at_call 15; refine (fail_any B (.slice (some ⟨b, off, none⟩) n c) ((p + k : Nat) : Int) .nilIface _ a st _ ?_ ?_ hB0).mono ?_; exact HUV.out.here; exact ⟨hgr _, hsr _⟩; rintro e w1 ⟨N, rfl, hU2⟩)
          all_goals
            have HU3 : Hid (Ups w w1 B (scan (.slice (some ⟨b, off, none⟩) n c) ((p + k : Nat) : Int) (.iface 42 (.pointer (some ⟨N, 0, none⟩))))) := HUV.out.trans ⟨hU2.os, hU2.tape, hU2.output, hU2.size, hU2.block, hU2.here⟩
            clear hU2
            go_wp2
            go_ret
            exact ⟨k, ⟨hk, hpk, HE.out, fun _ => .inr ⟨by omega, HQ.out⟩⟩, .inr ⟨hlt, N, rfl, HU3.out⟩⟩
    · go_wp2
      go_ret
      obtain rfl : k = s.size := by omega
      exact ⟨s.size, ⟨Nat.le_refl _, hpk, HE.out, fun h => absurd h (Nat.lt_irrefl _)⟩, .inl ⟨rfl, rfl, HU.out⟩⟩

theorem zzliteral_any (ao : Option Addr) (n c p B : Nat) (w : World) (f : Nat → Int) (s : ByteArray) (hn : n ≤ 1048576) (hs : s.size ≤ 1048576) (hp : p ≤ n)
    (hB : w.heap[B]? = some (scan (.slice ao n c) p .nilIface)) (b off : Nat) (hbB : 0 < n → b ≠ B) (hao : 0 < n → ao = some ⟨b, off, none⟩) (hc : ∀ i, i < n → w.cell? ⟨b, off + i, none⟩ = some (.int .u8 (f i)))
    (a : Addr) (st : ByteArray) (hS : Sent w a st) (hB0 : B ≠ 0) (hBa : a.block ≠ B) :
    Calls Tryf.prog 8 #[.pointer (some ⟨B, 0, none⟩), .string s] w fun e w' => LitRes f n p (gOf s) s.size w B (.slice ao n c) e w' := by
  have D : Hid (Calls Tryf.prog 14 #[.pointer (some ⟨B, 0, none⟩), .string s] w fun e w' => LitRes f n p (gOf s) s.size w B (.slice ao n c) e w') := literal_any ao n c p B w f s hn hs hp hB b off hbB hao hc a st hS hB0 hBa
  clear hB hbB hao hc hS
  go_enter Tryf.func8, Tryf.ntmps8
  go_wp2_with fail
  refine D.out.mono ?_
  rintro e w' ⟨k, hk, h⟩
  rcases h with ⟨h1, rfl, h3⟩ | ⟨h1, N, rfl, h3⟩
  · have H3 := (show Hid (Ups w w' B (scan (.slice ao n c) ((p + k : Nat) : Int) .nilIface)) from h3)
    clear h3
    go_wp2
    go_ret
    exact ⟨k, hk, .inl ⟨h1, rfl, H3.out⟩⟩
  · have H3 := (show Hid (Ups w w' B (scan (.slice ao n c) ((p + k : Nat) : Int) (.iface 42 (.pointer (some ⟨N, 0, none⟩))))) from h3)
    clear h3
    go_wp2
    go_ret
    exact ⟨k, hk, .inr ⟨h1, N, rfl, H3.out⟩⟩
end Go.Proofs.Qxb6613462aFmt
