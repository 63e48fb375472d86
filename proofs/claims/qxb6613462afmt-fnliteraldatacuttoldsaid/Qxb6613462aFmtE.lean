/-
  Seat b6613462aF: what stays through the law; literal off it; plain facts on cuts.
-/
import Derived.Test.Qxb6613462aFmtD
namespace Go.Proofs.Qxb6613462aFmt
open Go.ChangeShapes Go.WideShapes Go.ChangeAt Go.RowKit
open Go.Extern.Stop Go.Stop Go.Extern
set_option linter.unusedVariables false

/-- What stays: memory that was there, the copied text, the sentinel. -/
structure Env (w0 w : World) (D : ByteArray) (a : Addr) (st : ByteArray) : Prop where
  bel : Below w0.heap.size w0 w
  bytes : Lib.Bytes w w0.heap.size 0 D
  sent : Sent w a st
  big : 0 < D.size → w0.heap.size < w.heap.size
  low : 0 < w0.heap.size ∧ a.block < w0.heap.size

theorem Env.alloc {w0 w : World} {D : ByteArray} {a : Addr} {st : ByteArray} (h : Env w0 w D a st) (o : Obj) : Env w0 (w.alloc o) D a st := by
  have hb : Below w.heap.size w (w.alloc o) := (Below.refl _ _).alloc (Nat.le_refl _) _
  refine ⟨h.bel.alloc h.bel.size _, fun i hi => ?_, ⟨?_, ?_⟩, fun h1 => ?_, h.low⟩
  · exact (hb.cell (p := ⟨w0.heap.size, 0 + i, none⟩) (h.big (by omega))).trans (h.bytes i hi)
  · exact (hb.cell (p := ⟨0, 0, none⟩) (lt_of_cell h.sent.1)).trans h.sent.1
  · exact (hb.cell (p := a) (lt_of_cell h.sent.2)).trans h.sent.2
  · have := h.big h1; simp; omega

theorem Env.ups {w0 w w' : World} {D : ByteArray} {a : Addr} {st : ByteArray} {B : Nat} {o : Obj} (h : Env w0 w D a st) (hu : Ups w w' B o) (hB : w0.heap.size ≤ B) (hN : 0 < D.size → B ≠ w0.heap.size) : Env w0 w' D a st := by
  have hsz := h.bel.size
  refine ⟨⟨hu.os.trans h.bel.os, hu.tape.trans h.bel.tape, hu.output.trans h.bel.output, Nat.le_trans hsz hu.size, fun k hk => (hu.block k (by omega) (by omega)).trans (h.bel.block k hk)⟩, fun i hi => ?_, ⟨?_, ?_⟩, fun h1 => ?_, h.low⟩
  · exact (hu.cell (a := ⟨w0.heap.size, 0 + i, none⟩) (h.big (by omega)) (fun e => hN (by omega) e.symm)).trans (h.bytes i hi)
  · exact (hu.cell (a := ⟨0, 0, none⟩) (lt_of_cell h.sent.1) (fun e => by have := h.low.1; have e' : 0 = B := e; omega)).trans h.sent.1
  · exact (hu.cell (a := a) (lt_of_cell h.sent.2) (fun e => by have := h.low.2; omega)).trans h.sent.2
  · have := h.big h1; have := hu.size; omega

theorem lit_env (ao : Option Addr) (n c p B : Nat) (w0 w : World) (D s : ByteArray) (a : Addr) (st : ByteArray) (hE : Env w0 w D a st) (hB : w.heap[B]? = some (scan (.slice ao n c) p .nilIface)) (hB0 : w0.heap.size ≤ B) (hBN : 0 < D.size → B ≠ w0.heap.size)
    (hn : n ≤ D.size) (hD : D.size ≤ 524288) (hs : s.size ≤ 524288) (hp : p ≤ n) (hao : 0 < n → ao = some ⟨w0.heap.size, 0, none⟩) :
    Calls Tryf.prog 8 #[.pointer (some ⟨B, 0, none⟩), .string s] w fun e w' => ∃ k, Stops (gOf D) n p (gOf s) s.size k ∧ Env w0 w' D a st ∧ w.heap.size ≤ w'.heap.size ∧
      ((k = s.size ∧ e = .returned .nilIface ∧ w'.heap[B]? = some (scan (.slice ao n c) ((p + k : Nat) : Int) .nilIface)) ∨
       (k < s.size ∧ ∃ N, e = .returned (.iface 42 (.pointer (some ⟨N, 0, none⟩))) ∧ w'.heap[B]? = some (scan (.slice ao n c) ((p + k : Nat) : Int) (.iface 42 (.pointer (some ⟨N, 0, none⟩)))))) := by
  have hlow := hE.low
  refine (zzliteral_any ao n c p B w (gOf D) s (by omega) (by omega) hp hB w0.heap.size 0 (fun h e => hBN (by omega) e.symm) hao (fun i hi => ?_) a st hE.sent (by omega) (by omega)).mono ?_
  · rw [gOf_at D i (by omega)]; exact hE.bytes i (by omega)
  · rintro e w' ⟨k, hk, h⟩
    rcases h with ⟨h1, he, hu⟩ | ⟨h1, N, he, hu⟩
    · exact ⟨k, hk, hE.ups hu hB0 hBN, hu.size, .inl ⟨h1, he, hu.here⟩⟩
    · exact ⟨k, hk, hE.ups hu hB0 hBN, hu.size, .inr ⟨h1, N, he, hu.here⟩⟩

/-! ### Plain: words in two halves; texts cut -/
theorem gOf_extract (s : ByteArray) (x y i : Nat) (hy : y ≤ s.size) (hi : i < y - x) : gOf (s.extract x y) i = gOf s (x + i) := by
  have h1 : i < (s.extract x y).size := by simp [ByteArray.size_extract]; omega
  apply (gOf_inj (s.extract x y) s i (x + i) h1 (by omega)).1
  rw [Lib.extract_data, List.getElem?_take_of_lt hi, List.getElem?_drop]

theorem stops_first {f : Nat → Int} {n p : Nat} {s : ByteArray} {cut k : Nat} (hc : cut ≤ s.size) (h : Stops f n p (gOf (s.extract 0 cut)) cut k) (hk : k < cut) : Stops f n p (gOf s) s.size k := by
  obtain ⟨h1, h2, h3, h4⟩ := h
  refine ⟨by omega, h2, fun i hi => ?_, fun _ => ?_⟩
  · rw [h3 i hi, gOf_extract s 0 cut i hc (by omega), Nat.zero_add]
  · have := h4 hk
    rw [gOf_extract s 0 cut k hc (by omega), Nat.zero_add] at this
    exact this

theorem stops_second {f : Nat → Int} {n p : Nat} {s : ByteArray} {cut j : Nat} (hc : cut ≤ s.size) (h : Stops f n p (gOf (s.extract 0 cut)) cut cut) (h' : Stops f n (p + cut) (gOf (s.extract cut s.size)) (s.size - cut) j) : Stops f n p (gOf s) s.size (cut + j) := by
  obtain ⟨h1, h2, h3, h4⟩ := h
  obtain ⟨g1, g2, g3, g4⟩ := h'
  refine ⟨by omega, by omega, fun i hi => ?_, fun hlt => ?_⟩
  · by_cases hic : i < cut
    · rw [h3 i hic, gOf_extract s 0 cut i hc (by omega), Nat.zero_add]
    · have := g3 (i - cut) (by omega)
      rw [gOf_extract s cut s.size (i - cut) (Nat.le_refl _) (by omega)] at this
      rw [show p + i = p + cut + (i - cut) by omega, this]
      congr 1
      omega
  · have := g4 (by omega)
    rw [gOf_extract s cut s.size j (Nat.le_refl _) (by omega)] at this
    rw [show p + (cut + j) = p + cut + j by omega]
    exact this

theorem stops_cut {f : Nat → Int} {n p : Nat} {g : Nat → Int} {L k cut : Nat} (h : Stops f n p g L k) (h1 : p ≤ cut) (h2 : cut ≤ n) : Stops f cut p g L (min k (cut - p)) := by
  obtain ⟨a1, a2, a3, a4⟩ := h
  by_cases hk : p + k ≤ cut
  · rw [Nat.min_eq_left (by omega)]
    refine ⟨a1, hk, a3, fun hlt => ?_⟩
    rcases a4 hlt with h | ⟨h, h'⟩
    · exact .inl (by omega)
    · by_cases e : p + k = cut
      · exact .inl e
      · exact .inr ⟨by omega, h'⟩
  · rw [Nat.min_eq_right (by omega)]
    exact ⟨by omega, by omega, fun i hi => a3 i (by omega), fun _ => .inl (by omega)⟩
end Go.Proofs.Qxb6613462aFmt
