/-
  Seat b6613462aF: the arguments opened, the sentinel, and the two rows' steps.
-/
import Derived.Test.Qxb6613462aFmtG
import Derived.Test.Qxb6613462aFmtTie
import Derived.Test.Qxb6613462aFmtCards
import Derived.Stop.JoinedTold
import Derived.Stop.JoinedAt
import Derived.Stop.LaidErr
import Derived.Stop.Texts
import Derived.ShutString
import Derived.ChangeOld
import Derived.SevenTiedAt
namespace Go.Proofs.Qxb6613462aFmt
open Go.ChangeShapes Go.WideShapes Go.ChangeAt Go.RowKit Go.Kit
open Go.ChangeMaps (open_string shut_string)
open Go.Extern.Stop Go.Stop Go.Extern
set_option linter.unusedVariables false

theorem own : ownKnob Tryf.prog.godebug = none := by kernel_rfl
theorem laidOut : laidOutB Tryf.pinned.checked.prog = true := by kernel_rfl
theorem laidOut' : laidOutB Tryf.prog = true := by kernel_rfl
theorem stops : Tryf.pinned.checked.prog.stops = ["fmt.Sprintf", "fmt.errorf"] := by kernel_rfl
theorem stopKnobs : Tryf.pinned.checked.prog.stopKnobs = [] := by kernel_rfl
theorem quiet (os : Os) : Stop.quiet Tryf.pinned.checked.prog os := by
  intro k hk
  rw [stopKnobs] at hk
  cases hk

theorem gS : Tryf.prog.globalNamed "example.com/bellows/bellows/internal/jsonscan.ErrSyntax" = some 0 := by kernel_rfl
theorem gSType : (Tryf.prog.globals[0]?).map (·.type) = some 28 := by kernel_rfl
theorem cells45 : Tryf.prog.cellsOf 45 = 1 := by kernel_rfl
theorem cells9 : Tryf.prog.cellsOf 9 = 1 := by kernel_rfl
theorem cells5 : Tryf.prog.cellsOf 5 = 1 := by kernel_rfl
theorem star : "*" ++ "errors.errorString" = "*errors.errorString" := by decide
theorem row43 (u : TypeId) (h : Tryf.prog.typeName? 3 u = some "*errors.errorString") : u = 43 :=
  typeName_ptr_named (nm := "errors.errorString") (by rw [star]; kernel_rfl) (by kernel_rfl) (by decide) u (by rw [star]; exact h)

/-- A world in which variable g holds a sentinel whose text lies in block low. -/
def laidOf (w0 : World) (g low : Nat) : World :=
  { w0 with heap := w0.heap.modify g fun
      | .cells _ t frozen => .cells #[.iface 43 (.pointer (some ⟨low, 0, none⟩))] t frozen
      | o => o }

theorem laid_met (os : Os) (args : Array Value) : laidMet Tryf.prog Rows.fnLiteralWordCutRow.laid
    ((laidOf (World.holding Tryf.prog os ⟨#[.cells #[.string ⟨#[115, 121, 110, 116, 97, 120, 32, 101, 114, 114, 111, 114]⟩] 45], #[], []⟩) 0 (World.holding Tryf.prog default ⟨#[], #[], []⟩).heap.size).forCall (fun _ _ => 0) ⟨#[], args, []⟩).memory :=
  laidMet_of_run (ps := [.cell 0 0, .cell (World.holding Tryf.prog default ⟨#[], #[], []⟩).heap.size 0]) 8 (by kernel_rfl) (by kernel_rfl) (by kernel_rfl)


theorem gOf_mk (zs : List Int) (hz : ∀ n ∈ zs, (Lit.int .u8 n).wf = true) (i : Nat) (hi : i < zs.length) : gOf ⟨(zs.map fun n => UInt8.ofNat n.toNat).toArray⟩ i = zs.getD i 0 := by
  have hb := bounds_u8 (hz zs[i] (List.getElem_mem hi))
  unfold gOf
  simp only [List.getD_eq_getElem?_getD, List.getElem?_map, List.getElem?_eq_getElem hi, Option.map_some, Option.getD_some]
  rw [UInt8.toNat_ofNat']
  omega

theorem open_bytes {H : Type} {enc : TypeId × Value → H} {W : World} {a : Option Addr} {len cap : Nat} {d : DataW H} {ps : List MemPlace} (h : DataW.Trod enc Tryf.prog W 0 (fun _ => true) true 22 (.slice a len cap) d ps) :
    ∃ D : ByteArray, D.size = len ∧ (∀ x, a = some x → 0 < D.size → x.spot = none ∧ x.block < W.heap.size ∧ ∀ i, i < D.size → W.cell? ⟨x.block, x.off + i, none⟩ = some (.int .u8 (gOf D i))) ∧ (a = none → D.size = 0) := by
  obtain ⟨fuel, hf⟩ := h
  rcases open_ints Tryf.underlying22 Tryf.underlying5 cells5 hf with ⟨hcs, _⟩ | ⟨x, l, c, zs, hcs, _, hl, hm, hz, _, hcell, hwz⟩
  · simp [Value.cells] at hcs
    obtain ⟨rfl, rfl, rfl⟩ := hcs
    exact ⟨ByteArray.empty, rfl, (fun x h => by cases h), fun _ => rfl⟩
  · simp [Value.cells] at hcs
    obtain ⟨rfl, rfl, rfl⟩ := hcs
    simp only [if_true] at hz
    have hsz : ByteArray.size ⟨((zs.take len).map fun n => UInt8.ofNat n.toNat).toArray⟩ = len := by
      simp [ByteArray.size]
      omega
    refine ⟨⟨((zs.take len).map fun n => UInt8.ofNat n.toNat).toArray⟩, hsz, ?_, (fun h => by cases h)⟩
    rw [hsz]
    intro y hy hpos
    cases hy
    have hsp : x.spot = none := by simpa [Addr.add] using World.cell?_spot (hcell 0 (by omega))
    obtain ⟨xb, xo, xs⟩ := x
    have hsp' : xs = none := hsp
    subst hsp'
    have hc' : ∀ i, i < len → W.cell? ⟨xb, xo + i, none⟩ = some (.int .u8 (zs.getD i 0)) := fun i hi => by rw [← add_plain]; exact hcell i (by omega)
    refine ⟨rfl, lt_of_cell (hc' 0 hpos), fun i hi => ?_⟩
    rw [gOf_mk (zs.take len) (fun n hn => hwz n (List.mem_of_mem_take hn)) i (by simp; omega)]
    have e : (zs.take len).getD i 0 = zs.getD i 0 := by simp [List.getD_eq_getElem?_getD, List.getElem?_take_of_lt hi]
    rw [e]
    exact hc' i hi

theorem law3 (ao : Option Addr) (c : Nat) (v u : Int) (D s : ByteArray) (w : World) (a : Addr) (st : ByteArray) (hs : s.size ≤ maxLen)
    (ha : ∀ x, ao = some x → 0 < D.size → x.spot = none ∧ x.block < w.heap.size ∧ ∀ i, i < D.size → w.cell? ⟨x.block, x.off + i, none⟩ = some (.int .u8 (gOf D i)))
    (h0 : ao = none → D.size = 0) (hS : Sent w a st) :
    Calls Tryf.prog 3 #[.slice ao D.size c, .int .i64 v, .string s, .int .i64 u] w fun e w' => e = .returned (.bool true) ∧ Below w.heap.size w w' := by
  by_cases h : D.size ≤ 524288 ∧ s.size ≤ 524288 ∧ 0 ≤ v ∧ v ≤ D.size ∧ 0 ≤ u ∧ u ≤ s.size
  · obtain ⟨h1, h2, h3, h4, h5, h6⟩ := h
    obtain ⟨p, rfl⟩ : ∃ p : Nat, v = (p : Int) := ⟨v.toNat, by omega⟩
    obtain ⟨cut, rfl⟩ : ∃ cut : Nat, u = (cut : Int) := ⟨u.toNat, by omega⟩
    exact word_in ao c p cut D s w a st h1 h2 (by omega) (by omega) ha h0 hS
  · exact early3 ao D.size c v u s w hs h

theorem law4 (ao : Option Addr) (c : Nat) (v u : Int) (D s : ByteArray) (w : World) (a : Addr) (st : ByteArray) (hs : s.size ≤ maxLen)
    (ha : ∀ x, ao = some x → 0 < D.size → x.spot = none ∧ x.block < w.heap.size ∧ ∀ i, i < D.size → w.cell? ⟨x.block, x.off + i, none⟩ = some (.int .u8 (gOf D i)))
    (h0 : ao = none → D.size = 0) (hS : Sent w a st) :
    Calls Tryf.prog 4 #[.slice ao D.size c, .int .i64 v, .string s, .int .i64 u] w fun e w' => e = .returned (.bool true) ∧ Below w.heap.size w w' := by
  by_cases h : D.size ≤ 524288 ∧ s.size ≤ 524288 ∧ 0 ≤ v ∧ v ≤ D.size ∧ v ≤ u ∧ u ≤ D.size
  · obtain ⟨h1, h2, h3, h4, h5, h6⟩ := h
    obtain ⟨p, rfl⟩ : ∃ p : Nat, v = (p : Int) := ⟨v.toNat, by omega⟩
    obtain ⟨cut, rfl⟩ : ∃ cut : Nat, u = (cut : Int) := ⟨u.toNat, by omega⟩
    exact data_in ao c p cut D s w a st h1 h2 (by omega) (by omega) ha h0 hS
  · exact early4 ao D.size c v u s w hs h
end Go.Proofs.Qxb6613462aFmt
