/-
  Seat b6613372a: stmts.
-/
import Derived.Test.Qxb6613372aWI
namespace Go.Proofs.Qxb6613372a
open Go.ChangeShapes Go.WideShapes Go.ChangeAt Go.RowKit Go.MapKept
set_option linter.unusedSimpArgs false
set_option linter.unusedVariables false

/-- The statement x lies in w, below B, and v leads to it. -/
def StmtAt (B R : Nat) (w : World) (v : Value) (x : Sm) : Prop :=
  x.2.2 < B ∧ x.2.2 ≠ R ∧ w.cell? ⟨x.2.2, 2, none⟩ = some (.string x.2.1) ∧
  match x.1 with
  | true => ∃ rb, v = .iface 69 (.pointer (some ⟨rb, 0, none⟩)) ∧ rb < B ∧ rb ≠ R ∧ w.cell? ⟨rb, 2, none⟩ = some (.iface 57 (.pointer (some ⟨x.2.2, 0, none⟩)))
  | false => ∃ ab lb, v = .iface 74 (.pointer (some ⟨ab, 0, none⟩)) ∧ ab < B ∧ ab ≠ R ∧ w.cell? ⟨ab, 0, none⟩ = some (.iface 57 (.pointer (some ⟨x.2.2, 0, none⟩))) ∧ w.cell? ⟨ab, 1, none⟩ = some (.iface 75 (.pointer (some ⟨lb, 0, none⟩)))

theorem bits82 (x : Nat) (hx : x < 4) (r : Bool) : bits .or .u8 x (bitOf r : Nat) = ((x ||| bitOf r : Nat) : Int) := by
  have hc : x = 0 ∨ x = 1 ∨ x = 2 ∨ x = 3 := by omega
  rcases hc with rfl | rfl | rfl | rfl <;> cases r <;> rfl

theorem look47 {w : World} {b : Nat} {F : ByteArray → Option Nat} {n : Nat} (h : StrMap w b (fU F) n) (nm : ByteArray) :
    (Instr.lookup 47 (.map (some b)) (.string nm) false).run Try.prog w = .ok (.int .u8 ((F nm).getD 0 : Nat)) w := by
  rw [h.look Try.underlying47 Try.underlying9 (zero82 w) nm false]
  cases hF : F nm <;> simp [fU, hF]

theorem neq71 (w : World) (t : TypeId) (v : Value) : (binOp .neq 71 (.iface t v) .nilIface).run Try.prog w = .ok (.bool true) w := by
  simp only [binOp]
  have h : ∀ d : Nat, (Op.equalIn (d + 1) 71 (.iface t v) .nilIface).run Try.prog w = .ok false w := fun d => by
    simp [Op.equalIn, run_underlying Try.underlying71]
  have h' : (Op.equal 71 (.iface t v) .nilIface).run Try.prog w = .ok false w := h 9999
  simp [h']

set_option maxRecDepth 100000 in
set_option maxHeartbeats 1000000 in
theorem stmts_run {B R : Nat} {s0 : St} {pn : Nat → ByteArray} {w : World} {nU0 : Nat} {kv0 tv0 ov0 : Value} {xs0 : List Value} (hI0 : Inv B R (Mk s0 (fun _ => none) nU0 0 kv0 tv0 ov0 xs0 0 []) w) (hv0 : VOK s0.n 0 xs0 pn) (hn : s0.n ≤ 65536) (hFV : ∀ nm j, s0.FV nm = some j → j < s0.n)
    (L : List Sm) (hL : L.length ≤ 60000) (a : Option Addr) (cap : Nat)
    (hS : ∀ i x, L[i]? = some x → ∃ sb v, a = some ⟨sb, 0, none⟩ ∧ sb < B ∧ sb ≠ R ∧ w.cell? ⟨sb, i, none⟩ = some v ∧ StmtAt B R w v x) :
    Calls Try.prog 24 #[.pointer (some ⟨s0.Wb, 0, none⟩), .slice a L.length cap] w fun e w' => e = .returned (.tuple #[]) ∧ After B R s0 pn w L w' := by
  have HS : Hid (∀ i x, L[i]? = some x → ∃ sb v, a = some ⟨sb, 0, none⟩ ∧ sb < B ∧ sb ≠ R ∧ w.cell? ⟨sb, i, none⟩ = some v ∧ StmtAt B R w v x) := hS
  have H0 : Hid (After B R s0 pn w [] w) := ⟨nU0, kv0, tv0, ov0, xs0, 0, [], hI0, Fr.refl B R w, hv0, [], rfl, rfl, rfl⟩
  have HF : Hid (∀ nm j, s0.FV nm = some j → j < s0.n) := hFV
  clear hS hI0 hv0 hFV
  go_enter Try.func24, Try.ntmps24
  go_wp2
  go_loopg [24] L.length (fun g x wr => ∃ i : Nat, g = L.length - i ∧ i ≤ L.length ∧ x = .int .i64 i ∧ Hid (After B R s0 pn w (L.take i) wr))
  case atStart => exact ⟨0, by omega, by omega, rfl, H0.out⟩
  case round =>
    clear H0
    obtain ⟨i, rfl, hi, rfl, H⟩ := hrel
    by_cases hlt : i < L.length
    · obtain ⟨nU, kv, tv, ov, xs, m, os, hI, hf, hv, ho⟩ := H.out
      have hx : L[i]? = some L[i] := List.getElem?_eq_getElem hlt
      obtain ⟨sb, v, rfl, sbB, sbR, cS, hSt⟩ := HS.out i _ hx
      have htk : L.take (i + 1) = L.take i ++ [L[i]] := by rw [List.take_add_one, hx]; rfl
      have hlen : (L.take i).length = i := by simp; omega
      obtain ⟨⟨r, nm, idb⟩, hxe⟩ : ∃ x, L[i] = x := ⟨_, rfl⟩
      rw [hxe] at hSt htk
      obtain ⟨idB, idR, cN, hSt⟩ := hSt
      dsimp only at idB idR cN hSt
      have eN := cell_fr cN hf idB idR
      have eS := cell_fr cS hf sbB sbR
      have cU : wr.cell? ⟨s0.Wb, 0, none⟩ = some (.map (some s0.Ub)) := cell_blk hI.hW 0
      have hU : StrMap wr s0.Ub (fU (useF (L.take i))) nU := hI.hU
      have lk := look47 hU nm
      have lk1 := look47 (show StrMap wr.drew s0.Ub (fU (useF (L.take i))) nU from hU) nm
      have ltI : (i : Int) < L.length := by omega
      have hor := bits82 _ (useF_lt (L.take i) nm) r
      obtain ⟨w2, hup, hU2, hg, hsz⟩ := (show StrMap wr.drew s0.Ub (fU (useF (L.take i))) nU from hU).store Try.underlying47 Try.underlying9 nm (.int .u8 (((useF (L.take i) nm).getD 0 ||| bitOf r : Nat) : Int))
      rw [fU_put] at hU2
      obtain ⟨kU, hU3⟩ : ∃ k, StrMap w2 s0.Ub (fU (useF (L.take i ++ [(r, nm, idb)]))) k := ⟨_, by rw [useF_snoc]; exact hU2⟩
      have hg' : wr.grownBy w2 (some s0.Ub) := (gdrew wr _).trans hg
      clear hU2 hU
      cases r with
      | false =>
        obtain ⟨ab, lb, rfl, abB, abR, cT, cV⟩ := hSt
        have CL := hd (After.lit hI hf hv ho (by rw [hlen]; omega) nm idb lb cN idB idR hg' hU3)
        have eT := cell_fr cT hf abB abR
        have hf2 : Fr B R w w2 := hf.grown hg' hI.hB (fun k e => by simp at e; subst e; exact .inl hI.bU)
        have eU2 : w2.cell? ⟨s0.Wb, 0, none⟩ = some (.map (some s0.Ub)) := cell_blk (hI.uses hg' hU3).hW 0
        have eN2 := cell_fr cN hf2 idB idR
        have eT2 := cell_fr cT hf2 abB abR
        have eV2 := cell_fr cV hf2 abB abR
        have ta1 := fun w' => ta_miss (xT := 101) (t := 74) (.pointer (some ⟨ab, 0, none⟩)) w' Try.underlying102 (by kernel_rfl) (by decide)
        have ta2 := fun w' => ta_hit (xT := 101) (.pointer (some ⟨ab, 0, none⟩)) w' Try.underlying74
        have ta3 := fun w' => ta_hit (xT := 71) (.pointer (some ⟨idb, 0, none⟩)) w' Try.underlying57
        have hor' : bits .or .u8 ((useF (L.take i) nm).getD 0 : Nat) 1 = ((((useF (L.take i) nm).getD 0 ||| bitOf false : Nat)) : Int) := hor
        have HT := hd htk
        clear hI hf hv ho hg hg' hU3 hsz hf2 htk hor H
        go_wp2
        go_region_held (fun w' => w'.cell? ⟨s0.Wb, 0, none⟩ = some (.map (some s0.Ub)) ∧ w'.cell? ⟨idb, 2, none⟩ = some (.string nm)) (go_keep) (fail)
        go_wp2_with fail
        refine CL.out.mono ?_
        rintro e w5 ⟨rfl, h5⟩
        have H5 : Hid (After B R s0 pn w (L.take (i + 1)) w5) := by rw [HT.out]; exact h5
        clear h5 CL
        go_wp2
        go_roundg (L.length - (i + 1))
        case measure => omega
        case rel => exact ⟨i + 1, rfl, hlt, rfl, H5.out⟩
      | true =>
        obtain ⟨rb, rfl, rbB, rbR, cT⟩ := hSt
        have CL := hd (After.ret hI hf hv ho (by rw [hlen]; omega) hn HF.out nm idb cN idB idR hg' hU3)
        have eT := cell_fr cT hf rbB rbR
        have hf2 : Fr B R w w2 := hf.grown hg' hI.hB (fun k e => by simp at e; subst e; exact .inl hI.bU)
        have eU2 : w2.cell? ⟨s0.Wb, 0, none⟩ = some (.map (some s0.Ub)) := cell_blk (hI.uses hg' hU3).hW 0
        have eN2 := cell_fr cN hf2 idB idR
        have eT2 := cell_fr cT hf2 rbB rbR
        have ta1 := fun w' => ta_miss (xT := 101) (t := 69) (.pointer (some ⟨rb, 0, none⟩)) w' Try.underlying102 (by kernel_rfl) (by decide)
        have ta2 := fun w' => ta_miss (xT := 101) (t := 69) (.pointer (some ⟨rb, 0, none⟩)) w' Try.underlying74 (by kernel_rfl) (by decide)
        have ta4 := fun w' => ta_miss (xT := 101) (t := 69) (.pointer (some ⟨rb, 0, none⟩)) w' Try.underlying109 (by kernel_rfl) (by decide)
        have ta5 := fun w' => ta_hit (xT := 101) (.pointer (some ⟨rb, 0, none⟩)) w' Try.underlying69
        have ta3 := fun w' => ta_hit (xT := 71) (.pointer (some ⟨idb, 0, none⟩)) w' Try.underlying57
        have hnq := fun w' => neq71 w' 57 (.pointer (some ⟨idb, 0, none⟩))
        have hor' : bits .or .u8 ((useF (L.take i) nm).getD 0 : Nat) 2 = ((((useF (L.take i) nm).getD 0 ||| bitOf true : Nat)) : Int) := hor
        have HT := hd htk
        clear hI hf hv ho hg hg' hU3 hsz hf2 htk hor H
        go_wp2
        go_region_held (fun w' => w'.cell? ⟨s0.Wb, 0, none⟩ = some (.map (some s0.Ub)) ∧ w'.cell? ⟨idb, 2, none⟩ = some (.string nm)) (go_keep) (fail)
        go_wp2_with fail
        refine CL.out.mono ?_
        rintro e w5 ⟨rfl, h5⟩
        have H5 : Hid (After B R s0 pn w (L.take (i + 1)) w5) := by rw [HT.out]; exact h5
        clear h5 CL
        go_wp2
        go_roundg (L.length - (i + 1))
        case measure => omega
        case rel => exact ⟨i + 1, rfl, hlt, rfl, H5.out⟩
    · have e : i = L.length := by omega
      subst e
      have H5 : Hid (After B R s0 pn w L wr) := by have := H.out; rwa [List.take_length] at this
      clear H
      go_wp2
      go_end0
      exact ⟨rfl, H5.out⟩
end Go.Proofs.Qxb6613372a
