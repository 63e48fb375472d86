/-
  Proof of 'Rows.FnLiteralDataCutToldSaid': the told and tied card; the walk is Qxb6613462aFmtF's and Qxb6613462aFmtG's.
-/
import Derived.Test.Qxb6613462aFmtH
namespace Go.Proofs.Qxb6613462aFmt
open Go.ChangeShapes Go.WideShapes Go.ChangeAt Go.RowKit Go.Kit
open Go.ChangeMaps (open_string shut_string)
open Go.Extern.Stop Go.Stop Go.Extern
set_option linter.unusedVariables false

set_option maxHeartbeats 1600000 in
set_option maxRecDepth 100000 in
theorem lifted4 (os : Os) (started : os.Started) (H : Type) (enc : TypeId × Value → H) :
    ReturnsInTold none {} Tryf.checked os 4 .any Input.okWide ((OpenSpec.ofChange Rows.fnLiteralDataCutSpec).preRow enc Tryf.prog Tryf.f4 Rows.fnLiteralDataCutRow.domain false Rows.fnLiteralDataCutRow.laid) (fun F => ((OpenSpec.ofChange Rows.fnLiteralDataCutSpec).at F).post enc Tryf.prog Tryf.f4 false true false false) (aloneAtReturn Tryf.prog) nothingAlways := by
  refine returnsInTold_of_row (C := Tryf.checked) (s := OpenSpec.ofChange Rows.fnLiteralDataCutSpec) (by kernel_rfl) own started (by kernel_rfl) Tryf.func4
    (OpenSpec.witness_stopped_at (enc := enc) (C := Tryf.checked) false (laidOf (World.holding Tryf.prog os ⟨#[.cells #[.string ⟨#[115, 121, 110, 116, 97, 120, 32, 101, 114, 114, 111, 114]⟩] 45], #[], []⟩) 0 (World.holding Tryf.prog default ⟨#[], #[], []⟩).heap.size) #[.slice none 0 0, .int .i64 0, .string ByteArray.empty, .int .i64 0] rfl (by kernel_rfl) (by kernel_rfl) (by kernel_rfl)
      (OpenSpec.preRow_of_B rfl 8 (by kernel_rfl) (by kernel_rfl) (laid_met os _))) ?_
  intro F W base args ds gs before _ hF hval0 hW hcnd0 _ _ hL _
  have hval : ∀ (j : Nat) t v, Tryf.f4.params[j]? = some t → args[j]? = some v → Value.okWide Tryf.prog W .any base t v := hval0
  have hW' := hW
  obtain ⟨p, q, hA0, hV0, rfl, hfz, hnd⟩ := hW
  have hA : DataW.TrodAll enc Tryf.prog W 0 (fun _ => true) true Tryf.f4.params.toList args.toList ds p := hA0
  have hV : DataW.TrodVars enc Tryf.prog W (fun _ => true) ["example.com/bellows/bellows/internal/jsonscan.ErrSyntax"] gs q := hV0
  rw [Tryf.params4] at hA hval
  obtain ⟨v0, v1, v2, v3, d0, d1, d2, d3, p0, p1, p2, p3, rfl, rfl, rfl, h0, h1, h2, h3⟩ := trodAll_four hA
  obtain ⟨a0, len0, cap0, rfl⟩ := okWide_slice Tryf.underlying22 (hval 0 22 v0 rfl rfl)
  have k0 := h0
  have lt0 : ∀ x ∈ p0, x.block < W.heap.size := by obtain ⟨m, hm⟩ := k0; exact DataW.trod_lt m _ _ _ hm
  obtain ⟨v, rfl, rfl, rfl, w1⟩ := open_int Tryf.underlying3 (hval 1 3 v1 rfl rfl) h1
  obtain ⟨s, rfl, rfl, rfl, hs⟩ := open_string Tryf.underlying9 (hval 2 9 v2 rfl rfl) h2
  obtain ⟨u, rfl, rfl, rfl, w3⟩ := open_int Tryf.underlying3 (hval 3 3 v3 rfl rfl) h3
  obtain ⟨a1, s1, hv1, hc1, hs1, hz1⟩ := laid_sentinel hL gS gSType Tryf.underlying28 row43 Tryf.underlying43 Tryf.underlying45 rfl rfl Tryf.underlying9 cells45 cells9
  obtain ⟨rfl, rfl⟩ := hV.unique (vars_read1 enc gS gSType Tryf.underlying28 hv1 trivial _)
  have hg1 : W.cell? ⟨0, 0, none⟩ = some (.iface 43 (.pointer (some a1))) := by simpa using World.var?_cell gS hv1 0
  obtain ⟨D, hDs, haD, h0D⟩ := open_bytes h0
  subst hDs
  clear hA0 hV0 hval0
  refine (law4 a0 cap0 v u D s W a1 s1 hs haD h0D ⟨hg1, hc1⟩).mono fun e W' ⟨he, bel⟩ => ?_
  subst he
  refine ⟨_, rfl, _, _, _, [], p0 ++ ([] ++ ([] ++ [])), [.cell 0 0], hW', ?_, ?_, ?_, bel.frame _, fun h => by cases h⟩
  · exact trodAll_mk1 (shut_bool Tryf.underlying4 _)
  · exact trodAll_mk4 (Below.trod laidOut' (by kernel_rfl) (of_decide_eq_true (by kernel_rfl)) k0 bel lt0) (shut_int Tryf.underlying3 w1) (shut_string Tryf.underlying9 hs) (shut_int Tryf.underlying3 w3)
  · exact vars_read1 enc gS gSType Tryf.underlying28 (var?_below bel gS (lt_of_cell hg1) hv1) trivial _

theorem proved4 : Rows.FnLiteralDataCutToldSaid :=
  Claim7.holds_of_told_tied_any_at .later 4 Tryf.f4 "fmt.Sprintf" ["fmt.errorf"] [] _ _ _ _ _ (by kernel_rfl) rfl rfl rfl laidOut (by kernel_rfl) rfl ⟨rfl, rfl, rfl, rfl, rfl, rfl, rfl⟩ rfl rfl (by kernel_rfl) (by kernel_rfl) Tryf.func4 (by kernel_rfl)
    (of_decide_eq_true (by kernel_rfl)) (by unfold Func.isWrapper; first | (rw [if_pos (by decide +kernel)]; kernel_rfl) | (rw [if_neg (by decide +kernel)]; exact ⟨rfl, rfl⟩)) stops.symm rfl stopKnobs.symm (by kernel_rfl)
    (by kernel_rfl) (by kernel_rfl) (by kernel_rfl) (by kernel_rfl) (by kernel_rfl) (by kernel_rfl) (by kernel_rfl) (by kernel_rfl) (by kernel_rfl) rfl (by kernel_rfl) rfl rfl
    rfl rfl
    rfl (by kernel_rfl) (by kernel_rfl) (by kernel_rfl) (by decide) (by kernel_rfl) fnLiteralDataCut_row_tie
    (OpenClaim.moreEntering_of (by kernel_rfl) (by kernel_rfl) (by kernel_rfl) (by kernel_rfl) (by kernel_rfl) (by kernel_rfl) (by kernel_rfl) (by kernel_rfl) (by kernel_rfl) (by kernel_rfl))
    ⟨_, WideRow.started_initial, quiet _⟩
    (fun os started _ H enc _ => lifted4 os started H enc)
#print axioms proved4
end Go.Proofs.Qxb6613462aFmt
