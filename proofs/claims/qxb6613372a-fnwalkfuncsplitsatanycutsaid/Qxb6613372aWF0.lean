/-
  Seat b6613372a: walkStep.
-/
import Derived.Test.Qxb6613372aWE
import Derived.BigRegion
import Derived.Deep.RegionHeldLaw
import Derived.Deep.AppendLies
namespace Go.Proofs.Qxb6613372a
open Go.ChangeShapes Go.WideShapes Go.ChangeAt Go.RowKit Go.MapKept
set_option linter.unusedSimpArgs false
set_option linter.unusedVariables false

theorem info126 : (Try.prog.info? 126).map (fun i => (i.zero, i.size, i.bytes)) = some (some (.agg #[.nilIface, .bool false]), 2, 24) := by kernel_rfl
theorem info123 : (Try.prog.info? 123).map (fun i => (i.zero, i.size, i.bytes)) = some (some (.agg #[.pointer none, .int .i64 0, .int .i64 0, .bool false, .bool false, .bool false]), 6, 32) := by kernel_rfl

section
variable {B R : Nat} {s : St} {w : World}
/-- The step's number goes on. -/
theorem Inv.tick (h : Inv B R s w) : Inv B R { s with step := s.step + 1 } (w.setCell ⟨s.Wb, 5, none⟩ (.int .i64 (s.step + 1 : Nat))) :=
  h.setW 5 (.int .i64 (s.step + 1 : Nat)) (s' := { s with step := s.step + 1 }) rfl rfl rfl rfl rfl rfl rfl rfl h.hv h.ht h.ho h.hk
end

theorem ta_hit {t e xT : TypeId} (v : Value) (w : World) (h : Try.prog.underlying t = some (.pointer e)) : (Instr.typeAssert (.iface t v) xT t true).run Try.prog w = .ok (.tuple #[v, .bool true]) w := by
  simp [Instr.typeAssert, run_underlying h]
theorem ta_miss {t a e xT : TypeId} (v : Value) (w : World) (h : Try.prog.underlying a = some (.pointer e)) (hz : (zeroValue a).run Try.prog w = .ok (.pointer none) w) (hne : t ≠ a) : (Instr.typeAssert (.iface t v) xT a true).run Try.prog w = .ok (.tuple #[.pointer none, .bool false]) w := by
  simp [Instr.typeAssert, run_underlying h, hne, hz]

/-- What loop 1 of walkStep begins with and ends with. -/
def S2 (s : St) (kv : Value) : St := { s with step := s.step + 1, kv := kv, kn := 0, ks := [] }
def S3 (s : St) (kv e : Value) (hands : Bool) : St := { s with step := s.step + 1, kv := kv, kn := 1, ks := [e, .bool hands] }

theorem slice_shape {B : Nat} {e : TypeId} {size : Nat} {w : World} {v : Value} {n : Nat} {xs : List Value} (h : w.ownsRow B e size v n xs) : ∃ a c, v = .slice a n c := by
  rcases h.2 with ⟨h1, h2⟩ | ⟨g, cap, cur, h1, _⟩
  · exact ⟨none, 0, by rw [h1, h2]⟩
  · exact ⟨_, _, h1⟩

theorem own_blk_ge {B : Nat} {e : TypeId} {size : Nat} {w : World} {v : Value} {n : Nat} {xs : List Value} (h : w.ownsRow B e size v n xs) : ∀ k, v.ownBlock = some k → B ≤ k := fun k hk => (h.lt k hk).1

theorem Inv.pushK_facts {B R : Nat} {s : St} {w w3 : World} {o : Obj} (h : Inv B R s w) (hg : (w.alloc o).grownBy w3 s.kv.ownBlock) {kv : Value} {n : Nat} {xs : List Value} (ho : w3.ownsRow B 126 2 kv n xs) :
    (w3.cell? ⟨s.Wb, 8, none⟩ = some s.kv ∧ w3.frozen? ⟨s.Wb, 8, none⟩ = false) ∧ Inv B R { s with kv := kv, kn := n, ks := xs } (w3.setCell ⟨s.Wb, 8, none⟩ kv) ∧ ∀ w0, Fr B R w0 w → Fr B R w0 (w3.setCell ⟨s.Wb, 8, none⟩ kv) := by
  have hg' : w.grownBy w3 s.kv.ownBlock := (galloc w o _).trans hg
  have hW3 := blk_kept h.hW hg' (fun e => own_ne h.hk h.hW (by simp [tagOf]) e.symm)
  refine ⟨⟨cell_blk hW3 8, free_blk hW3 8⟩, h.pushK hg' ho, fun w0 hf => ?_⟩
  have b3 : B ≤ w3.heap.size := Nat.le_trans h.hB hg'.size
  have hf3 := hf.grown hg' h.hB (fun k e => .inl (own_blk_ge h.hk k e))
  exact hf3.grown (gset w3 ⟨s.Wb, 8, none⟩ kv) b3 (fun k e => by simp at e; have := h.bW; exact .inl (by omega))

def newOnly (idb j step : Nat) (hands : Bool) : List Value := [.pointer (some ⟨idb, 0, none⟩), .int .i64 j, .int .i64 step, .bool true, .bool false, .bool hands]
theorem own_newOnly (idb j step : Nat) (hands : Bool) : ∀ u ∈ newOnly idb j step hands, u.oneCell' = true := by
  intro u hu
  simp [newOnly] at hu
  rcases hu with rfl | rfl | rfl | rfl | rfl | rfl <;> rfl

theorem Inv.pushO_facts {B R : Nat} {s : St} {w w3 : World} (h : Inv B R s w) (hg' : w.grownBy w3 s.ov.ownBlock) {ov : Value} {n : Nat} {xs : List Value} (ho : w3.ownsRow B 123 6 ov n xs) :
    (w3.cell? ⟨s.Wb, 7, none⟩ = some s.ov ∧ w3.frozen? ⟨s.Wb, 7, none⟩ = false) ∧ Inv B R { s with ov := ov, m := n, os := xs } (w3.setCell ⟨s.Wb, 7, none⟩ ov) ∧ ∀ w0, Fr B R w0 w → Fr B R w0 (w3.setCell ⟨s.Wb, 7, none⟩ ov) := by
  have hW3 := blk_kept h.hW hg' (fun e => own_ne h.ho h.hW (by simp [tagOf]) e.symm)
  refine ⟨⟨cell_blk hW3 7, free_blk hW3 7⟩, h.pushO hg' ho, fun w0 hf => ?_⟩
  have b3 : B ≤ w3.heap.size := Nat.le_trans h.hB hg'.size
  have hf3 := hf.grown hg' h.hB (fun k e => .inl (own_blk_ge h.ho k e))
  exact hf3.grown (gset w3 ⟨s.Wb, 7, none⟩ ov) b3 (fun k e => by simp at e; have := h.bW; exact .inl (by omega))


theorem rdXs_cells (xs : List Value) (j step idb : Nat) (hb : Bool) (hl : j * 10 + 9 < xs.length) :
    (rdXs xs j step idb hb)[j * 10]? = xs[j * 10]? ∧ (rdXs xs j step idb hb)[j * 10 + 1]? = xs[j * 10 + 1]? ∧ (rdXs xs j step idb hb)[j * 10 + 2]? = xs[j * 10 + 2]? ∧ (rdXs xs j step idb hb)[j * 10 + 3]? = xs[j * 10 + 3]? ∧ (rdXs xs j step idb hb)[j * 10 + 4]? = xs[j * 10 + 4]? ∧ (rdXs xs j step idb hb)[j * 10 + 5]? = xs[j * 10 + 5]? ∧
    (rdXs xs j step idb hb)[j * 10 + 6]? = some (.int .i64 step) ∧ (rdXs xs j step idb hb)[j * 10 + 7]? = some (.int .i64 1) ∧ (rdXs xs j step idb hb)[j * 10 + 8]? = some (.pointer (some ⟨idb, 0, none⟩)) ∧ (rdXs xs j step idb hb)[j * 10 + 9]? = some (.bool hb) := by
  unfold rdXs rd4
  refine ⟨?_, ?_, ?_, ?_, ?_, ?_, ?_, ?_, ?_, ?_⟩ <;> simp [List.getElem?_set] <;> omega

end Go.Proofs.Qxb6613372a
