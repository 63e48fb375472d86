/-
  Seat b6613372a: the walk object in memory; lookup.
-/
import Derived.Test.Qxb6613372aWA
namespace Go.Proofs.Qxb6613372a
open Go.ChangeShapes Go.WideShapes Go.ChangeAt Go.RowKit Go.MapKept

theorem zero82 (w : World) : (zeroValue 82).run Try.prog w = .ok (.int .u8 0) w := by kernel_rfl
theorem zero3 (w : World) : (zeroValue 3).run Try.prog w = .ok (.int .i64 0) w := by kernel_rfl

theorem equalIn_map_nil (w : World) (d : Nat) (t k e : TypeId) (m : Option Nat) (h : Try.prog.underlying t = some (.map k e)) : (Op.equalIn (d + 1) t (.map m) (.map none)).run Try.prog w = .ok m.isNone w := by
  cases m <;> simp [Op.equalIn, run_underlying h]
theorem equal_map_nil (w : World) (t k e : TypeId) (m : Option Nat) (h : Try.prog.underlying t = some (.map k e)) : (Op.equal t (.map m) (.map none)).run Try.prog w = .ok m.isNone w := equalIn_map_nil w 9999 t k e m h
theorem neq53 (w : World) (m : Option Nat) : (binOp .neq 53 (.map m) (.map none)).run Try.prog w = .ok (.bool (!m.isNone)) w := by
  simp only [binOp]
  simp [equal_map_nil w 53 9 4 m Try.underlying53]
theorem eql85 (w : World) (m : Option Nat) : (binOp .eql 85 (.map m) (.map none)).run Try.prog w = .ok (.bool m.isNone) w := by
  simp only [binOp]
  simp [equal_map_nil w 85 9 3 m Try.underlying85]

/-- The state of a walk. -/
structure St where
  Wb : Nat
  Sb : Nat
  Ub : Nat
  vm : Value
  vv : Value
  tv : Value
  ov : Value
  kv : Value
  step : Nat
  FU : ByteArray → Option Nat
  nU : Nat
  FV : ByteArray → Option Nat
  n : Nat
  xs : List Value
  m : Nat
  os : List Value
  tn : Nat
  ts : List Value
  kn : Nat
  ks : List Value

def fU (F : ByteArray → Option Nat) : ByteArray → Option Value := fun s => (F s).map (fun j => .int .u8 j)
def fV (F : ByteArray → Option Nat) : ByteArray → Option Value := fun s => (F s).map (fun j => .int .i64 j)

def VMap (B Ub : Nat) (vm : Value) (FV : ByteArray → Option Nat) (w : World) : Prop :=
  (vm = .map none ∧ ∀ s, FV s = none) ∨ ∃ Vb k, vm = .map (some Vb) ∧ B ≤ Vb ∧ Vb ≠ Ub ∧ StrMap w Vb (fV FV) k

structure Inv (B R : Nat) (s : St) (w : World) : Prop where
  hB : B ≤ w.heap.size
  hW : w.heap[s.Wb]? = some (.cells #[.map (some s.Ub), .pointer (some ⟨s.Sb, 0, none⟩), s.vv, .bool false, .int .i64 0, .int .i64 s.step, s.tv, s.ov, s.kv, .func (.func 22) #[] #[], .map (some R)] 93 (0, 0))
  hS : w.heap[s.Sb]? = some (.cells #[s.vm, .pointer none] 87 (0, 0))
  hU : StrMap w s.Ub (fU s.FU) s.nU
  hV : VMap B s.Ub s.vm s.FV w
  hR : ∃ F k, StrMap w R F k
  bW : B ≤ s.Wb
  bS : B ≤ s.Sb
  bU : B ≤ s.Ub
  bR : R < B
  hv : w.ownsRow B 95 10 s.vv s.n s.xs
  ht : w.ownsRow B 3 1 s.tv s.tn s.ts
  ho : w.ownsRow B 123 6 s.ov s.m s.os
  hk : w.ownsRow B 126 2 s.kv s.kn s.ks

section
variable {B R : Nat} {s : St} {w w' : World}

theorem StrMap.ne_blk {b : Nat} {F : ByteArray → Option Value} {n : Nat} (h : StrMap w b F n) {c : Nat} {o : Obj} (hc : w.heap[c]? = some o) (ho : tagOf o ≠ 0) : b ≠ c := by
  obtain ⟨o', hb, ht⟩ := h.blk
  exact ne_of_tag hb hc (by rw [ht]; exact fun e => ho e.symm)
theorem StrMap.ne_own {b : Nat} {F : ByteArray → Option Value} {n : Nat} (h : StrMap w b F n) {base : Nat} {e : TypeId} {size : Nat} {v : Value} {n' : Nat} {xs : List Value} (ho : w.ownsRow base e size v n' xs) : some b ≠ v.ownBlock := by
  obtain ⟨o', hb, ht⟩ := h.blk
  exact fun e1 => own_ne ho hb (by rw [ht]; exact fun e2 => by cases e2) e1.symm

theorem VMap.kept {Ub : Nat} {vm : Value} {FV : ByteArray → Option Nat} {row : Option Nat} (h : VMap B Ub vm FV w) (hg : w.grownBy w' row) (hne : ∀ b F k, StrMap w b F k → B ≤ b → b ≠ Ub → some b ≠ row) : VMap B Ub vm FV w' := by
  rcases h with h | ⟨Vb, k, h1, h2, h3, h4⟩
  · exact .inl h
  · exact .inr ⟨Vb, k, h1, h2, h3, h4.kept hg (hne _ _ _ h4 h2 h3)⟩

/-- Nothing of the old memory has changed. -/
theorem Inv.more (h : Inv B R s w) (hg : w.grownBy w' none) : Inv B R s w' := by
  obtain ⟨F, k, hR⟩ := h.hR
  exact ⟨Nat.le_trans h.hB hg.size, blk_kept h.hW hg (by simp), blk_kept h.hS hg (by simp), h.hU.kept hg (by simp), h.hV.kept hg (fun _ _ _ _ _ _ => by simp), ⟨F, k, hR.kept hg (by simp)⟩, h.bW, h.bS, h.bU, h.bR,
    own_kept h.hv hg (by cases h : s.vv.ownBlock <;> simp), own_kept h.ht hg (by cases h : s.tv.ownBlock <;> simp), own_kept h.ho hg (by cases h : s.ov.ownBlock <;> simp), own_kept h.hk hg (by cases h : s.kv.ownBlock <;> simp)⟩
theorem Inv.alloc (h : Inv B R s w) (o : Obj) : Inv B R s (w.alloc o) := h.more (galloc w o none)
theorem Inv.drew (h : Inv B R s w) : Inv B R s w.drew := h.more (gdrew w none)
theorem Inv.drewN (h : Inv B R s w) (n : Nat) : Inv B R s (w.drewN n) := h.more (gdrewN w n none)

/-- One map has been written. -/
theorem Inv.refers (h : Inv B R s w) (hg : w.grownBy w' (some R)) (hR : ∃ F k, StrMap w' R F k) : Inv B R s w' := by
  obtain ⟨F, k, hR0⟩ := h.hR
  have e := h.bR
  have e1 := h.bW; have e2 := h.bS; have e3 := h.bU
  refine ⟨Nat.le_trans h.hB hg.size, blk_kept h.hW hg (by simp; omega), blk_kept h.hS hg (by simp; omega), h.hU.kept hg (by simp; omega), h.hV.kept hg (fun b _ _ _ hb _ => by simp; omega), hR, h.bW, h.bS, h.bU, h.bR, ?_, ?_, ?_, ?_⟩
  · exact own_kept h.hv hg (.inr (fun e => hR0.ne_own h.hv e.symm))
  · exact own_kept h.ht hg (.inr (fun e => hR0.ne_own h.ht e.symm))
  · exact own_kept h.ho hg (.inr (fun e => hR0.ne_own h.ho e.symm))
  · exact own_kept h.hk hg (.inr (fun e => hR0.ne_own h.hk e.symm))

theorem Inv.uses (h : Inv B R s w) (hg : w.grownBy w' (some s.Ub)) {F : ByteArray → Option Nat} {k : Nat} (hU : StrMap w' s.Ub (fU F) k) : Inv B R { s with FU := F, nU := k } w' := by
  obtain ⟨F', k', hR0⟩ := h.hR
  have e := h.bR
  have e1 := h.bW; have e2 := h.bS; have e3 := h.bU
  refine ⟨Nat.le_trans h.hB hg.size, blk_kept h.hW hg (fun e => h.hU.ne_blk h.hW (by simp [tagOf]) (by simpa using e.symm)), blk_kept h.hS hg (fun e => h.hU.ne_blk h.hS (by simp [tagOf]) (by simpa using e.symm)), hU, h.hV.kept hg (fun b _ _ _ _ hb => by simpa using hb), ⟨F', k', hR0.kept hg (by simp; omega)⟩, h.bW, h.bS, h.bU, h.bR, ?_, ?_, ?_, ?_⟩
  · exact own_kept h.hv hg (.inr (fun e => h.hU.ne_own h.hv e.symm))
  · exact own_kept h.ht hg (.inr (fun e => h.hU.ne_own h.ht e.symm))
  · exact own_kept h.ho hg (.inr (fun e => h.hU.ne_own h.ho e.symm))
  · exact own_kept h.hk hg (.inr (fun e => h.hU.ne_own h.hk e.symm))

theorem VMap.ne_tag {Ub : Nat} {vm : Value} {FV : ByteArray → Option Nat} (_h : VMap B Ub vm FV w) {c : Nat} {o : Obj} (hc : w.heap[c]? = some o) (ho : tagOf o ≠ 0) : ∀ b F k, StrMap w b F k → B ≤ b → b ≠ Ub → some b ≠ some c := fun b F k hb _ _ e => hb.ne_blk hc ho (by simpa using e)

/-- A store into the walk's own cells. -/
theorem Inv.setW (h : Inv B R s w) (i : Nat) (v : Value) {s' : St} (hvm : s'.vm = s.vm) (hWb : s'.Wb = s.Wb) (hSb : s'.Sb = s.Sb) (hUb : s'.Ub = s.Ub) (hFU : s'.FU = s.FU) (hnU : s'.nU = s.nU) (hFV : s'.FV = s.FV)
    (hA : (#[.map (some s.Ub), .pointer (some ⟨s.Sb, 0, none⟩), s.vv, .bool false, .int .i64 0, .int .i64 s.step, s.tv, s.ov, s.kv, .func (.func 22) #[] #[], .map (some R)] : Array Value).setIfInBounds i v
      = #[.map (some s'.Ub), .pointer (some ⟨s'.Sb, 0, none⟩), s'.vv, .bool false, .int .i64 0, .int .i64 s'.step, s'.tv, s'.ov, s'.kv, .func (.func 22) #[] #[], .map (some R)])
    (hv : w.ownsRow B 95 10 s'.vv s'.n s'.xs) (ht : w.ownsRow B 3 1 s'.tv s'.tn s'.ts) (ho : w.ownsRow B 123 6 s'.ov s'.m s'.os) (hk : w.ownsRow B 126 2 s'.kv s'.kn s'.ks) : Inv B R s' (w.setCell ⟨s.Wb, i, none⟩ v) := by
  obtain ⟨F', k', hR0⟩ := h.hR
  have hg := gset w ⟨s.Wb, i, none⟩ v
  have tW : tagOf (.cells #[.map (some s.Ub), .pointer (some ⟨s.Sb, 0, none⟩), s.vv, .bool false, .int .i64 0, .int .i64 s.step, s.tv, s.ov, s.kv, .func (.func 22) #[] #[], .map (some R)] 93 (0, 0)) = 94 := rfl
  refine ⟨Nat.le_trans h.hB hg.size, ?_, ?_, ?_, ?_, ⟨F', k', hR0.kept hg (fun e => hR0.ne_blk h.hW (by rw [tW]; simp) (by simpa using e))⟩, by rw [hWb]; exact h.bW, by rw [hSb]; exact h.bS, by rw [hUb]; exact h.bU, h.bR, ?_, ?_, ?_, ?_⟩
  · rw [hWb, ← hA]
    exact blk_set h.hW i v
  · rw [hSb, hvm]
    exact blk_kept h.hS hg (fun e => ne_of_tag h.hS h.hW (by simp [tagOf]) (by simpa using e))
  · rw [hUb, hFU, hnU]
    exact h.hU.kept hg (fun e => h.hU.ne_blk h.hW (by rw [tW]; simp) (by simpa using e))
  · rw [hUb, hvm, hFV]
    exact h.hV.kept hg (h.hV.ne_tag h.hW (by rw [tW]; simp))
  · exact own_kept hv hg (.inr (own_ne hv h.hW (by rw [tW]; simp)))
  · exact own_kept ht hg (.inr (own_ne ht h.hW (by rw [tW]; simp)))
  · exact own_kept ho hg (.inr (own_ne ho h.hW (by rw [tW]; simp)))
  · exact own_kept hk hg (.inr (own_ne hk h.hW (by rw [tW]; simp)))
end

/-! ### lookup -/
theorem vmap_look {B Ub : Nat} {vm : Value} {FV : ByteArray → Option Nat} {w : World} (h : VMap B Ub vm FV w) (nm : ByteArray) :
    (Instr.lookup 85 vm (.string nm) true).run Try.prog w = .ok (.tuple #[.int .i64 ((FV nm).getD 0), .bool (FV nm).isSome]) w := by
  rcases h with ⟨rfl, h⟩ | ⟨Vb, k, rfl, _, _, h⟩
  · rw [look_nilmap Try.underlying85 Try.underlying9 (zero3 w) nm true, h nm]; rfl
  · rw [h.look Try.underlying85 Try.underlying9 (zero3 w) nm true]
    cases hF : FV nm <;> simp [fV, hF]

theorem lookup_hit {B R : Nat} {s : St} {w : World} (h : Inv B R s w) (nm : ByteArray) (j : Nat) (hj : s.FV nm = some j) :
    Calls Try.prog 27 #[.pointer (some ⟨s.Wb, 0, none⟩), .string nm] w fun e w' => e = .returned (.tuple #[.int .i64 j, .bool true]) ∧ w' = w := by
  have hl := vmap_look h.hV nm
  rw [hj] at hl
  have c1 : w.cell? ⟨s.Wb, 1, none⟩ = some (.pointer (some ⟨s.Sb, 0, none⟩)) := cell_blk h.hW 1
  have c2 : w.cell? ⟨s.Sb, 0, none⟩ = some s.vm := cell_blk h.hS 0
  clear h
  go_enter Try.func27, Try.ntmps27
  go_wp2
  go_loopg [6] 1 (fun g x wr => g = 1 ∧ x = .pointer (some ⟨s.Sb, 0, none⟩) ∧ wr = w)
  case atStart => exact ⟨rfl, rfl, rfl⟩
  case round =>
    obtain ⟨rfl, rfl, rfl⟩ := hrel
    go_wp2
    exact bodyPost_ret (v := .tuple #[.int .i64 j, .bool true]) (by simp [results, Try.results27, go_sem]) rfl ⟨rfl, rfl⟩

set_option maxRecDepth 100000 in
theorem lookup_miss {B R : Nat} {s : St} {w : World} (h : Inv B R s w) (nm : ByteArray) (hj : s.FV nm = none) :
    Calls Try.prog 27 #[.pointer (some ⟨s.Wb, 0, none⟩), .string nm] w fun e w' => e = .returned (.tuple #[.int .i64 0, .bool false]) ∧ Inv B R s w' ∧ w.grownBy w' (some R) ∧ w'.heap.size = w.heap.size := by
  have hl := vmap_look h.hV nm
  rw [hj] at hl
  have c1 : w.cell? ⟨s.Wb, 1, none⟩ = some (.pointer (some ⟨s.Sb, 0, none⟩)) := cell_blk h.hW 1
  have c10 : w.cell? ⟨s.Wb, 10, none⟩ = some (.map (some R)) := cell_blk h.hW 10
  have c2 : w.cell? ⟨s.Sb, 0, none⟩ = some s.vm := cell_blk h.hS 0
  have c3 : w.cell? ⟨s.Sb, 1, none⟩ = some (.pointer none) := cell_blk h.hS 1
  have hq := neq53 w (some R)
  obtain ⟨F, k, hR⟩ := h.hR
  obtain ⟨w2, hup, hR2, hg, hsz⟩ := hR.store Try.underlying53 Try.underlying9 nm (.bool true)
  have H : Hid (Inv B R s w2 ∧ w.grownBy w2 (some R) ∧ w2.heap.size = w.heap.size) := ⟨h.refers hg ⟨_, _, hR2⟩, hg, hsz⟩
  clear h hR hR2 hg hsz
  go_enter Try.func27, Try.ntmps27
  go_wp2
  go_loopg [6] 1 (fun g x wr => ((g = 1 ∧ x = .pointer (some ⟨s.Sb, 0, none⟩)) ∨ (g = 0 ∧ x = .pointer none)) ∧ wr = w)
  case atStart => exact ⟨.inl ⟨rfl, rfl⟩, rfl⟩
  case round =>
    obtain ⟨⟨rfl, rfl⟩ | ⟨rfl, rfl⟩, rfl⟩ := hrel
    · go_wp2
      go_roundg 0
      case measure => omega
      case rel => exact ⟨.inr ⟨rfl, rfl⟩, rfl⟩
    · go_wp2
      exact bodyPost_ret (v := .tuple #[.int .i64 0, .bool false]) (by simp [results, Try.results27, go_sem]) rfl ⟨rfl, H.out⟩
end Go.Proofs.Qxb6613372a
