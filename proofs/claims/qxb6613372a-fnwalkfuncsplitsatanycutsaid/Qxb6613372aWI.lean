/-
  Seat b6613372a: one statement, from walkStep's contracts.
-/
import Derived.Test.Qxb6613372aWF
import Derived.Test.Qxb6613372aWH
namespace Go.Proofs.Qxb6613372a
open Go.ChangeShapes Go.WideShapes Go.ChangeAt Go.RowKit Go.MapKept
set_option linter.unusedSimpArgs false
set_option linter.unusedVariables false

/-- A statement: is it a return; its name; its name's place. -/
abbrev Sm := Bool × ByteArray × Nat
def bitOf (r : Bool) : Nat := if r then 2 else 1

noncomputable def useStep (F : ByteArray → Option Nat) (x : Sm) : ByteArray → Option Nat := putN F x.2.1 ((F x.2.1).getD 0 ||| bitOf x.1)
noncomputable def useF (M : List Sm) : ByteArray → Option Nat := M.foldl useStep (fun _ => none)
theorem useF_snoc (M : List Sm) (x : Sm) : useF (M ++ [x]) = useStep (useF M) x := by simp [useF]

theorem or_lt4 {a b : Nat} (ha : a < 4) (hb : b < 4) : a ||| b < 4 := Nat.or_lt_two_pow (n := 2) ha hb
theorem useF_lt (M : List Sm) : ∀ t, (useF M t).getD 0 < 4 := by
  have key : ∀ (M : List Sm) (F : ByteArray → Option Nat), (∀ t, (F t).getD 0 < 4) → ∀ t, (M.foldl useStep F t).getD 0 < 4 := by
    intro M
    induction M with
    | nil => intro F hF t; exact hF t
    | cons x M ih =>
      intro F hF t
      refine ih _ (fun u => ?_) t
      unfold useStep putN
      split
      · simp only [Option.getD_some]
        exact or_lt4 (hF _) (by cases x.1 <;> simp [bitOf])
      · exact hF u
  exact key M _ (fun t => by simp)

def retL (FV : ByteArray → Option Nat) (M : List Sm) : List (Nat × Nat) := M.filterMap (fun x => if x.1 then (FV x.2.1).map (fun j => (x.2.2, j)) else none)
theorem retL_snoc (FV : ByteArray → Option Nat) (M : List Sm) (x : Sm) : retL FV (M ++ [x]) = retL FV M ++ retL FV [x] := by simp [retL, List.filterMap_append]
theorem retL_len (FV : ByteArray → Option Nat) (M : List Sm) : (retL FV M).length ≤ M.length := List.length_filterMap_le _ _

def VOK (n step : Nat) (xs : List Value) (pn : Nat → ByteArray) : Prop :=
  xs.length = n * 10 ∧ ∀ j, j < n → xs[j * 10]? = some (.string (pn j)) ∧ xs[j * 10 + 1]? = some (.int .i64 0) ∧ xs[j * 10 + 2]? = some (.bool false) ∧ xs[j * 10 + 3]? = some (.bool true) ∧ xs[j * 10 + 4]? = some (.bool false) ∧ xs[j * 10 + 5]? = some (.bool false) ∧
    (∃ st : Nat, xs[j * 10 + 6]? = some (.int .i64 st) ∧ st ≤ step) ∧ (∃ r, xs[j * 10 + 7]? = some r) ∧ (∃ p, xs[j * 10 + 8]? = some p) ∧ ∃ q, xs[j * 10 + 9]? = some q

theorem VOK.mono {n step step' : Nat} {xs : List Value} {pn : Nat → ByteArray} (h : VOK n step xs pn) (hs : step ≤ step') : VOK n step' xs pn := by
  refine ⟨h.1, fun j hj => ?_⟩
  obtain ⟨h0, h1, h2, h3, h4, h5, ⟨st, h6, h6'⟩, h7⟩ := h.2 j hj
  exact ⟨h0, h1, h2, h3, h4, h5, ⟨st, h6, by omega⟩, h7⟩

theorem rdXs_other (xs : List Value) (i j step idb : Nat) (hb : Bool) (hne : i ≠ j) (c : Nat) (hc : c < 10) : (rdXs xs j step idb hb)[i * 10 + c]? = xs[i * 10 + c]? := by
  unfold rdXs rd4
  simp only [List.getElem?_set, List.length_set]
  repeat rw [if_neg (by omega)]

theorem VOK.read {n step : Nat} {xs : List Value} {pn : Nat → ByteArray} (h : VOK n step xs pn) {j : Nat} (hj : j < n) (idb : Nat) (hb : Bool) : VOK n (step + 1) (rdXs xs j (step + 1) idb hb) pn := by
  refine ⟨by simp [rdXs, rd4, h.1], fun i hi => ?_⟩
  by_cases e : i = j
  · subst e
    obtain ⟨X0, X1, X2, X3, X4, X5, X6, X7, X8, X9⟩ := rdXs_cells xs i (step + 1) idb hb (by rw [h.1]; omega)
    obtain ⟨h0, h1, h2, h3, h4, h5, _⟩ := h.2 i hi
    exact ⟨X0.trans h0, X1.trans h1, X2.trans h2, X3.trans h3, X4.trans h4, X5.trans h5, ⟨step + 1, X6, Nat.le_refl _⟩, ⟨_, X7⟩, ⟨_, X8⟩, ⟨_, X9⟩⟩
  · have R := rdXs_other xs i j (step + 1) idb hb e
    have R0 := R 0 (by omega)
    simp only [Nat.add_zero] at R0
    obtain ⟨h0, h1, h2, h3, h4, h5, ⟨st, h6, h6'⟩, ⟨r, h7⟩, ⟨p, h8⟩, ⟨q, h9⟩⟩ := h.2 i hi
    exact ⟨R0.trans h0, (R 1 (by omega)).trans h1, (R 2 (by omega)).trans h2, (R 3 (by omega)).trans h3, (R 4 (by omega)).trans h4, (R 5 (by omega)).trans h5, ⟨st, (R 6 (by omega)).trans h6, by omega⟩, ⟨r, (R 7 (by omega)).trans h7⟩, ⟨p, (R 8 (by omega)).trans h8⟩, ⟨q, (R 9 (by omega)).trans h9⟩⟩

def OsOK (FV : ByteArray → Option Nat) (M : List Sm) (m : Nat) (os : List Value) : Prop :=
  ∃ qs : List (Nat × Nat × Nat), qs.length = m ∧ os = qs.flatMap (fun q => newOnly q.1 q.2.1 q.2.2 false) ∧ qs.map (fun q => (q.1, q.2.1)) = retL FV M

theorem OsOK.le {FV : ByteArray → Option Nat} {M : List Sm} {m : Nat} {os : List Value} (h : OsOK FV M m os) : m ≤ M.length := by
  obtain ⟨qs, h1, _, h3⟩ := h
  have := retL_len FV M
  rw [← h3] at this
  simp at this
  omega
theorem OsOK.miss {FV : ByteArray → Option Nat} {M : List Sm} {m : Nat} {os : List Value} (h : OsOK FV M m os) (x : Sm) (hx : retL FV [x] = []) : OsOK FV (M ++ [x]) m os := by
  obtain ⟨qs, h1, h2, h3⟩ := h
  exact ⟨qs, h1, h2, by rw [retL_snoc, hx, List.append_nil, h3]⟩
theorem OsOK.hit {FV : ByteArray → Option Nat} {M : List Sm} {m : Nat} {os : List Value} (h : OsOK FV M m os) (nm : ByteArray) (idb j step : Nat) (hj : FV nm = some j) : OsOK FV (M ++ [(true, nm, idb)]) (m + 1) (os ++ newOnly idb j step false) := by
  obtain ⟨qs, h1, h2, h3⟩ := h
  exact ⟨qs ++ [(idb, j, step)], by simp [h1], by simp [h2], by rw [retL_snoc, List.map_append, h3]; simp [retL, hj]⟩

/-- The state behind the statements M. -/
def Mk (s0 : St) (FU : ByteArray → Option Nat) (nU step : Nat) (kv tv ov : Value) (xs : List Value) (m : Nat) (os : List Value) : St :=
  { s0 with FU := FU, nU := nU, step := step, kv := kv, kn := 0, ks := [], tv := tv, tn := 0, ts := [], xs := xs, ov := ov, m := m, os := os }

def After (B R : Nat) (s0 : St) (pn : Nat → ByteArray) (w : World) (M : List Sm) (w' : World) : Prop :=
  ∃ nU kv tv ov xs m os, Inv B R (Mk s0 (useF M) nU M.length kv tv ov xs m os) w' ∧ Fr B R w w' ∧ VOK s0.n M.length xs pn ∧ OsOK s0.FV M m os

theorem After.lit {B R : Nat} {s0 : St} {pn : Nat → ByteArray} {w wr w2 : World} {M : List Sm} {nU : Nat} {kv tv ov : Value} {xs : List Value} {m : Nat} {os : List Value}
    (hI : Inv B R (Mk s0 (useF M) nU M.length kv tv ov xs m os) wr) (hf : Fr B R w wr) (hv : VOK s0.n M.length xs pn) (ho : OsOK s0.FV M m os) (hM : M.length ≤ 60000) (nm : ByteArray) (idb lb : Nat) (hid : w.cell? ⟨idb, 2, none⟩ = some (.string nm)) (hidB : idb < B) (hidR : idb ≠ R)
    (hg : wr.grownBy w2 (some s0.Ub)) {k : Nat} (hU : StrMap w2 s0.Ub (fU (useF (M ++ [(false, nm, idb)]))) k) :
    Calls Try.prog 26 #[.pointer (some ⟨s0.Wb, 0, none⟩), .pointer (some ⟨idb, 0, none⟩), .bool false, .bool true, .slice (some ⟨w2.heap.size, 0, none⟩) 1 1] (w2.alloc (.cells #[.iface 75 (.pointer (some ⟨lb, 0, none⟩))] 71)) fun e w' => e = .returned (.tuple #[]) ∧ After B R s0 pn w (M ++ [(false, nm, idb)]) w' := by
  have h2 : Inv B R (Mk s0 (useF (M ++ [(false, nm, idb)])) k M.length kv tv ov xs m os) w2 := hI.uses hg hU
  have hf2 : Fr B R w w2 := hf.grown hg hI.hB (fun k e => by simp at e; subst e; exact .inl hI.bU)
  have h3 := h2.alloc (.cells #[.iface 75 (.pointer (some ⟨lb, 0, none⟩))] 71)
  have hf3 : Fr B R w (w2.alloc (.cells #[.iface 75 (.pointer (some ⟨lb, 0, none⟩))] 71)) := hf2.grown (galloc w2 (.cells #[.iface 75 (.pointer (some ⟨lb, 0, none⟩))] 71) none) h2.hB (by simp)
  refine (step_lit h3 nm idb w2.heap.size lb (MapKept.heap_alloc w2 _).1 h2.hB (cell_fr hid hf3 hidB hidR) hidB hidR (by show M.length ≤ 65530; omega) rfl).mono ?_
  rintro e w' ⟨he, kv', tv', hI', hf'⟩
  refine ⟨he, k, kv', tv', ov, xs, m, os, ?_, hf3.trans hf', by rw [List.length_append]; exact hv.mono (by simp), ho.miss _ (by simp [retL])⟩
  have e1 : (M ++ [((false, nm, idb) : Sm)]).length = M.length + 1 := by simp
  rw [e1]
  exact hI'

theorem After.ret {B R : Nat} {s0 : St} {pn : Nat → ByteArray} {w wr w2 : World} {M : List Sm} {nU : Nat} {kv tv ov : Value} {xs : List Value} {m : Nat} {os : List Value}
    (hI : Inv B R (Mk s0 (useF M) nU M.length kv tv ov xs m os) wr) (hf : Fr B R w wr) (hv : VOK s0.n M.length xs pn) (ho : OsOK s0.FV M m os) (hM : M.length ≤ 60000) (hn : s0.n ≤ 65536) (hFV : ∀ nm j, s0.FV nm = some j → j < s0.n) (nm : ByteArray) (idb : Nat) (hid : w.cell? ⟨idb, 2, none⟩ = some (.string nm)) (hidB : idb < B) (hidR : idb ≠ R)
    (hg : wr.grownBy w2 (some s0.Ub)) {k : Nat} (hU : StrMap w2 s0.Ub (fU (useF (M ++ [(true, nm, idb)]))) k) :
    Calls Try.prog 26 #[.pointer (some ⟨s0.Wb, 0, none⟩), .pointer none, .bool true, .bool false, .slice (some ⟨w2.heap.size, 0, none⟩) 1 1] (w2.alloc (.cells #[.iface 57 (.pointer (some ⟨idb, 0, none⟩))] 71)) fun e w' => e = .returned (.tuple #[]) ∧ After B R s0 pn w (M ++ [(true, nm, idb)]) w' := by
  have h2 : Inv B R (Mk s0 (useF (M ++ [(true, nm, idb)])) k M.length kv tv ov xs m os) w2 := hI.uses hg hU
  have hf2 : Fr B R w w2 := hf.grown hg hI.hB (fun k e => by simp at e; subst e; exact .inl hI.bU)
  have h3 := h2.alloc (.cells #[.iface 57 (.pointer (some ⟨idb, 0, none⟩))] 71)
  have hf3 : Fr B R w (w2.alloc (.cells #[.iface 57 (.pointer (some ⟨idb, 0, none⟩))] 71)) := hf2.grown (galloc w2 (.cells #[.iface 57 (.pointer (some ⟨idb, 0, none⟩))] 71) none) h2.hB (by simp)
  have e1 : (M ++ [((true, nm, idb) : Sm)]).length = M.length + 1 := by simp
  cases hj : s0.FV nm with
  | none =>
    refine (step_ret_miss h3 nm idb w2.heap.size (MapKept.heap_alloc w2 _).1 (cell_fr hid hf3 hidB hidR) hidB hidR (by show M.length ≤ 65530; omega) hj rfl).mono ?_
    rintro e w' ⟨he, kv', tv', hI', hf'⟩
    refine ⟨he, k, kv', tv', ov, xs, m, os, ?_, hf3.trans hf', by rw [List.length_append]; exact hv.mono (by simp), ho.miss _ (by simp [retL, hj])⟩
    rw [e1]
    exact hI'
  | some j =>
    have hjn := hFV nm j hj
    have hm := ho.le
    obtain ⟨x0, x1, x2, x3, x4, x5, ⟨st, x6, hst⟩, ⟨r, x7⟩, ⟨p, x8⟩, ⟨q, x9⟩⟩ := hv.2 j hjn
    refine (step_ret_hit h3 nm idb w2.heap.size (MapKept.heap_alloc w2 _).1 (cell_fr hid hf3 hidB hidR) hidB hidR (by show M.length ≤ 65530; omega) j hj hjn hn (by show m ≤ 65536; omega) rfl st x6 hst r x7 p x8 q x9 (pn j) false true false false x0 x1 x2 x3 x4 x5).mono ?_
    rintro e w' ⟨he, kv', tv', ov', hI', hf'⟩
    refine ⟨he, k, kv', tv', ov', rdXs xs j (M.length + 1) idb false, m + 1, os ++ newOnly idb j (M.length + 1) false, ?_, hf3.trans hf', ?_, ho.hit nm idb j _ hj⟩
    · rw [e1]; exact hI'
    · rw [e1]; exact hv.read hjn idb false
end Go.Proofs.Qxb6613372a
