/-
  Seat b6613372a: worlds and maps for the walk of a function's body.
-/
import Derived.Test.Qxb6613372aRows
import Derived.WalkKit
import Derived.ProofKit
import Derived.OpenShut
import Derived.Below
import Derived.Outline
import Derived.WalkLawsBesides
import Derived.Deep.QuietTactic
import Derived.BigQuiet
import Derived.Deep.LoopGhost
import Derived.Deep.OwnRows
import Derived.Deep.Light
import Derived.Deep.AppendLies
import Derived.Deep.RegionHeldLaw
import Derived.LaidEqlPtr
import Derived.Maps.Keyed
namespace Go.Proofs.Qxb6613372a
open Go.ChangeShapes Go.WideShapes Go.ChangeAt Go.RowKit Go.MapKept

theorem hd {p : Prop} (h : p) : Hid p := h

/-! ### Worlds -/
/-- w' is w below B, but for block R; new blocks may have come. -/
structure Fr (B R : Nat) (w w' : World) : Prop where
  os : w'.os = w.os
  tape : w'.tape = w.tape
  output : w'.output = w.output
  size : w.heap.size ≤ w'.heap.size
  block : ∀ k, k < B → k ≠ R → w'.heap[k]? = w.heap[k]?

theorem Fr.refl (B R : Nat) (w : World) : Fr B R w w := ⟨rfl, rfl, rfl, Nat.le_refl _, fun _ _ _ => rfl⟩
theorem Fr.trans {B R : Nat} {a b c : World} (h : Fr B R a b) (k : Fr B R b c) : Fr B R a c :=
  ⟨k.os.trans h.os, k.tape.trans h.tape, k.output.trans h.output, Nat.le_trans h.size k.size, fun i hi hr => (k.block i hi hr).trans (h.block i hi hr)⟩
theorem Fr.mono {B B' R : Nat} {w w' : World} (h : Fr B R w w') (hB : B' ≤ B) : Fr B' R w w' := ⟨h.os, h.tape, h.output, h.size, fun k hk => h.block k (Nat.lt_of_lt_of_le hk hB)⟩
theorem Fr.grown {B R : Nat} {a w w' : World} {row : Option Nat} (h : Fr B R a w) (hg : w.grownBy w' row) (hB : B ≤ w.heap.size) (hr : ∀ k, row = some k → B ≤ k ∨ k = R) : Fr B R a w' :=
  ⟨hg.os.trans h.os, hg.tape.trans h.tape, hg.output.trans h.output, Nat.le_trans h.size hg.size, fun k hk hkr => (hg.block k (by omega) (fun e => by rcases hr k e.symm with h | h <;> omega)).trans (h.block k hk hkr)⟩

theorem gset (w : World) (a : Addr) (v : Value) : w.grownBy (w.setCell a v) (some a.block) :=
  ⟨rfl, rfl, rfl, by simp [World.setCell], fun k _ hk => Below.heap_setCell w a v k (fun e => hk (by rw [e]))⟩
theorem gdrew (w : World) (row : Option Nat) : w.grownBy w.drew row := ⟨rfl, rfl, rfl, Nat.le_refl _, fun _ _ _ => rfl⟩
theorem gdrewN (w : World) (n : Nat) (row : Option Nat) : w.grownBy (w.drewN n) row := ⟨rfl, rfl, rfl, Nat.le_refl _, fun _ _ _ => rfl⟩
theorem galloc (w : World) (o : Obj) (row : Option Nat) : w.grownBy (w.alloc o) row := World.grownBy_alloc w o row
theorem grefl (w : World) (row : Option Nat) : w.grownBy w row := ⟨rfl, rfl, rfl, Nat.le_refl _, fun _ _ _ => rfl⟩

theorem lt_of_blk {w : World} {b : Nat} {o : Obj} (h : w.heap[b]? = some o) : b < w.heap.size := (Array.getElem?_eq_some_iff.1 h).1
theorem blk_kept {w w' : World} {b : Nat} {o : Obj} {row : Option Nat} (h : w.heap[b]? = some o) (hg : w.grownBy w' row) (hne : some b ≠ row) : w'.heap[b]? = some o :=
  (hg.block b (lt_of_blk h) hne).trans h
theorem blk_fr {B R : Nat} {w w' : World} {b : Nat} {o : Obj} (h : w.heap[b]? = some o) (hf : Fr B R w w') (hb : b < B) (hr : b ≠ R) : w'.heap[b]? = some o := (hf.block b hb hr).trans h

def tagOf : Obj → Nat
  | .cells _ t _ => t + 1
  | _ => 0
theorem ne_of_tag {w : World} {a b : Nat} {o p : Obj} (ha : w.heap[a]? = some o) (hb : w.heap[b]? = some p) (h : tagOf o ≠ tagOf p) : a ≠ b := fun e => by
  subst e; rw [ha] at hb; cases hb; exact h rfl

theorem cell_blk {w : World} {B : Nat} {c : Array Value} {t : TypeId} {fr : Nat × Nat} (h : w.heap[B]? = some (.cells c t fr)) (i : Nat) : w.cell? ⟨B, i, none⟩ = c[i]? := by
  simp [World.cell?, h]
theorem free_blk {w : World} {B : Nat} {c : Array Value} {t : TypeId} (h : w.heap[B]? = some (.cells c t (0, 0))) (i : Nat) : w.frozen? ⟨B, i, none⟩ = false := by
  simp [World.frozen?, h]
theorem blk_set {w : World} {B : Nat} {c : Array Value} {t : TypeId} {fr : Nat × Nat} (h : w.heap[B]? = some (.cells c t fr)) (i : Nat) (v : Value) :
    (w.setCell ⟨B, i, none⟩ v).heap[B]? = some (.cells (c.setIfInBounds i v) t fr) := by
  simp [World.setCell, Array.getElem?_modify, h]

/-! ### Rows of the call's own -/
theorem own_kept {w w' : World} {base : Nat} {e : TypeId} {size : Nat} {v : Value} {n : Nat} {xs : List Value} {row : Option Nat} (h : w.ownsRow base e size v n xs) (hg : w.grownBy w' row) (hne : v.ownBlock = none ∨ v.ownBlock ≠ row) : w'.ownsRow base e size v n xs := by
  obtain ⟨hl, h | ⟨g, cap, cur, rfl, hbg, hb, hnc, hcm, hcs, ht⟩⟩ := h
  · exact ⟨hl, .inl h⟩
  · refine ⟨hl, .inr ⟨g, cap, cur, rfl, hbg, blk_kept hb hg (fun e => ?_), hnc, hcm, hcs, ht⟩⟩
    rcases hne with h | h
    · cases h
    · exact h e
theorem own_ne {w : World} {base : Nat} {e : TypeId} {size : Nat} {v : Value} {n : Nat} {xs : List Value} {b : Nat} {o : Obj} (h : w.ownsRow base e size v n xs) (hb : w.heap[b]? = some o) (ht : tagOf o ≠ e + 1) : v.ownBlock ≠ some b := by
  obtain ⟨hl, ⟨rfl, _⟩ | ⟨g, cap, cur, rfl, hbg, hg, _⟩⟩ := h
  · simp [Value.ownBlock]
  · intro e1
    have : g = b := by simpa [Value.ownBlock] using e1
    subst this
    rw [hg] at hb; cases hb; exact ht rfl
theorem own_own {w : World} {base base' : Nat} {e e' : TypeId} {size size' : Nat} {v v' : Value} {n n' : Nat} {xs xs' : List Value} (h : w.ownsRow base e size v n xs) (h' : w.ownsRow base' e' size' v' n' xs') (ht : e ≠ e') : v.ownBlock = none ∨ v.ownBlock ≠ v'.ownBlock := by
  obtain ⟨hl, ⟨rfl, _⟩ | ⟨g, cap, cur, rfl, hbg, hg, _⟩⟩ := h
  · exact .inl rfl
  · refine .inr (fun e1 => ?_)
    obtain ⟨hl', ⟨rfl, _⟩ | ⟨g', cap', cur', rfl, hbg', hg', _⟩⟩ := h'
    · cases e1
    · have : g = g' := by simpa [Value.ownBlock] using e1
      subst this
      rw [hg] at hg'; cases hg'; exact ht rfl
/-- 's[:0]' -/
theorem own_cut {w : World} {base : Nat} {e : TypeId} {size : Nat} {a : Option Addr} {n cap : Nat} {xs : List Value} (h : w.ownsRow base e size (.slice a n cap) n xs) : w.ownsRow base e size (.slice a 0 cap) 0 [] := by
  obtain ⟨hl, ⟨h1, h2⟩ | ⟨g, cap', cur, h1, hbg, hg, hnc, hcm, hcs, ht⟩⟩ := h
  · cases h1
    exact World.ownsRow_nil w base e size
  · cases h1
    exact ⟨by simp, .inr ⟨g, cap, cur, rfl, hbg, hg, Nat.zero_le _, hcm, hcs, by simp⟩⟩

/-! ### Maps keyed by strings -/
def StrMap (w : World) (b : Nat) (F : ByteArray → Option Value) (n : Nat) : Prop :=
  ∃ es clk, w.heap[b]? = some (.map es clk) ∧ es.size = n ∧ (∀ x ∈ es.toList, ∃ s, x.key = .string s) ∧ (es.toList.map (·.key)).Nodup ∧ (∀ s v, F s = some v ↔ ∃ x ∈ es.toList, x.key = .string s ∧ x.val = v)

open Classical in
noncomputable def putF (F : ByteArray → Option Value) (s : ByteArray) (v : Value) : ByteArray → Option Value := fun t => if t = s then some v else F t

theorem StrMap.made (w : World) : StrMap (w.alloc (.map #[] 0)) w.heap.size (fun _ => none) 0 :=
  ⟨#[], 0, (MapKept.heap_alloc w _).1, rfl, by simp, by simp, by simp⟩
theorem StrMap.kept {w w' : World} {b : Nat} {F : ByteArray → Option Value} {n : Nat} {row : Option Nat} (h : StrMap w b F n) (hg : w.grownBy w' row) (hne : some b ≠ row) : StrMap w' b F n := by
  obtain ⟨es, clk, hb, h1⟩ := h
  exact ⟨es, clk, blk_kept hb hg hne, h1⟩
theorem StrMap.blk {w : World} {b : Nat} {F : ByteArray → Option Value} {n : Nat} (h : StrMap w b F n) : ∃ o, w.heap[b]? = some o ∧ tagOf o = 0 := by
  obtain ⟨es, clk, hb, h1⟩ := h
  exact ⟨_, hb, rfl⟩

theorem nodup_key {l : List MapEntry} (h : (l.map (·.key)).Nodup) {x y : MapEntry} (hx : x ∈ l) (hy : y ∈ l) (e : x.key = y.key) : x = y := by
  induction l with
  | nil => cases hx
  | cons a r ih =>
    simp only [List.map_cons, List.nodup_cons, List.mem_map, not_exists, not_and] at h
    rcases List.mem_cons.1 hx with rfl | hx'
    · rcases List.mem_cons.1 hy with rfl | hy'
      · rfl
      · exact absurd e.symm (h.1 y hy')
    · rcases List.mem_cons.1 hy with rfl | hy'
      · exact absurd e (h.1 x hx')
      · exact ih h.2 hx' hy'

section
variable {P : Program}
theorem StrMap.find {w : World} {F : ByteArray → Option Value} {es : Array MapEntry} {kt : TypeId} (hk : P.underlying kt = some .string)
    (h2 : ∀ x ∈ es.toList, ∃ s, x.key = .string s) (h4 : ∀ s v, F s = some v ↔ ∃ x ∈ es.toList, x.key = .string s ∧ x.val = v) (s : ByteArray) :
    ((Instr.findKey kt (.string s) es.toList).run P w = .ok none w ∧ F s = none ∧ ∀ x ∈ es.toList, x.key ≠ .string s) ∨
    ∃ j e, (Instr.findKey kt (.string s) es.toList).run P w = .ok (some (j, e.val)) w ∧ es.toList[j]? = some e ∧ e.key = .string s ∧ F s = some e.val := by
  have hks : ∀ x ∈ es.toList, IsKey .string x.key := fun x hx => by obtain ⟨s, e⟩ := h2 x hx; rw [e]; trivial
  rcases findNow_spec (d := .string) (k := .string s) trivial es.toList 0 hks with ⟨h1, h3⟩ | ⟨j, e, h1, h3, h5⟩
  · refine .inl ⟨run_findKey hk h1, ?_, h3⟩
    cases hF : F s with
    | none => rfl
    | some v =>
      obtain ⟨x, hx, h6, _⟩ := (h4 s v).1 hF
      exact absurd h6 (h3 x hx)
  · refine .inr ⟨j, e, by simpa using run_findKey hk h1, h3, h5, (h4 s e.val).2 ⟨e, List.mem_of_getElem? h3, h5, rfl⟩⟩

theorem StrMap.look {w : World} {b : Nat} {F : ByteArray → Option Value} {n : Nat} (h : StrMap w b F n) {t kt e : TypeId} (ht : P.underlying t = some (.map kt e)) (hk : P.underlying kt = some .string)
    {z : Value} (hz : (zeroValue e).run P w = .ok z w) (s : ByteArray) (ok : Bool) :
    (Instr.lookup t (.map (some b)) (.string s) ok).run P w = .ok (if ok then .tuple #[(F s).getD z, .bool (F s).isSome] else (F s).getD z) w := by
  obtain ⟨es, clk, hb, h1, h2, h3, h4⟩ := h
  have hck : ∀ em, (Instr.checkKey em 10000 kt (.string s)).run P w = .ok () w := fun em => run_checkKey hk (show IsKey .string (.string s) from trivial) em 9999
  rcases StrMap.find (w := w) hk h2 h4 s with ⟨hf, hF, _⟩ | ⟨j, e0, hf, _, _, hF⟩
  · simp [Instr.lookup, run_underlying ht, MapKept.run_getObj_map hb, hck, hf, Result.andThen, hz, hF]
  · simp [Instr.lookup, run_underlying ht, MapKept.run_getObj_map hb, hck, hf, Result.andThen, hF]

theorem look_nilmap {w : World} {t kt e : TypeId} (ht : P.underlying t = some (.map kt e)) (hk : P.underlying kt = some .string)
    {z : Value} (hz : (zeroValue e).run P w = .ok z w) (s : ByteArray) (ok : Bool) :
    (Instr.lookup t (.map none) (.string s) ok).run P w = .ok (if ok then .tuple #[z, .bool false] else z) w := by
  have hck : ∀ em, (Instr.checkKey em 10000 kt (.string s)).run P w = .ok () w := fun em => run_checkKey hk (show IsKey .string (.string s) from trivial) em 9999
  have hf : (Instr.findKey kt (.string s) []).run P w = .ok none w := run_findKey hk rfl
  simp [Instr.lookup, run_underlying ht, hck, hf, Result.andThen, hz]

theorem StrMap.store {w : World} {b : Nat} {F : ByteArray → Option Value} {n : Nat} (h : StrMap w b F n) {t kt e : TypeId} (ht : P.underlying t = some (.map kt e)) (hk : P.underlying kt = some .string)
    (s : ByteArray) (v : Value) :
    ∃ w', (Instr.mapUpdate t (.map (some b)) (.string s) v).run P w = .ok () w' ∧ StrMap w' b (putF F s v) (if (F s).isSome then n else n + 1) ∧ w.grownBy w' (some b) ∧ w'.heap.size = w.heap.size := by
  obtain ⟨es, clk, hb, h1, h2, h3, h4⟩ := h
  have hlt := lt_of_blk hb
  have hck : ∀ em, (Instr.checkKey em 10000 kt (.string s)).run P w = .ok () w := fun em => run_checkKey hk (show IsKey .string (.string s) from trivial) em 9999
  have hg : ∀ o : Obj, w.grownBy { w with heap := w.heap.setIfInBounds b o } (some b) := fun o =>
    ⟨rfl, rfl, rfl, by simp, fun k _ hne => (MapKept.heap_set hb).2 k (fun e => hne (by rw [e]))⟩
  rcases StrMap.find (w := w) hk h2 h4 s with ⟨hf, hF, hno⟩ | ⟨j, e0, hf, hj, hjk, hF⟩
  · refine ⟨{ w with heap := w.heap.setIfInBounds b (.map (es.push { key := .string s, val := v, born := clk }) (clk + 1)) }, by simp [Instr.mapUpdate, run_underlying ht, MapKept.run_getObj_map hb, hck, hf, MapKept.run_setObj_map _ hb, Result.andThen], ⟨es.push { key := .string s, val := v, born := clk }, clk + 1, (MapKept.heap_set hb).1, by simp [h1, hF], ?_, ?_, ?_⟩, hg _, by simp⟩
    · intro x hx
      simp at hx
      rcases hx with hx | rfl
      · exact h2 x (by simpa using hx)
      · exact ⟨s, rfl⟩
    · simp only [Array.toList_push, List.map_append, List.map_cons, List.map_nil]
      refine List.nodup_append.2 ⟨h3, by simp, fun a ha b hb => ?_⟩
      obtain ⟨x, hx, rfl⟩ := List.mem_map.1 ha
      simp at hb
      subst hb
      exact hno x hx
    · intro t u
      unfold putF
      simp only [Array.toList_push, List.mem_append, List.mem_singleton]
      by_cases hts : t = s
      · subst hts
        simp only [if_true]
        constructor
        · intro e
          cases e
          exact ⟨_, .inr rfl, rfl, rfl⟩
        · rintro ⟨x, hx | rfl, hk', hv⟩
          · exact absurd hk' (hno x hx)
          · rw [← hv]
      · simp only [if_neg hts]
        rw [h4]
        constructor
        · rintro ⟨x, hx, h⟩
          exact ⟨x, .inl hx, h⟩
        · rintro ⟨x, hx | rfl, hk', hv⟩
          · exact ⟨x, hx, hk', hv⟩
          · simp at hk'
            exact absurd hk'.symm hts
  · have hjj : es[j]? = some e0 := by simpa using hj
    have hjl : j < es.size := (Array.getElem?_eq_some_iff.1 hjj).1
    refine ⟨{ w with heap := w.heap.setIfInBounds b (.map (es.modify j fun e => { e with key := .string s, val := v }) clk) }, ?_, ⟨es.modify j fun e => { e with key := .string s, val := v }, clk, (MapKept.heap_set hb).1, by simp [h1, hF], ?_, ?_, ?_⟩, hg _, by simp⟩
    · simp [Instr.mapUpdate, run_underlying ht, MapKept.run_getObj_map hb, hck, hf, hjj, hjk, run_keyThatStays (show IsKey .string (.string s) from trivial), MapKept.run_setObj_map _ hb, Result.andThen]
    · intro x hx
      have : x.key ∈ (es.modify j fun e => { e with key := .string s, val := v }).toList.map (·.key) := List.mem_map.2 ⟨x, hx, rfl⟩
      rw [modify_keys j _ (fun e he => by rw [hjj] at he; cases he; exact hjk.symm)] at this
      obtain ⟨y, hy, e⟩ := List.mem_map.1 this
      rw [← e]; exact h2 y hy
    · rw [modify_keys j _ (fun e he => by rw [hjj] at he; cases he; exact hjk.symm)]
      exact h3
    · intro t u
      have hmem : ∀ x, x ∈ (es.modify j fun e => { e with key := .string s, val := v }).toList ↔ x = { e0 with key := .string s, val := v } ∨ (x ∈ es.toList ∧ x.key ≠ .string s) := by
        intro x
        rw [Array.mem_toList_iff]
        constructor
        · intro hx
          obtain ⟨i, hi⟩ := Array.mem_iff_getElem?.1 hx
          rw [Array.getElem?_modify] at hi
          by_cases hij : j = i
          · subst hij
            simp [hjj] at hi
            exact .inl hi.symm
          · rw [if_neg hij] at hi
            refine .inr ⟨by simpa using Array.mem_of_getElem? hi, fun hxk => hij ?_⟩
            have hnd := h3
            have hi' : (es.toList.map (·.key))[i]? = some (.string s) := by simp [hi, hxk]
            have hj' : (es.toList.map (·.key))[j]? = some (.string s) := by simp [hjj, hjk]
            exact (List.getElem?_inj (by simpa using hjl) hnd).1 (hj'.trans hi'.symm)
        · rintro (rfl | ⟨hx, hxk⟩)
          · exact Array.mem_iff_getElem?.2 ⟨j, by simp [Array.getElem?_modify, hjj]⟩
          · obtain ⟨i, hi⟩ := Array.mem_iff_getElem?.1 (by simpa using hx)
            refine Array.mem_iff_getElem?.2 ⟨i, ?_⟩
            rw [Array.getElem?_modify]
            by_cases hij : j = i
            · subst hij
              rw [hjj] at hi; cases hi
              exact absurd hjk hxk
            · rw [if_neg hij]; exact hi
      unfold putF
      by_cases hts : t = s
      · subst hts
        simp only [if_true]
        constructor
        · intro e
          cases e
          exact ⟨_, (hmem _).2 (.inl rfl), rfl, rfl⟩
        · rintro ⟨x, hx, hk', hv⟩
          rcases (hmem x).1 hx with rfl | ⟨_, h⟩
          · rw [← hv]
          · exact absurd hk' h
      · simp only [if_neg hts]
        rw [h4]
        constructor
        · rintro ⟨x, hx, hk', hv⟩
          refine ⟨x, (hmem x).2 (.inr ⟨hx, fun h => hts ?_⟩), hk', hv⟩
          rw [hk'] at h; simpa using h
        · rintro ⟨x, hx, hk', hv⟩
          rcases (hmem x).1 hx with rfl | ⟨h, _⟩
          · simp at hk'
            exact absurd hk'.symm hts
          · exact ⟨x, h, hk', hv⟩

theorem StrMap.len {w : World} {b : Nat} {F : ByteArray → Option Value} {n : Nat} (h : StrMap w b F n) {t kt e : TypeId} (ht : P.underlying t = some (.map kt e)) (ty : TypeId) : (Builtin.len_ #[t] ty #[.map (some b)]).run P w = .ok (.int .i64 n) w := by
  obtain ⟨es, clk, hb, h1, _⟩ := h
  subst h1
  simp [Builtin.len_, run_underlying ht, MapKept.run_getObj_map hb, Result.andThen, goInt]

/-! ### A map keyed by pointers to whole blocks -/
def PMap (w : World) (b : Nat) (L : List Nat) : Prop :=
  ∃ es clk, w.heap[b]? = some (.map es clk) ∧ es.toList.map (·.key) = L.map (fun g => Value.pointer (some ⟨g, 0, none⟩))
theorem PMap.made (w : World) : PMap (w.alloc (.map #[] 0)) w.heap.size [] := ⟨#[], 0, (MapKept.heap_alloc w _).1, rfl⟩
theorem PMap.kept {w w' : World} {b : Nat} {L : List Nat} {row : Option Nat} (h : PMap w b L) (hg : w.grownBy w' row) (hne : some b ≠ row) : PMap w' b L := by
  obtain ⟨es, clk, hb, h1⟩ := h
  exact ⟨es, clk, blk_kept hb hg hne, h1⟩
theorem PMap.blk {w : World} {b : Nat} {L : List Nat} (h : PMap w b L) : ∃ o, w.heap[b]? = some o ∧ tagOf o = 0 := by
  obtain ⟨es, clk, hb, h1⟩ := h
  exact ⟨_, hb, rfl⟩
theorem PMap.len {w : World} {b : Nat} {L : List Nat} (h : PMap w b L) {t kt e : TypeId} (ht : P.underlying t = some (.map kt e)) (ty : TypeId) : (Builtin.len_ #[t] ty #[.map (some b)]).run P w = .ok (.int .i64 L.length) w := by
  obtain ⟨es, clk, hb, h1⟩ := h
  have : es.size = L.length := by have := congrArg List.length h1; simpa using this
  simp [Builtin.len_, run_underlying ht, MapKept.run_getObj_map hb, Result.andThen, goInt, this]

theorem asking_none {w : World} {kt te : TypeId} {j : TypeInfo} (hp : P.underlying kt = some (.pointer te)) (hte : P.info? te = some j) (hsz : j.size ≠ 0) {g : Nat} {cg : Array Value} {tg : TypeId} (hg : w.heap[g]? = some (.cells cg tg (0, 0))) :
    ∀ (es : List MapEntry) (L : List Nat) (i : Nat), es.map (·.key) = L.map (fun g => Value.pointer (some ⟨g, 0, none⟩)) → (∀ x ∈ L, x ≠ g ∧ ∃ c t, w.heap[x]? = some (.cells c t (0, 0))) →
      (Instr.findAsking kt (.pointer (some ⟨g, 0, none⟩)) es i).run P w = .ok none w
  | [], _, _, _, _ => rfl
  | e :: es, [], _, h, _ => by simp at h
  | e :: es, x :: L, i, h, hL => by
    simp at h
    obtain ⟨hne, c, t, hx⟩ := hL x (by simp)
    have hq : (Op.equal kt (.pointer (some ⟨g, 0, none⟩)) (.pointer (some ⟨x, 0, none⟩))).run P w = .ok false w := by
      have h0 : ∀ d : Nat, (Op.equalIn (d + 1) kt (.pointer (some ⟨g, 0, none⟩)) (.pointer (some ⟨x, 0, none⟩))).run P w = .ok false w := fun d => by
        simp [Op.equalIn, run_underlying hp, sizeOf, typeInfo, hte, hsz, run_sameAddr_other (a := ⟨g, 0, none⟩) (b := ⟨x, 0, none⟩) w (fun e => hne (by cases e; rfl)) hg hx]
      exact h0 9999
    simp [Instr.findAsking, h.1, hq, Result.andThen, asking_none hp hte hsz hg es L (i + 1) h.2 (fun y hy => hL y (by simp [hy]))]

theorem PMap.store {w : World} {b : Nat} {L : List Nat} (h : PMap w b L) {t kt te e : TypeId} {j : TypeInfo} (ht : P.underlying t = some (.map kt e)) (hp : P.underlying kt = some (.pointer te)) (hte : P.info? te = some j) (hsz : j.size ≠ 0)
    {g : Nat} {cg : Array Value} {tg : TypeId} (hg : w.heap[g]? = some (.cells cg tg (0, 0))) (hL : ∀ x ∈ L, x ≠ g ∧ ∃ c t, w.heap[x]? = some (.cells c t (0, 0))) (v : Value) :
    ∃ w', (Instr.mapUpdate t (.map (some b)) (.pointer (some ⟨g, 0, none⟩)) v).run P w = .ok () w' ∧ PMap w' b (L ++ [g]) ∧ w.grownBy w' (some b) ∧ w'.heap.size = w.heap.size := by
  obtain ⟨es, clk, hb, h1⟩ := h
  have hck : (Instr.checkKey false 10000 kt (.pointer (some ⟨g, 0, none⟩))).run P w = .ok () w := by
    unfold Instr.checkKey
    simp [run_underlying hp, Result.andThen]
  have hf : (Instr.findKey kt (.pointer (some ⟨g, 0, none⟩)) es.toList).run P w = .ok none w := by
    have ha := asking_none (P := P) hp hte hsz hg es.toList L 0 h1 hL
    cases hes : es.toList with
    | nil => simp [Instr.findKey, run_underlying hp, Instr.findNow]
    | cons y ys =>
      rw [hes] at ha
      have hn : Instr.findNow (.pointer te) (.pointer (some ⟨g, 0, none⟩)) (y :: ys) 0 = none := by
        cases hk : y.key <;> simp [Instr.findNow, Instr.sameNow]
      simp [Instr.findKey, run_underlying hp, hn, ha]
  refine ⟨{ w with heap := w.heap.setIfInBounds b (.map (es.push { key := .pointer (some ⟨g, 0, none⟩), val := v, born := clk }) (clk + 1)) }, by simp [Instr.mapUpdate, run_underlying ht, MapKept.run_getObj_map hb, hck, hf, MapKept.run_setObj_map _ hb, Result.andThen], ⟨es.push { key := .pointer (some ⟨g, 0, none⟩), val := v, born := clk }, clk + 1, (MapKept.heap_set hb).1, by simp [h1]⟩, ⟨rfl, rfl, rfl, by simp, fun k _ hne => (MapKept.heap_set hb).2 k (fun e => hne (by rw [e]))⟩, by simp⟩
end
end Go.Proofs.Qxb6613372a
