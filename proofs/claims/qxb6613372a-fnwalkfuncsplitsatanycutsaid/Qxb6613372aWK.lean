/-
  Seat b6613372a: lastReads.
-/
import Derived.Test.Qxb6613372aWI
namespace Go.Proofs.Qxb6613372a
open Go.ChangeShapes Go.WideShapes Go.ChangeAt Go.RowKit Go.MapKept
set_option linter.unusedSimpArgs false
set_option linter.unusedVariables false

theorem look47' {w : World} {b : Nat} {F : ByteArray → Option Nat} {n : Nat} (h : StrMap w b (fU F) n) (nm : ByteArray) :
    (Instr.lookup 47 (.map (some b)) (.string nm) false).run Try.prog w = .ok (.int .u8 ((F nm).getD 0 : Nat)) w := by
  rw [h.look Try.underlying47 Try.underlying9 (zero82 w) nm false]
  cases hF : F nm <;> simp [fU, hF]

/-- A name that is returned has the bit of it. -/
theorem use23 (M : List Sm) (nm : ByteArray) (b : Nat) (h : (true, nm, b) ∈ M) : (useF M nm).getD 0 = 2 ∨ (useF M nm).getD 0 = 3 := by
  have keep : ∀ (F : ByteArray → Option Nat) (x : Sm), (F nm).getD 0 = 2 ∨ (F nm).getD 0 = 3 → (useStep F x nm).getD 0 = 2 ∨ (useStep F x nm).getD 0 = 3 := by
    intro F x hF
    unfold useStep putN
    split
    · rename_i e
      rw [← e]
      simp only [Option.getD_some]
      rcases hF with hF | hF <;> rw [hF] <;> cases x.1 <;> simp [bitOf]
    · exact hF
  have keepN : ∀ (M : List Sm) (F : ByteArray → Option Nat), (F nm).getD 0 = 2 ∨ (F nm).getD 0 = 3 → (M.foldl useStep F nm).getD 0 = 2 ∨ (M.foldl useStep F nm).getD 0 = 3 := by
    intro M
    induction M with
    | nil => intro F hF; exact hF
    | cons x M ih => intro F hF; exact ih _ (keep F x hF)
  obtain ⟨A, C, rfl⟩ := List.append_of_mem h
  unfold useF
  rw [List.foldl_append, List.foldl_cons]
  refine keepN C _ ?_
  have hlt := useF_lt A nm
  show (putN (useF A) nm ((useF A nm).getD 0 ||| bitOf true) nm).getD 0 = 2 ∨ (putN (useF A) nm ((useF A nm).getD 0 ||| bitOf true) nm).getD 0 = 3
  unfold putN
  rw [if_pos rfl, Option.getD_some]
  generalize (useF A nm).getD 0 = y at hlt ⊢
  have hc : y = 0 ∨ y = 1 ∨ y = 2 ∨ y = 3 := by omega
  rcases hc with rfl | rfl | rfl | rfl <;> simp [bitOf]

theorem retL_mem {FV : ByteArray → Option Nat} {M : List Sm} {q : Nat × Nat} (h : q ∈ retL FV M) : ∃ nm, (true, nm, q.1) ∈ M ∧ FV nm = some q.2 := by
  unfold retL at h
  rw [List.mem_filterMap] at h
  obtain ⟨⟨r, nm, b⟩, hx, hq⟩ := h
  cases r with
  | false => simp at hq
  | true =>
    simp only [if_true, Option.map_eq_some_iff] at hq
    obtain ⟨j, hj, rfl⟩ := hq
    exact ⟨nm, hx, hj⟩

theorem retL_sub (FV : ByteArray → Option Nat) : ∀ M : List Sm, ((retL FV M).map (·.1)).Sublist (M.map (·.2.2))
  | [] => by simp [retL]
  | (r, nm, b) :: M => by
    have ih := retL_sub FV M
    unfold retL at ih ⊢
    cases r with
    | false => simpa [List.filterMap_cons] using List.Sublist.cons b ih
    | true =>
      cases hj : FV nm with
      | none => simpa [List.filterMap_cons, hj] using List.Sublist.cons b ih
      | some j => simpa [List.filterMap_cons, hj] using ih

theorem flat6 (f : Nat × Nat × Nat → List Value) (hf : ∀ q, (f q).length = 6) : ∀ (qs : List (Nat × Nat × Nat)) (i c : Nat) (q : Nat × Nat × Nat), c < 6 → qs[i]? = some q → (qs.flatMap f)[i * 6 + c]? = (f q)[c]?
  | [], i, c, q, _, h => by simp at h
  | p :: qs, 0, c, q, hc, h => by
    simp at h
    subst h
    simp [List.flatMap_cons]
    rw [List.getElem?_append_left (by rw [hf]; exact hc)]
  | p :: qs, i + 1, c, q, hc, h => by
    simp at h
    rw [List.flatMap_cons, List.getElem?_append_right (by rw [hf]; omega), hf]
    have := flat6 f hf qs i c q hc h
    rw [show (i + 1) * 6 + c - 6 = i * 6 + c by omega]
    exact this

theorem grown_new {w a b : World} {k : Nat} (h : w.grownBy a none) (hb : a.grownBy b (some k)) (hk : w.heap.size ≤ k) : w.grownBy b none :=
  ⟨hb.os.trans h.os, hb.tape.trans h.tape, hb.output.trans h.output, Nat.le_trans h.size hb.size, fun i hi _ => (hb.block i (Nat.lt_of_lt_of_le hi h.size) (by simp; omega)).trans (h.block i hi (by simp))⟩

theorem bits_and82 (x : Nat) (h : x = 2 ∨ x = 3) : bits .and .u8 x 3 = (x : Int) := by
  rcases h with rfl | rfl <;> rfl

theorem info61 : ∃ j, Try.prog.info? 61 = some j ∧ j.size ≠ 0 := by
  have h : (Try.prog.info? 61).map (fun i => i.size) = some 3 := by kernel_rfl
  cases hj : Try.prog.info? 61 with
  | none => rw [hj] at h; cases h
  | some j => rw [hj] at h; simp at h; exact ⟨j, rfl, by rw [h]; decide⟩

set_option maxRecDepth 100000 in
set_option maxHeartbeats 1000000 in
theorem last_run {B R : Nat} {s0 : St} {pn : Nat → ByteArray} {w0 w : World} {L : List Sm} (hA : After B R s0 pn w0 L w) (hFV : ∀ nm j, s0.FV nm = some j → j < s0.n ∧ pn j = nm) (hL : L.length ≤ 60000) (hnd : (L.map (·.2.2)).Nodup)
    (hC : ∀ x ∈ L, ∃ c t, w.heap[x.2.2]? = some (.cells c t (0, 0))) :
    Calls Try.prog 25 #[.pointer (some ⟨s0.Wb, 0, none⟩), .map none] w fun e w' => ∃ b, e = .returned (.map (some b)) ∧ PMap w' b ((retL s0.FV L).map (·.1)) ∧ w.grownBy w' none ∧ w.heap.size ≤ b := by
  obtain ⟨nU, kv, tv, ov, xs, m, os, hI, hf, hv, qs, hqm, hos, hqs⟩ := hA
  obtain ⟨oa, oc, hov⟩ := slice_shape hI.ho
  have hov' : ov = .slice oa m oc := hov
  have hm : m ≤ 60000 := by
    have := retL_len s0.FV L
    rw [← hqs] at this
    simp at this
    omega
  have c7 : w.cell? ⟨s0.Wb, 7, none⟩ = some (.slice oa m oc) := (cell_blk hI.hW 7).trans (by rw [← hov']; rfl)
  have c7' : (w.alloc (.map #[] 0)).cell? ⟨s0.Wb, 7, none⟩ = some (.slice oa m oc) := (World.cell?_of_block (Below.heap_alloc w _ s0.Wb (lt_of_blk hI.hW))).trans c7
  have hPM : Hid (PMap (w.alloc (.map #[] 0)) w.heap.size (((retL s0.FV L).map (·.1)).take 0) ∧ w.grownBy (w.alloc (.map #[] 0)) none) := ⟨PMap.made w, galloc w _ none⟩
  have D : Hid (∀ i, i < m → ∃ og g j st vg vc nm x, oa = some ⟨og, 0, none⟩ ∧ j < s0.n ∧ s0.vv = .slice (some ⟨vg, 0, none⟩) s0.n vc ∧ ((retL s0.FV L).map (·.1))[i]? = some g ∧ (x = 2 ∨ x = 3) ∧ (∃ b, (true, nm, b) ∈ L ∧ b = g) ∧ ∀ wr : World, w.grownBy wr none →
      wr.cell? ⟨s0.Wb, 2, none⟩ = some (.slice (some ⟨vg, 0, none⟩) s0.n vc) ∧ wr.cell? ⟨s0.Wb, 0, none⟩ = some (.map (some s0.Ub)) ∧
      wr.cell? ⟨og, i * 6, none⟩ = some (.pointer (some ⟨g, 0, none⟩)) ∧ wr.cell? ⟨og, i * 6 + 1, none⟩ = some (.int .i64 (j : Nat)) ∧ wr.cell? ⟨og, i * 6 + 2, none⟩ = some (.int .i64 (st : Nat)) ∧ wr.cell? ⟨og, i * 6 + 3, none⟩ = some (.bool true) ∧ wr.cell? ⟨og, i * 6 + 4, none⟩ = some (.bool false) ∧ wr.cell? ⟨og, i * 6 + 5, none⟩ = some (.bool false) ∧
      wr.cell? ⟨vg, j * 10, none⟩ = some (.string nm) ∧ wr.cell? ⟨vg, j * 10 + 2, none⟩ = some (.bool false) ∧
      (Instr.lookup 47 (.map (some s0.Ub)) (.string nm) false).run Try.prog wr = .ok (.int .u8 (x : Nat)) wr) := by
    intro i hi
    obtain ⟨⟨g, j, st⟩, hq⟩ : ∃ q, qs[i]? = some q := ⟨_, List.getElem?_eq_getElem (by omega)⟩
    have hr : (retL s0.FV L)[i]? = some (g, j) := by rw [← hqs, List.getElem?_map, hq]; rfl
    obtain ⟨nm, hmem, hj⟩ := retL_mem (List.mem_of_getElem? hr)
    obtain ⟨hjn, hpn⟩ := hFV nm j hj
    obtain ⟨og, hoa⟩ : ∃ og, oa = some ⟨og, 0, none⟩ := by
      rcases hI.ho.2 with ⟨_, h2⟩ | ⟨g', cap, cur, h1, _⟩
      · exact absurd h2 (by show ¬ m = 0; omega)
      · rw [show St.ov _ = .slice oa m oc from hov] at h1; cases h1; exact ⟨g', rfl⟩
    obtain ⟨vg, vc, hvv⟩ : ∃ g cap, s0.vv = .slice (some ⟨g, 0, none⟩) s0.n cap := by
      rcases hI.hv.2 with ⟨_, h2⟩ | ⟨g', cap, cur, h1, _⟩
      · exact absurd h2 (by show ¬ s0.n = 0; omega)
      · exact ⟨g', cap, h1⟩
    refine ⟨og, g, j, st, vg, vc, nm, (useF L nm).getD 0, hoa, hjn, hvv, by rw [List.getElem?_map, hr]; rfl, use23 L nm g hmem, ⟨g, hmem, rfl⟩, fun wr hg => ?_⟩
    have hIr := hI.more hg
    have how : wr.ownsRow B 123 6 (.slice (some ⟨og, 0, none⟩) m oc) m os := by have := hIr.ho; rw [show St.ov _ = .slice oa m oc from hov, hoa] at this; exact this
    have hvw : wr.ownsRow B 95 10 (.slice (some ⟨vg, 0, none⟩) s0.n vc) s0.n xs := by rw [← hvv]; exact hIr.hv
    have O : ∀ c, c < 6 → os[i * 6 + c]? = (newOnly g j st false)[c]? := fun c hc => by rw [hos]; exact flat6 (fun q => newOnly q.1 q.2.1 q.2.2 false) (fun q => rfl) qs i c _ hc hq
    obtain ⟨x0, x1, x2, _⟩ := hv.2 j hjn
    refine ⟨(cell_blk hIr.hW 2).trans (by rw [← hvv]; rfl), cell_blk hIr.hW 0, own_cell how (O 0 (by omega)), own_cell how (O 1 (by omega)), own_cell how (O 2 (by omega)), own_cell how (O 3 (by omega)), own_cell how (O 4 (by omega)), own_cell how (O 5 (by omega)), ?_, own_cell hvw x2, look47' hIr.hU nm⟩
    have := own_cell hvw x0
    rwa [hpn] at this
  have PS : Hid (∀ (i g nm) (wr : World), i < m → ((retL s0.FV L).map (·.1))[i]? = some g → (true, nm, g) ∈ L → PMap wr w.heap.size (((retL s0.FV L).map (·.1)).take i) → w.grownBy wr none → ∃ w', (Instr.mapUpdate 49 (.map (some w.heap.size)) (.pointer (some ⟨g, 0, none⟩)) (.bool true)).run Try.prog wr = .ok () w' ∧ PMap w' w.heap.size (((retL s0.FV L).map (·.1)).take (i + 1)) ∧ w.grownBy w' none) := by
    intro i g nm wr hi hg hmem hP hgr
    obtain ⟨j, hj, hsz⟩ := info61
    have hcell : ∀ b, (∃ x ∈ L, x.2.2 = b) → ∃ c t, wr.heap[b]? = some (.cells c t (0, 0)) := fun b ⟨x, hx, e⟩ => by
      obtain ⟨c, t, h⟩ := hC x hx
      rw [e] at h
      exact ⟨c, t, blk_kept h hgr (by simp)⟩
    obtain ⟨cg, tg, hgc⟩ := hcell g ⟨_, hmem, rfl⟩
    have nd := (retL_sub s0.FV L).nodup hnd
    obtain ⟨w', h1, h2, h3, h4⟩ := hP.store Try.underlying49 Try.underlying57 hj hsz hgc (fun y hy => by
      obtain ⟨k, hk⟩ := List.mem_iff_getElem?.1 hy
      rw [List.getElem?_take] at hk
      split at hk
      · rename_i hki
        refine ⟨fun e => ?_, hcell y ?_⟩
        · subst e
          have hk' := (List.getElem?_eq_some_iff.1 hk)
          have hi' := (List.getElem?_eq_some_iff.1 hg)
          exact List.pairwise_iff_getElem.1 nd k i hk'.1 hi'.1 hki (hk'.2.trans hi'.2.symm)
        · have : y ∈ (retL s0.FV L).map (·.1) := List.mem_of_getElem? hk
          have := (retL_sub s0.FV L).subset this
          rw [List.mem_map] at this
          exact this
      · cases hk) (.bool true)
    refine ⟨w', h1, ?_, grown_new hgr h3 (Nat.le_refl _)⟩
    rw [List.take_add_one, hg]
    exact h2
  have hlen : ((retL s0.FV L).map (·.1)).length = m := by rw [← hqs]; simp [hqm]
  clear hI hf hv hov hov' hqm hos hqs hnd hC hFV
  have m0 := @run_makeMap Try.prog
  go_enter Try.func25, Try.ntmps25
  go_wp2
  go_loopg [16] m (fun g x wr => ∃ i : Nat, g = m - i ∧ i ≤ m ∧ x = .int .i64 i ∧ Hid (PMap wr w.heap.size (((retL s0.FV L).map (·.1)).take i) ∧ w.grownBy wr none))
  case atStart => exact ⟨0, by omega, by omega, rfl, hPM.out⟩
  case round =>
    clear hPM c7 c7' m0
    obtain ⟨i, rfl, hi, rfl, H⟩ := hrel
    by_cases hlt : i < m
    · obtain ⟨og, g, j, st, vg, vc, nm, x, rfl, hjn, hvv, hgi, hx, hmem, F⟩ := D.out i hlt
      obtain ⟨e2, e0, o0, o1, o2, o3, o4, o5, v0, v2, lk⟩ := F wr H.out.2
      have ltI : (i : Int) < m := by omega
      have ltJ : (j : Int) < s0.n := by omega
      obtain ⟨z, hz⟩ : ∃ z, z = wr.heap.size := ⟨_, rfl⟩
      obtain ⟨w4, hw4⟩ : ∃ w4, w4 = wr.alloc (Obj.cells #[.pointer (some ⟨g, 0, none⟩), .int .i64 (j : Nat), .int .i64 (st : Nat), .bool true, .bool false, .bool false] 123) := ⟨_, rfl⟩
      have hb4 : w4.heap[z]? = some (Obj.cells #[.pointer (some ⟨g, 0, none⟩), .int .i64 (j : Nat), .int .i64 (st : Nat), .bool true, .bool false, .bool false] 123) := by rw [hw4, hz]; exact (MapKept.heap_alloc wr (Obj.cells #[.pointer (some ⟨g, 0, none⟩), .int .i64 (j : Nat), .int .i64 (st : Nat), .bool true, .bool false, .bool false] 123)).1
      have m0 : w4.cell? ⟨z, 0, none⟩ = some (.pointer (some ⟨g, 0, none⟩)) := cell_blk hb4 0
      have m1 : w4.cell? ⟨z, 1, none⟩ = some (.int .i64 (j : Nat)) := cell_blk hb4 1
      have m3 : w4.cell? ⟨z, 3, none⟩ = some (.bool true) := cell_blk hb4 3
      have g4 : w.grownBy w4 none := by rw [hw4]; exact H.out.2.trans (galloc wr (Obj.cells #[.pointer (some ⟨g, 0, none⟩), .int .i64 (j : Nat), .int .i64 (st : Nat), .bool true, .bool false, .bool false] 123) none)
      have P4 : PMap w4 w.heap.size (((retL s0.FV L).map (·.1)).take i) := by rw [hw4]; exact H.out.1.kept (galloc wr (Obj.cells #[.pointer (some ⟨g, 0, none⟩), .int .i64 (j : Nat), .int .i64 (st : Nat), .bool true, .bool false, .bool false] 123) none) (by simp)
      have H4 : Hid (PMap w4 w.heap.size (((retL s0.FV L).map (·.1)).take i) ∧ w.grownBy w4 none) := ⟨P4, g4⟩
      obtain ⟨r2, r0, _, _, _, _, _, _, q0, q2, lk0⟩ := F w4 g4
      have lk1 : ∀ n, (Instr.lookup 47 (.map (some s0.Ub)) (.string nm) false).run Try.prog (w4.drewN n) = .ok (.int .u8 (x : Nat)) (w4.drewN n) := fun n => (F (w4.drewN n) (g4.trans (gdrewN w4 n none))).2.2.2.2.2.2.2.2.2.2
      have hbx : bits .and .u8 (x : Nat) 3 = ((x : Nat) : Int) := bits_and82 x hx
      have hx0 : ¬ ((x : Nat) : Int) = 0 := by omega
      have PX : ∀ n, ∃ w', (Instr.mapUpdate 49 (.map (some w.heap.size)) (.pointer (some ⟨g, 0, none⟩)) (.bool true)).run Try.prog (w4.drewN n) = .ok () w' ∧ PMap w' w.heap.size (((retL s0.FV L).map (·.1)).take (i + 1)) ∧ w.grownBy w' none := fun n => by
        obtain ⟨b, hb, rfl⟩ := hmem
        exact PS.out i b nm (w4.drewN n) hlt hgi hb (P4.kept (gdrewN w4 n none) (by simp)) (g4.trans (gdrewN w4 n none))
      obtain ⟨f, hf⟩ : ∃ f : Nat → World, ∀ n, (Instr.mapUpdate 49 (.map (some w.heap.size)) (.pointer (some ⟨g, 0, none⟩)) (.bool true)).run Try.prog (w4.drewN n) = .ok () (f n) ∧ PMap (f n) w.heap.size (((retL s0.FV L).map (·.1)).take (i + 1)) ∧ w.grownBy (f n) none := ⟨fun n => Classical.choose (PX n), fun n => Classical.choose_spec (PX n)⟩
      have hup := fun n => (hf n).1
      have HX := hd (fun n => (hf n).2)
      clear F hb4 g4 P4 H hmem hgi hx PX hf
      go_wp2
      rw [← hw4, ← hz]
      clear hw4 hz e2 e0 o0 o1 o2 o3 o4 o5 v0 v2 lk
      go_quiet (fail)
      go_wp2
      go_quiet (fail)
      go_wp2
      go_quiet (fail)
      go_wp2
      go_roundg (m - (i + 1))
      case measure => omega
      case rel => exact ⟨i + 1, rfl, hlt, rfl, HX.out _⟩
    · have e : i = m := by omega
      subst e
      have H5 : Hid (∃ b, Ending.returned (.map (some w.heap.size)) = .returned (.map (some b)) ∧ PMap wr b ((retL s0.FV L).map (·.1)) ∧ w.grownBy wr none ∧ w.heap.size ≤ b) := by
        have := H.out
        rw [← hlen, List.take_length] at this
        exact ⟨_, rfl, this.1, this.2, Nat.le_refl _⟩
      clear H
      go_wp2
      go_ret
      exact H5.out
end Go.Proofs.Qxb6613372a
