/-
  Seat b6613372a: the measures of the law's arguments.
-/
import Derived.Test.Qxb6613372aWB
namespace Go.Proofs.Qxb6613372a
open Go.ChangeShapes Go.WideShapes Go.ChangeAt Go.RowKit Go.MapKept
set_option linter.unusedSimpArgs false
set_option linter.unusedVariables false

def StrAt (w : World) (b o n : Nat) (S : Nat → ByteArray) : Prop := ∀ i, i < n → w.cell? ⟨b, o + i, none⟩ = some (.string (S i))
def StmAt (w : World) (b o n : Nat) (Rt : Nat → Bool) (Nm : Nat → ByteArray) : Prop := ∀ i, i < n → w.cell? ⟨b, o + i * 2, none⟩ = some (.bool (Rt i)) ∧ w.cell? ⟨b, o + i * 2 + 1, none⟩ = some (.string (Nm i))

set_option maxRecDepth 100000 in
set_option maxHeartbeats 1000000 in
theorem bytes_run {w : World} (a1 : Option Addr) (b1 o1 n1 c1 : Nat) (S1 : Nat → ByteArray) (ha1 : 0 < n1 → a1 = some ⟨b1, o1, none⟩) (h1 : StrAt w b1 o1 n1 S1) (sz1 : ∀ i, i < n1 → (S1 i).size ≤ maxLen) (hn1 : n1 ≤ maxLen)
    (a2 : Option Addr) (b2 o2 n2 c2 : Nat) (Rt : Nat → Bool) (Nm : Nat → ByteArray) (ha2 : 0 < n2 → a2 = some ⟨b2, o2, none⟩) (h2 : StmAt w b2 o2 n2 Rt Nm) (sz2 : ∀ i, i < n2 → (Nm i).size ≤ maxLen) (hn2 : n2 ≤ maxLen) (k : Int) :
    Calls Try.prog 8 #[.slice a1 n1 c1, .slice a2 n2 c2, .int .i64 k] w fun e w' => (e = .returned (.bool false) ∨ (e = .returned (.bool true) ∧ Hid ((∀ j, j < n1 → (S1 j).size ≤ 1048576) ∧ ∀ j, j < n2 → (Nm j).size ≤ 1048576))) ∧ w' = w := by
  have A1 := hd ha1
  have A2 := hd ha2
  have H1 := hd h1
  have H2 := hd h2
  have Z1 := hd sz1
  have Z2 := hd sz2
  unfold maxLen at hn1 hn2
  clear ha1 ha2 h1 h2 sz1 sz2
  by_cases q1 : n1 ≤ 1048576
  case neg =>
    have q1' : ¬ ((n1 : Int) ≤ 1048576) := by omega
    have q1'' : (1048576 : Int) < n1 := by omega
    go_enter Try.func8, Try.ntmps8
    go_wp2
    exact bodyPost_ret (v := .bool false) (by simp [results, Try.results8, go_sem]) rfl ⟨.inl rfl, rfl⟩
  have q1' : ((n1 : Int) ≤ 1048576) := by omega
  have q1'' : ¬ (1048576 : Int) < n1 := by omega
  go_enter Try.func8, Try.ntmps8
  go_wp2
  go_loopg [8, 7] n1 (fun g x y wr => ∃ (i t : Nat), g = n1 - i ∧ i ≤ n1 ∧ x = .int .i64 i ∧ y = .int .i64 t ∧ t ≤ 1048576 ∧ Hid (∀ j, j < i → (S1 j).size ≤ 1048576) ∧ wr = w)
  case atStart => exact ⟨0, n1, by omega, by omega, rfl, rfl, q1, fun j hj => absurd hj (Nat.not_lt_zero _), rfl⟩
  case round =>
    obtain ⟨i, t, rfl, hi, rfl, rfl, ht, G1, rfl⟩ := hrel
    by_cases hlt : i < n1
    · obtain rfl := A1.out (by omega)
      have c := H1.out i hlt
      have sz := Z1.out i hlt
      unfold maxLen at sz
      have ltI : (i : Int) < n1 := by omega
      obtain ⟨s, hs⟩ : ∃ s, S1 i = s := ⟨_, rfl⟩
      rw [hs] at c sz
      have HS := hd hs
      clear hs
      by_cases p1 : s.size ≤ 1048576
      · have p1' : ¬ (1048576 : Int) < s.size := by omega
        by_cases p2 : t + s.size ≤ 1048576
        · have p2' : ¬ (1048576 : Int) < (t : Int) + s.size := by omega
          go_wp2
          go_roundg (n1 - (i + 1))
          case measure => omega
          case rel => exact ⟨i + 1, t + s.size, rfl, hlt, rfl, by simp, p2, fun j hj => by
            by_cases e : j = i
            · rw [e, HS.out]; exact p1
            · exact G1.out j (by omega), rfl⟩
        · have p2' : (1048576 : Int) < (t : Int) + s.size := by omega
          go_wp2
          exact bodyPost_ret (v := .bool false) (by simp [results, Try.results8, go_sem]) rfl ⟨.inl rfl, rfl⟩
      · have p1' : (1048576 : Int) < s.size := by omega
        go_wp2
        exact bodyPost_ret (v := .bool false) (by simp [results, Try.results8, go_sem]) rfl ⟨.inl rfl, rfl⟩
    · have ltI : ¬ (i : Int) < n1 := by omega
      by_cases q2 : n2 ≤ 1048576
      case neg =>
        have q2'' : (1048576 : Int) < n2 := by omega
        go_wp2
        exact bodyPost_ret (v := .bool false) (by simp [results, Try.results8, go_sem]) rfl ⟨.inl rfl, rfl⟩
      have q2'' : ¬ (1048576 : Int) < n2 := by omega
      by_cases q3 : t + n2 ≤ 1048576
      case neg =>
        have q3' : (1048576 : Int) < (t : Int) + n2 := by omega
        go_wp2
        exact bodyPost_ret (v := .bool false) (by simp [results, Try.results8, go_sem]) rfl ⟨.inl rfl, rfl⟩
      have q3' : ¬ (1048576 : Int) < (t : Int) + n2 := by omega
      go_wp2
      go_loopg [9, 7] n2 (fun g x y wr' => ∃ (i t : Nat), g = n2 - i ∧ i ≤ n2 ∧ x = .int .i64 i ∧ y = .int .i64 t ∧ t ≤ 1048576 ∧ Hid (∀ j, j < i → (Nm j).size ≤ 1048576) ∧ wr' = wr)
      case atStart => exact ⟨0, t + n2, by omega, by omega, rfl, by simp, q3, fun j hj => absurd hj (Nat.not_lt_zero _), rfl⟩
      case round =>
        obtain ⟨i', t', rfl, hi', rfl, rfl, ht', G2, rfl⟩ := hrel
        by_cases hlt' : i' < n2
        · obtain rfl := A2.out (by omega)
          have c := (H2.out i' hlt').2
          have sz := Z2.out i' hlt'
          unfold maxLen at sz
          have ltI' : (i' : Int) < n2 := by omega
          obtain ⟨s, hs⟩ : ∃ s, Nm i' = s := ⟨_, rfl⟩
          rw [hs] at c sz
          have HS := hd hs
          clear hs
          by_cases p1 : s.size ≤ 1048576
          · have p1' : ¬ (1048576 : Int) < s.size := by omega
            by_cases p2 : t' + s.size ≤ 1048576
            · have p2' : ¬ (1048576 : Int) < (t' : Int) + s.size := by omega
              go_wp2
              go_roundg (n2 - (i' + 1))
              case measure => omega
              case rel => exact ⟨i' + 1, t' + s.size, rfl, hlt', rfl, by simp, p2, fun j hj => by
                by_cases e : j = i'
                · rw [e, HS.out]; exact p1
                · exact G2.out j (by omega), rfl⟩
            · have p2' : (1048576 : Int) < (t' : Int) + s.size := by omega
              go_wp2
              exact bodyPost_ret (v := .bool false) (by simp [results, Try.results8, go_sem]) rfl ⟨.inl rfl, rfl⟩
          · have p1' : (1048576 : Int) < s.size := by omega
            go_wp2
            exact bodyPost_ret (v := .bool false) (by simp [results, Try.results8, go_sem]) rfl ⟨.inl rfl, rfl⟩
        · have ltI' : ¬ (i' : Int) < n2 := by omega
          have e1 : i = n1 := by omega
          have e2 : i' = n2 := by omega
          have G : Hid ((∀ j, j < n1 → (S1 j).size ≤ 1048576) ∧ ∀ j, j < n2 → (Nm j).size ≤ 1048576) := ⟨e1 ▸ G1.out, e2 ▸ G2.out⟩
          clear e1 e2
          go_wp2
          first | exact bodyPost_ret (v := .bool true) (by simp [results, Try.results8, go_sem]) rfl ⟨.inr ⟨rfl, G⟩, rfl⟩ | exact bodyPost_ret (v := .bool true) (by simp [results, Try.results8, go_sem]) rfl ⟨.inr rfl, rfl⟩

set_option maxRecDepth 100000 in
set_option maxHeartbeats 1000000 in
theorem fits_run {w : World} (a1 : Option Addr) (b1 o1 n1 c1 : Nat) (S1 : Nat → ByteArray) (ha1 : 0 < n1 → a1 = some ⟨b1, o1, none⟩) (h1 : StrAt w b1 o1 n1 S1) (sz1 : ∀ i, i < n1 → (S1 i).size ≤ 1048576) (hn1 : n1 ≤ maxLen)
    (a2 : Option Addr) (b2 o2 n2 c2 : Nat) (Rt : Nat → Bool) (Nm : Nat → ByteArray) (ha2 : 0 < n2 → a2 = some ⟨b2, o2, none⟩) (h2 : StmAt w b2 o2 n2 Rt Nm) (sz2 : ∀ i, i < n2 → (Nm i).size ≤ 1048576) (hn2 : n2 ≤ maxLen) :
    Calls Try.prog 9 #[.slice a1 n1 c1, .slice a2 n2 c2, .slice none 0 0] w fun e w' => (e = .returned (.bool false) ∨ e = .returned (.bool true)) ∧ w' = w := by
  have A1 := hd ha1
  have A2 := hd ha2
  have H1 := hd h1
  have H2 := hd h2
  have Z1 := hd sz1
  have Z2 := hd sz2
  unfold maxLen at hn1 hn2
  clear ha1 ha2 h1 h2 sz1 sz2
  go_enter Try.func9, Try.ntmps9
  go_wp2
  go_loopg [8, 7] n1 (fun g x y wr => ∃ (i t : Nat), g = n1 - i ∧ i ≤ n1 ∧ x = .int .i64 i ∧ y = .int .i64 t ∧ t ≤ 1048576 ∧ wr = w)
  case atStart => exact ⟨0, 0, by omega, by omega, rfl, rfl, by omega, rfl⟩
  case round =>
    obtain ⟨i, t, rfl, hi, rfl, rfl, ht, rfl⟩ := hrel
    by_cases hlt : i < n1
    · obtain rfl := A1.out (by omega)
      have c := H1.out i hlt
      have sz := Z1.out i hlt
      have ltI : (i : Int) < n1 := by omega
      generalize S1 i = s at c sz
      by_cases p2 : t + (16 + s.size) ≤ 1048576
      · have p2' : ¬ (1048576 : Int) < (t : Int) + (16 + s.size) := by omega
        go_wp2
        go_roundg (n1 - (i + 1))
        case measure => omega
        case rel => exact ⟨i + 1, t + (16 + s.size), rfl, hlt, rfl, by simp, p2, rfl⟩
      · have p2' : (1048576 : Int) < (t : Int) + (16 + s.size) := by omega
        go_wp2
        exact bodyPost_ret (v := .bool false) (by simp [results, Try.results9, go_sem]) rfl ⟨.inl rfl, rfl⟩
    · have ltI : ¬ (i : Int) < n1 := by omega
      go_wp2
      go_loopg [9, 7] n2 (fun g x y wr' => ∃ (i t : Nat), g = n2 - i ∧ i ≤ n2 ∧ x = .int .i64 i ∧ y = .int .i64 t ∧ t ≤ 1048576 ∧ wr' = wr)
      case atStart => exact ⟨0, t, by omega, by omega, rfl, rfl, ht, rfl⟩
      case round =>
        obtain ⟨i', t', rfl, hi', rfl, rfl, ht', rfl⟩ := hrel
        by_cases hlt' : i' < n2
        · obtain rfl := A2.out (by omega)
          have c := (H2.out i' hlt').2
          have sz := Z2.out i' hlt'
          have ltI' : (i' : Int) < n2 := by omega
          generalize Nm i' = s at c sz
          by_cases p2 : t' + (24 + s.size) ≤ 1048576
          · have p2' : ¬ (1048576 : Int) < (t' : Int) + (24 + s.size) := by omega
            go_wp2
            go_roundg (n2 - (i' + 1))
            case measure => omega
            case rel => exact ⟨i' + 1, t' + (24 + s.size), rfl, hlt', rfl, by simp, p2, rfl⟩
          · have p2' : (1048576 : Int) < (t' : Int) + (24 + s.size) := by omega
            go_wp2
            exact bodyPost_ret (v := .bool false) (by simp [results, Try.results9, go_sem]) rfl ⟨.inl rfl, rfl⟩
        · have ltI' : ¬ (i' : Int) < n2 := by omega
          go_wp2
          go_loopg [10] 0 (fun g x wr' => x = .int .i64 0 ∧ wr' = wr)
          case atStart => exact ⟨rfl, rfl⟩
          case round =>
            obtain ⟨rfl, rfl⟩ := hrel
            go_wp2
            exact bodyPost_ret (v := .bool true) (by simp [results, Try.results9, go_sem]) rfl ⟨.inr rfl, rfl⟩
end Go.Proofs.Qxb6613372a
