/-
  The bound on the lengths (5); two slices of strings compared (12).
-/
import Derived.Test.Qxb6615015aDoorA
namespace Go.Proofs.Qxb6615015aDoor
open Go.RowKit

/-- The call returned a bool. -/
def IsBool (e : Ending) : Prop := ∃ r, e = .returned (.bool r)
theorem isBool (r : Bool) : IsBool (.returned (.bool r)) := ⟨r, rfl⟩

set_option maxHeartbeats 1000000 in
set_option maxRecDepth 100000 in
theorem bytes5 (v : Value) (n : Nat) (D : Cons) (b : Int) (w : World) (hv : IsCons w v n D) :
    Calls Tryd.prog 5 #[v, .int .i64 b] w fun e w' => IsBool e ∧ w' = w := by
  obtain ⟨a, c, rfl, hc, hm, hx⟩ := hv
  unfold maxLen at hm
  have HX : Hid (∀ j, j < n → ∃ b o, a = some ⟨b, o, none⟩ ∧ ∀ i, i < n → (D.X i).size ≤ maxLen ∧ w.cell? ⟨b, o + i * 2, none⟩ = some (.string (D.X i)) ∧ ∃ u, w.cell? ⟨b, o + i * 2 + 1, none⟩ = some u ∧ IsStrs w u (D.N i) (D.V i)) := hx; clear hx
  go_enter Tryd.func5, Tryd.ntmps5
  go_wp2
  · go_ret
    exact ⟨isBool _, rfl⟩
  go_loop [5, 6] (fun z i => ∃ (y : Int) (k : Nat), k ≤ n ∧ z = .int .i64 y ∧ i = .int .i64 k) (fun _ i => n - (intOf i).toNat)
  case atStart => exact ⟨_, 0, Nat.zero_le _, rfl, rfl⟩
  case round =>
    obtain ⟨y, k, hk, rfl, rfl⟩ := hrel
    by_cases hlt : k < n
    · obtain ⟨b', o, ha, hcell⟩ := HX.out k hlt
      subst ha
      obtain ⟨hsk, hc0, u, hc1, hu⟩ := hcell k hlt
      obtain ⟨a2, c2, e2, h2, h3, -, h4, hx2⟩ := hu
      subst e2
      clear hcell
      unfold maxLen at hsk h3 h4
      have HS2 : Hid (∀ j, j < D.N k → (D.V k j).size ≤ 2 ^ 63 - 1) := h4; clear h4
      have HX2 : Hid (∀ j, j < D.N k → ∃ b o, a2 = some ⟨b, o, none⟩ ∧ ∀ i, i < D.N k → w.cell? ⟨b, o + i, none⟩ = some (.string (D.V k i))) := hx2; clear hx2
      go_wp2
      · go_ret
        exact ⟨isBool _, rfl⟩
      · go_ret
        exact ⟨isBool _, rfl⟩
      · go_ret
        exact ⟨isBool _, rfl⟩
      · go_ret
        exact ⟨isBool _, rfl⟩
      go_loop [5, 7] (fun z i => ∃ (y : Int) (k2 : Nat), k2 ≤ D.N k ∧ z = .int .i64 y ∧ i = .int .i64 k2) (fun _ i => D.N k - (intOf i).toNat)
      case atStart => exact ⟨_, 0, Nat.zero_le _, rfl, rfl⟩
      case round =>
        obtain ⟨y2, k2, hk2, rfl, rfl⟩ := hrel
        by_cases hlt2 : k2 < D.N k
        · obtain ⟨b2, o2, ha2, hcell2⟩ := HX2.out k2 hlt2
          subst ha2
          have hck2 := hcell2 k2 hlt2
          have hsk2 := HS2.out k2 hlt2
          clear hcell2
          go_wp2
          · go_ret
            exact ⟨isBool _, rfl⟩
          · go_ret
            exact ⟨isBool _, rfl⟩
          · exact ⟨⟨_, k2 + 1, by omega, rfl, by go_num⟩, by simp [intOf]; omega⟩
        · go_wp2
          exact ⟨⟨_, k + 1, by omega, rfl, by go_num⟩, by simp [intOf]; omega⟩
    · go_wp2
      go_ret
      exact ⟨isBool _, rfl⟩

/-- ARE THE TWO THE SAME? -/
def sameB (n m : Nat) (S T : Nat → ByteArray) : Bool := decide (n = m ∧ ∀ j, j < n → S j = T j)
theorem sameB_yes {n : Nat} {S T : Nat → ByteArray} (h : ∀ j, j < n → S j = T j) : sameB n n S T = true := by
  simp only [sameB, decide_eq_true_eq]
  exact ⟨trivial, h⟩
theorem sameB_no {n : Nat} {S T : Nat → ByteArray} (k : Nat) (hk : k < n) (h : S k ≠ T k) : sameB n n S T = false := by
  simp only [sameB, decide_eq_false_iff_not]
  exact fun e => h (e.2 k hk)

set_option maxHeartbeats 400000 in
theorem same_any (v u : Value) (n m : Nat) (S T : Nat → ByteArray) (w : World) (hv : IsStrs w v n S) (hu : IsStrs w u m T) :
    Calls Tryd.prog 12 #[v, u] w fun e w' => e = .returned (.bool (sameB n m S T)) ∧ ∃ q, w' = w.drewN q := by
  obtain ⟨a, c, rfl, hc, hm, -, -, hx⟩ := hv
  obtain ⟨a2, c2, rfl, hc2, hm2, -, -, hx2⟩ := hu
  unfold maxLen at hm hm2
  have HX : Hid (∀ j, j < n → ∃ b o, a = some ⟨b, o, none⟩ ∧ ∀ i, i < n → w.cell? ⟨b, o + i, none⟩ = some (.string (S i))) := hx; clear hx
  have HX2 : Hid (∀ j, j < m → ∃ b o, a2 = some ⟨b, o, none⟩ ∧ ∀ i, i < m → w.cell? ⟨b, o + i, none⟩ = some (.string (T i))) := hx2; clear hx2
  by_cases hnm : n = m
  · subst hnm
    go_enter Tryd.func12, Tryd.ntmps12
    go_wp2
    go_loopw [5] (fun i W => ∃ (k q : Nat), k ≤ n ∧ i = .int .i64 k ∧ W = w.drewN q ∧ ∀ j, j < k → S j = T j) (fun i _ => n - (intOf i).toNat)
    case atStart => exact ⟨0, 0, Nat.zero_le _, rfl, rfl, fun j h => absurd h (Nat.not_lt_zero _)⟩
    case round =>
      obtain ⟨k, q, hk, rfl, rfl, hsame⟩ := hrel
      have HE : Hid (∀ j, j < k → S j = T j) := hsame; clear hsame
      by_cases hlt : k < n
      · obtain ⟨b, o, ha, hcell⟩ := HX.out k hlt
        obtain ⟨b2, o2, ha2, hcell2⟩ := HX2.out k hlt
        subst ha
        subst ha2
        have hck := hcell k hlt
        have hck2 := hcell2 k hlt
        clear hcell hcell2
        go_wp2
        go_quiet (fail)
        go_wp2
        · rename_i hne
          go_ret
          exact ⟨ret_bool (sameB_no k hlt (fun e => by simp [e] at hne)).symm, _, World.drewN_drewN _ _ _⟩
        · rename_i heq
          refine ⟨⟨k + 1, _, by omega, by go_num, rfl, fun j hj => ?_⟩, by simp [intOf]; omega⟩
          rcases Nat.lt_succ_iff_lt_or_eq.1 hj with h | rfl
          · exact HE.out j h
          · exact bytes_eq (by simpa using heq)
      · go_wp2
        go_ret
        exact ⟨ret_bool (sameB_yes fun j hj => HE.out j (by omega)).symm, _, rfl⟩
  · have hne : ((n : Int) != (m : Int)) = true := by rw [bne_iff_ne]; omega
    go_enter Tryd.func12, Tryd.ntmps12
    go_wp2
    go_ret
    exact ⟨by simp [sameB, hnm], 0, rfl⟩
end Go.Proofs.Qxb6615015aDoor
