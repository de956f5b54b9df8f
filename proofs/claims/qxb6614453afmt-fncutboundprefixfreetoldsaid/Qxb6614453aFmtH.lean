/-
  The leaves of FnCutBoundPrefixFree: the bound on the lengths (9), the joined comparison (11); plain laws on fields put ahead.
-/
import Derived.Test.Qxb6614453aFmtE
import Derived.Laws.CopyOwn
namespace Go.Proofs.Qxb6614453aFmt
open Go.RowKit Go.Extern.Stop Go.Stop Go.Extern

/-- The call returned a bool; if it is true, the lengths are small. -/
def IsBool2 (n m : Nat) (S T : Nat → ByteArray) (e : Ending) : Prop :=
  ∃ r, e = .returned (.bool r) ∧ (r = true → n ≤ 1048576 ∧ m ≤ 1048576 ∧ (∀ j, j < n → (S j).size ≤ 1048576) ∧ ∀ j, j < m → (T j).size ≤ 1048576)
theorem isBool2_no (n m : Nat) (S T : Nat → ByteArray) : IsBool2 n m S T (.returned (.bool false)) := ⟨false, rfl, fun h => by cases h⟩
theorem isBool2_yes {n m : Nat} {S T : Nat → ByteArray} (hn : n ≤ 1048576) (hm : m ≤ 1048576) (h : ∀ j, j < n → (S j).size ≤ 1048576) (h' : ∀ j, j < m → (T j).size ≤ 1048576) : IsBool2 n m S T (.returned (.bool true)) := ⟨true, rfl, fun _ => ⟨hn, hm, h, h'⟩⟩

set_option maxHeartbeats 400000 in
theorem bytes9 (v u : Value) (n m : Nat) (S T : Nat → ByteArray) (w : World) (hv : IsStrs w v n S) (hu : IsStrs w u m T) :
    Calls Tryf.prog 9 #[v, u] w fun e w' => IsBool2 n m S T e ∧ w' = w := by
  obtain ⟨a, c, rfl, hc, hm, hsz, hx⟩ := hv
  obtain ⟨a2, c2, rfl, hc2, hm2, hsz2, hx2⟩ := hu
  unfold maxLen at hm hsz hm2 hsz2
  have HS : Hid (∀ j, j < n → (S j).size ≤ 2 ^ 63 - 1) := hsz; clear hsz
  have HX : Hid (∀ j, j < n → ∃ b o, a = some ⟨b, o, none⟩ ∧ ∀ i, i < n → w.cell? ⟨b, o + i, none⟩ = some (.string (S i))) := hx; clear hx
  have HS2 : Hid (∀ j, j < m → (T j).size ≤ 2 ^ 63 - 1) := hsz2; clear hsz2
  have HX2 : Hid (∀ j, j < m → ∃ b o, a2 = some ⟨b, o, none⟩ ∧ ∀ i, i < m → w.cell? ⟨b, o + i, none⟩ = some (.string (T i))) := hx2; clear hx2
  go_enter Tryf.func9, Tryf.ntmps9
  go_wp2
  · go_ret
    exact ⟨isBool2_no _ _ _ _, rfl⟩
  go_loop [5, 6] (fun z i => ∃ (y : Int) (k : Nat), k ≤ n ∧ z = .int .i64 y ∧ i = .int .i64 k ∧ Hid (∀ j, j < k → (S j).size ≤ 1048576)) (fun _ i => n - (intOf i).toNat)
  case atStart => exact ⟨_, 0, Nat.zero_le _, rfl, rfl, fun j h => absurd h (Nat.not_lt_zero _)⟩
  case round =>
    obtain ⟨y, k, hk, rfl, rfl, HJ⟩ := hrel
    by_cases hlt : k < n
    · obtain ⟨b, o, ha, hcell⟩ := HX.out k hlt
      subst ha
      have hck := hcell k hlt
      have hsk := HS.out k hlt
      clear hcell
      go_wp2
      · go_ret
        exact ⟨isBool2_no _ _ _ _, rfl⟩
      · go_ret
        exact ⟨isBool2_no _ _ _ _, rfl⟩
      · refine ⟨⟨_, k + 1, by omega, rfl, by go_num, fun j hj => ?_⟩, by simp [intOf]; omega⟩
        rcases Nat.lt_succ_iff_lt_or_eq.1 hj with h | rfl
        · exact HJ.out j h
        · omega
    · go_wp2
      · go_ret
        exact ⟨isBool2_no _ _ _ _, rfl⟩
      · go_ret
        exact ⟨isBool2_no _ _ _ _, rfl⟩
      go_loop [5, 7] (fun z i => ∃ (y : Int) (k : Nat), k ≤ m ∧ z = .int .i64 y ∧ i = .int .i64 k ∧ Hid (∀ j, j < k → (T j).size ≤ 1048576)) (fun _ i => m - (intOf i).toNat)
      case atStart => exact ⟨_, 0, Nat.zero_le _, rfl, rfl, fun j h => absurd h (Nat.not_lt_zero _)⟩
      case round =>
        obtain ⟨y2, k2, hk2, rfl, rfl, HJ2⟩ := hrel
        by_cases hlt2 : k2 < m
        · obtain ⟨b, o, ha, hcell⟩ := HX2.out k2 hlt2
          subst ha
          have hck := hcell k2 hlt2
          have hsk := HS2.out k2 hlt2
          clear hcell
          go_wp2
          · go_ret
            exact ⟨isBool2_no _ _ _ _, rfl⟩
          · go_ret
            exact ⟨isBool2_no _ _ _ _, rfl⟩
          · refine ⟨⟨_, k2 + 1, by omega, rfl, by go_num, fun j hj => ?_⟩, by simp [intOf]; omega⟩
            rcases Nat.lt_succ_iff_lt_or_eq.1 hj with h | rfl
            · exact HJ2.out j h
            · omega
        · go_wp2
          go_ret
          exact ⟨isBool2_yes (by omega) (by omega) (fun j hj => HJ.out j (by omega)) fun j hj => HJ2.out j (by omega), rfl⟩

/-- The fields put ahead, then the rest. -/
def joinP (n : Nat) (S T : Nat → ByteArray) : Nat → ByteArray := fun j => if j < n then S j else T (j - n)
theorem joinP_lo {n : Nat} {S T : Nat → ByteArray} {j : Nat} (h : j < n) : joinP n S T j = S j := by simp [joinP, h]
theorem joinP_hi (n : Nat) (S T : Nat → ByteArray) (j : Nat) : joinP n S T (n + j) = T j := by
  have h : ¬ (n + j < n) := by omega
  simp [joinP, h]
theorem joinP_end {n m : Nat} (S T : Nat → ByteArray) {k : Nat} (h : k ≤ m) : joinP n S T (n + m - k) = T (m - k) := by
  rw [show n + m - k = n + (m - k) by omega, joinP_hi]
theorem joinP_keep {n m : Nat} (S T : Nat → ByteArray) (h : 2 ≤ m) : keepB (n + m) (joinP n S T) = keepB m T := by
  have e : (n + m < 2) ↔ (m < 2) := by omega
  unfold keepB
  rw [joinP_end S T (k := 2) h, joinP_end S T (k := 1) (by omega)]
  simp only [e]
theorem joinP_v (n m : Nat) (S T : Nat → ByteArray) : ∀ k, k ≤ m → strsV (joinP n S T) (n + k) = strsV S n ++ strsV T k := by
  intro k
  induction k with
  | zero => intro _; rw [Nat.add_zero, strsV_congr (T := S) (fun j hj => joinP_lo hj)]; simp [strsV]
  | succ k ih =>
    intro hk
    rw [show n + (k + 1) = n + k + 1 by omega, strsV_succ, ih (by omega), strsV_succ, joinP_hi, List.append_assoc]

theorem tail_not_ms {s : ByteArray} (h : s.data.toList.drop (s.size - 2) ≠ [109, 115]) : msB s = false := by
  simp only [msB, decide_eq_false_iff_not]
  exact fun e => h e.2.1
theorem msB_of_list {s : ByteArray} {l : List UInt8} (h : s.toList = l) (hl : l.drop (l.length - 2) ≠ [109, 115]) : msB s = false := by
  rw [ByteArray.toList_eq] at h
  refine tail_not_ms ?_
  have hz : s.size = s.data.toList.length := by simp
  rw [hz, h]
  exact hl
theorem lock_not_ms {s : ByteArray} (h : lockB s = true) : msB s = false := by
  simp only [lockB, posF] at h
  by_cases h0 : s.toList = [73, 88]
  · exact msB_of_list h0 (by decide)
  by_cases h1 : s.toList = [83]
  · exact msB_of_list h1 (by decide)
  by_cases h2 : s.toList = [83, 72]
  · exact msB_of_list h2 (by decide)
  by_cases h3 : s.toList = [83, 82]
  · exact msB_of_list h3 (by decide)
  by_cases h4 : s.toList = [83, 87]
  · exact msB_of_list h4 (by decide)
  by_cases h5 : s.toList = [83, 87, 76, 80]
  · exact msB_of_list h5 (by decide)
  by_cases h6 : s.toList = [83, 85]
  · exact msB_of_list h6 (by decide)
  by_cases h7 : s.toList = [83, 82, 79]
  · exact msB_of_list h7 (by decide)
  by_cases h8 : s.toList = [83, 78, 87]
  · exact msB_of_list h8 (by decide)
  by_cases h9 : s.toList = [83, 78, 82, 87]
  · exact msB_of_list h9 (by decide)
  by_cases h10 : s.toList = [88]
  · exact msB_of_list h10 (by decide)
  simp [h0, h1, h2, h3, h4, h5, h6, h7, h8, h9, h10] at h
theorem dur_not_ms {s : ByteArray} (h : durB s = true) : msB s = false := by
  simp only [durB, rankF] at h
  by_cases h0 : s.toList = [115, 116, 97, 116, 101, 109, 101, 110, 116]
  · exact msB_of_list h0 (by decide)
  by_cases h1 : s.toList = [116, 114, 97, 110, 115, 97, 99, 116, 105, 111, 110]
  · exact msB_of_list h1 (by decide)
  by_cases h2 : s.toList = [101, 120, 112, 108, 105, 99, 105, 116]
  · exact msB_of_list h2 (by decide)
  simp [h0, h1, h2] at h
/-- Where all is kept behind timeout, the last field is no bound. -/
theorem keep_not_ms {m : Nat} {T : Nat → ByteArray} (h2 : 2 ≤ m) (hk : keepB m T = true) (ht : (T (m - 2)).toList = [116, 105, 109, 101, 111, 117, 116]) : msB (T (m - 1)) = false := by
  simp only [keepB, decide_eq_true_eq] at hk
  rcases hk with h | h | h | h
  · omega
  · exact absurd ht h
  · exact lock_not_ms h
  · exact dur_not_ms h
theorem nokeep_timeout {m : Nat} {T : Nat → ByteArray} (hk : keepB m T = false) : (T (m - 2)).toList = [116, 105, 109, 101, 111, 117, 116] := by
  simp only [keepB, decide_eq_false_iff_not] at hk
  exact Classical.byContradiction fun h => hk (Or.inr (Or.inl h))

set_option maxHeartbeats 600000 in
theorem zzEqJoined_yes (v u x : Value) (n m : Nat) (S T : Nat → ByteArray) (w : World) (hv : IsStrs w v (n + m) (joinP n S T)) (hu : IsStrs w u n S) (hx : IsStrs w x m T) (hnm : n + m ≤ 4194304) :
    Calls Tryf.prog 11 #[v, u, x] w fun e w' => e = .returned (.bool true) ∧ ∃ q, w' = w.drewN q := by
  obtain ⟨a, c, rfl, hc, hm, -, hx0⟩ := hv
  obtain ⟨a1, c1, rfl, hc1, hm1, -, hx1⟩ := hu
  obtain ⟨a2, c2, rfl, hc2, hm2, -, hx2⟩ := hx
  unfold maxLen at hm hm1 hm2
  have HX : Hid (∀ j, j < n + m → ∃ b o, a = some ⟨b, o, none⟩ ∧ ∀ i, i < n + m → w.cell? ⟨b, o + i, none⟩ = some (.string (joinP n S T i))) := hx0; clear hx0
  have HX1 : Hid (∀ j, j < n → ∃ b o, a1 = some ⟨b, o, none⟩ ∧ ∀ i, i < n → w.cell? ⟨b, o + i, none⟩ = some (.string (S i))) := hx1; clear hx1
  have HX2 : Hid (∀ j, j < m → ∃ b o, a2 = some ⟨b, o, none⟩ ∧ ∀ i, i < m → w.cell? ⟨b, o + i, none⟩ = some (.string (T i))) := hx2; clear hx2
  go_enter Tryf.func11, Tryf.ntmps11
  go_wp2
  go_loopw [7] (fun i W => ∃ (k q : Nat), k ≤ n ∧ i = .int .i64 k ∧ W = w.drewN q) (fun i _ => n - (intOf i).toNat)
  case atStart => exact ⟨0, 0, Nat.zero_le _, rfl, rfl⟩
  case round =>
    obtain ⟨k, q, hk, rfl, rfl⟩ := hrel
    by_cases hlt : k < n
    · obtain ⟨b, o, ha, hcell⟩ := HX.out k (by omega)
      obtain ⟨b1, o1, ha1, hcell1⟩ := HX1.out k hlt
      subst ha
      subst ha1
      have hck := hcell k (by omega)
      rw [joinP_lo hlt] at hck
      have hck1 := hcell1 k hlt
      clear hcell hcell1
      go_wp2
      go_quiet (fail)
      go_wp2
      exact ⟨⟨k + 1, _, by omega, by go_num, rfl⟩, by simp [intOf]; omega⟩
    · go_wp2
      go_loopw [8] (fun i W => ∃ (k q : Nat), k ≤ m ∧ i = .int .i64 k ∧ W = w.drewN q) (fun i _ => m - (intOf i).toNat)
      case atStart => exact ⟨0, q, Nat.zero_le _, rfl, rfl⟩
      case round =>
        obtain ⟨k2, q2, hk2, rfl, rfl⟩ := hrel
        by_cases hlt2 : k2 < m
        · obtain ⟨b, o, ha, hcell⟩ := HX.out (n + k2) (by omega)
          obtain ⟨b1, o1, ha1, hcell1⟩ := HX2.out k2 hlt2
          subst ha
          subst ha1
          have hck := hcell (n + k2) (by omega)
          rw [joinP_hi] at hck
          have hck1 := hcell1 k2 hlt2
          clear hcell hcell1
          go_wp2
          go_quiet (fail)
          go_wp2
          exact ⟨⟨k2 + 1, _, by omega, by go_num, rfl⟩, by simp [intOf]; omega⟩
        · go_wp2
          go_ret
          exact ⟨rfl, _, rfl⟩

end Go.Proofs.Qxb6614453aFmt
