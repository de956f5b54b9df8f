/-
  parseExponent (21).
-/
import Derived.Test.Qxb6003914aDoorA
import Derived.Lib.IndexBytes
namespace Go.Proofs.Qxb6003914aDoor
open Go.RowKit

/-- The text without its leading sign. -/
def unsign : List UInt8 → List UInt8
  | [] => []
  | c :: r => if c.toNat = 43 ∨ c.toNat = 45 then r else c :: r

theorem list_cons (s : ByteArray) (h : 0 < s.size) : s.data.toList = s[0] :: s.data.toList.drop 1 := by
  have := drop_cons s 0 h
  simpa using this
theorem list_nil (s : ByteArray) (h : ¬ 0 < s.size) : s.data.toList = [] := by
  have := drop_all s 0 (by omega)
  simpa using this
theorem unsign_yes (s : ByteArray) (h : 0 < s.size) (hc : s[0].toNat = 43 ∨ s[0].toNat = 45) : (s.extract 1 s.size).data.toList = unsign s.data.toList := by
  rw [Lib.extract_to_end, list_cons s h]
  simp [unsign, hc]
theorem unsign_no (s : ByteArray) (h : 0 < s.size) (hc : ¬ (s[0].toNat = 43 ∨ s[0].toNat = 45)) : s.data.toList = unsign s.data.toList := by
  rw [list_cons s h]
  simp only [unsign, if_neg hc]
theorem unsign_nil (s : ByteArray) (h : ¬ 0 < s.size) : s.data.toList = unsign s.data.toList := by
  rw [list_nil s h]
  rfl
theorem takeW_digit (s : ByteArray) (k : Nat) (h : k < (s.data.toList.takeWhile isDig).length) : ∃ hk : k < s.size, isDig s[k] = true := by
  have hle : (s.data.toList.takeWhile isDig).length ≤ s.size := by
    have := (List.takeWhile_sublist isDig (l := s.data.toList)).length_le
    simpa using this
  refine ⟨by omega, ?_⟩
  have h1 : (s.data.toList.takeWhile isDig)[k] ∈ s.data.toList.takeWhile isDig := List.getElem_mem _
  have h2 := List.all_eq_true.1 (List.all_takeWhile (l := s.data.toList) (p := isDig)) _ h1
  have h3 : (s.data.toList.takeWhile isDig)[k] = s[k] := (List.takeWhile_prefix isDig).getElem h
  rwa [h3] at h2

theorem drop_takeW (l : List UInt8) : l.drop (l.takeWhile isDig).length = l.dropWhile isDig := by
  have h : l.takeWhile isDig ++ l.dropWhile isDig = l := List.takeWhile_append_dropWhile
  have h2 : (l.takeWhile isDig ++ l.dropWhile isDig).drop (l.takeWhile isDig).length = l.dropWhile isDig := List.drop_left
  rwa [h] at h2
theorem takeW_le (s : ByteArray) : (s.data.toList.takeWhile isDig).length ≤ s.size := by
  have := (List.takeWhile_sublist isDig (l := s.data.toList)).length_le
  simpa using this
theorem empty_len (l : List UInt8) : l.isEmpty = decide (l.length = 0) := by cases l <;> simp

set_option maxHeartbeats 1000000 in
theorem exp_any (s : ByteArray) (w : World) (hs : s.size ≤ 1048576) :
    Calls Tryd.prog 21 #[.string s] w fun e w' => (∃ (y : Int) (r : ByteArray) (ok : Bool), e = .returned (.tuple #[.int .i64 y, .string r, .bool ok]) ∧ ok = !((unsign s.data.toList).takeWhile isDig).isEmpty ∧ (ok = true → r.data.toList = (unsign s.data.toList).dropWhile isDig) ∧ -1073741824 ≤ y ∧ y ≤ 1073741824) ∧ ∃ q, w' = w.drewN q := by
  have HY : Hid (∀ (h : 0 < s.size) (_ : s[0].toNat = 43 ∨ s[0].toNat = 45), (s.extract 1 s.size).data.toList = unsign s.data.toList) := unsign_yes s
  have HNO : Hid (∀ (h : 0 < s.size) (_ : ¬ (s[0].toNat = 43 ∨ s[0].toNat = 45)), s.data.toList = unsign s.data.toList) := unsign_no s
  have HNI : Hid (¬ 0 < s.size → s.data.toList = unsign s.data.toList) := unsign_nil s
  generalize hu : unsign s.data.toList = U at *
  clear hu
  go_enter Tryd.func21, Tryd.ntmps21
  by_cases hp : 0 < s.size
  all_goals go_wp2_with fail
  all_goals
    first
      | (have HX : Hid ((s.extract 1 s.size).data.toList = U) := HY.out (by assumption) (by first | omega | (simp only [beq_iff_eq] at *; omega))
         have hXb : (s.extract 1 s.size).size ≤ 1048576 := by simp; omega
         generalize s.extract 1 s.size = X at *
         clear HY HNO HNI)
      | (have HX : Hid (s.data.toList = U) := HNO.out (by assumption) (by first | omega | (simp only [beq_eq_false_iff_ne, ne_eq, not_or] at *; omega))
         have hXb : s.size ≤ 1048576 := hs
         clear HY HNO HNI
         generalize s = X at *)
      | (have HX : Hid (s.data.toList = U) := HNI.out hp
         have hXb : s.size ≤ 1048576 := hs
         clear HY HNO HNI hp
         generalize s = X at *)
    refine (skip_any X _ (by unfold maxLen; omega)).mono ?_
    rintro e w1 ⟨rfl, hw⟩
    subst hw
    have hle := takeW_le X
    have HDG : Hid (∀ k, k < (X.data.toList.takeWhile isDig).length → ∃ hk : k < X.size, isDig X[k] = true) := takeW_digit X
    have HEM : Hid ((U.takeWhile isDig).isEmpty = decide ((X.data.toList.takeWhile isDig).length = 0)) := by show _ = _; rw [empty_len, HX.out]
    have HDR : Hid ((X.extract (X.data.toList.takeWhile isDig).length X.size).data.toList = U.dropWhile isDig) := by show _ = _; rw [Lib.extract_to_end, drop_takeW, HX.out]
    generalize (X.data.toList.takeWhile isDig).length = n at *
    by_cases hn0 : n = 0
    · subst hn0
      go_wp2
      go_ret3
      exact ⟨⟨0, X, false, rfl, by rw [HEM.out]; rfl, (fun h => by cases h), by omega, by omega⟩, 0, rfl⟩
    · have hnp : ¬ ((n : Int) = 0) := by omega
      go_wp2
      go_loop [7, 33] (fun z i => ∃ (y : Int) (k : Nat), k ≤ n ∧ z = .int .i64 y ∧ i = .int .i64 k ∧ 0 ≤ y ∧ y ≤ 1073741824) (fun _ i => n - (intOf i).toNat)
      case atStart => exact ⟨0, 0, Nat.zero_le _, rfl, rfl, by omega, by omega⟩
      case round =>
        obtain ⟨y, k, hk, rfl, rfl, hy0, hy1⟩ := hrel
        by_cases hlt : k < n
        · obtain ⟨hkX, hdg⟩ := HDG.out k hlt
          have hdg' : 48 ≤ X[k].toNat ∧ X[k].toNat ≤ 57 := by simpa [isDig] using hdg
          clear hdg
          go_wp2
          exact ⟨⟨_, k + 1, by omega, rfl, by go_num, by omega, by omega⟩, by simp [intOf]; omega⟩
        · obtain rfl : k = n := by omega
          go_wp2
          go_quiet (fail)
          go_wp2
          go_ret3
          refine ⟨⟨_, _, true, rfl, by rw [HEM.out]; simp [hn0], fun _ => HDR.out, ?_, ?_⟩, _, rfl⟩
          all_goals omega
end Go.Proofs.Qxb6003914aDoor
