/-
  The leaves of seat b6003650aD: a colon; digits; the bounds on the lengths; portIsNotANumber (11).
-/
import Derived.Test.Qxb6003650aDoorRows
import Derived.Test.Qxb6003650aDoorShelf
import Derived.WalkKit
import Derived.WalkSpells
import Derived.WalkLawsBesides
import Derived.BigQuiet
import Derived.Deep.QuietTactic
import Derived.Lib.Strings
import Derived.Lib.SlTrimSet
namespace Go.Proofs.Qxb6003650aDoor
open Go.RowKit

theorem ret_bool {a b : Bool} (h : a = b) : Ending.returned (.bool a) = .returned (.bool b) := by rw [h]
theorem take_snoc (s : ByteArray) (k : Nat) (h : k < s.size) : s.data.toList.take (k + 1) = s.data.toList.take k ++ [s[k]] := by
  rw [List.take_succ_eq_append_getElem (by simpa using h)]; rfl
theorem take_all (s : ByteArray) (k : Nat) (h : s.size ≤ k) : s.data.toList.take k = s.data.toList := List.take_of_length_le (by simpa using h)
theorem any_hit {p : UInt8 → Bool} {s : ByteArray} (k : Nat) (hk : k < s.size) (h : p s[k] = true) : s.data.toList.any p = true := List.any_eq_true.2 ⟨s[k], List.getElem_mem _, h⟩

def isColon (c : UInt8) : Bool := decide (c.toNat = 58)
def nonDig (c : UInt8) : Bool := decide (c.toNat < 48 ∨ 57 < c.toNat)

set_option maxHeartbeats 400000 in
theorem hasColon_any (s : ByteArray) (w : World) (hs : s.size ≤ maxLen) :
    Calls Tryd.prog 6 #[.string s] w fun e w' => e = .returned (.bool (s.data.toList.any isColon)) ∧ w' = w := by
  have hs' : s.size ≤ 2 ^ 63 - 1 := hs
  clear hs
  generalize hb : s.data.toList.any isColon = B
  have HB : Hid (s.data.toList.any isColon = B) := hb; clear hb
  go_enter Tryd.func6, Tryd.ntmps6
  go_wp2
  go_loop [3] (fun i => ∃ (k : Nat), k ≤ s.size ∧ i = .int .i64 k ∧ Hid ((s.data.toList.take k).any isColon = false)) (fun i => s.size - (intOf i).toNat)
  case atStart => exact ⟨0, Nat.zero_le _, rfl, rfl⟩
  case round =>
    obtain ⟨k, hk, rfl, HJ⟩ := hrel
    by_cases hlt : k < s.size
    · have HT : Hid (s.data.toList.take (k + 1) = s.data.toList.take k ++ [s[k]]) := take_snoc s k hlt
      by_cases h58 : s[k].toNat = 58
      · go_wp2
        all_goals first
          | (go_ret; exact ⟨ret_bool (by rw [← HB.out]; exact (any_hit k hlt (by simp [isColon, h58])).symm), rfl⟩)
          | (exfalso; simp_all)
      · go_wp2
        all_goals first
          | (refine ⟨⟨k + 1, by omega, by go_num, ?_⟩, by simp [intOf]; omega⟩; show _ = _; rw [HT.out, List.any_append, HJ.out]; simp [isColon, h58])
          | (exfalso; simp_all; omega)
    · go_wp2
      go_ret
      exact ⟨ret_bool (by rw [← HB.out, ← take_all s k (by omega)]; exact HJ.out.symm), rfl⟩

set_option maxHeartbeats 400000 in
theorem nonDig_any (s : ByteArray) (w : World) (hs : s.size ≤ maxLen) :
    Calls Tryd.prog 8 #[.string s] w fun e w' => e = .returned (.bool (s.data.toList.any nonDig)) ∧ w' = w := by
  have hs' : s.size ≤ 2 ^ 63 - 1 := hs
  clear hs
  generalize hb : s.data.toList.any nonDig = B
  have HB : Hid (s.data.toList.any nonDig = B) := hb; clear hb
  go_enter Tryd.func8, Tryd.ntmps8
  go_wp2
  go_loop [3] (fun i => ∃ (k : Nat), k ≤ s.size ∧ i = .int .i64 k ∧ Hid ((s.data.toList.take k).any nonDig = false)) (fun i => s.size - (intOf i).toNat)
  case atStart => exact ⟨0, Nat.zero_le _, rfl, rfl⟩
  case round =>
    obtain ⟨k, hk, rfl, HJ⟩ := hrel
    by_cases hlt : k < s.size
    · have HT : Hid (s.data.toList.take (k + 1) = s.data.toList.take k ++ [s[k]]) := take_snoc s k hlt
      go_wp2
      all_goals first
        | (go_ret; refine ⟨ret_bool ?_, rfl⟩; rw [← HB.out]; exact (any_hit k hlt (by simp [nonDig]; omega)).symm)
        | (refine ⟨⟨k + 1, by omega, by go_num, ?_⟩, by simp [intOf]; omega⟩; show _ = _; rw [HT.out, List.any_append, HJ.out]; simp [nonDig]; omega)
    · go_wp2
      go_ret
      exact ⟨ret_bool (by rw [← HB.out, ← take_all s k (by omega)]; exact HJ.out.symm), rfl⟩

set_option maxHeartbeats 400000 in
theorem allDig_any (s : ByteArray) (w : World) (hs : s.size ≤ maxLen) :
    Calls Tryd.prog 7 #[.string s] w fun e w' => e = .returned (.bool (!s.data.toList.any nonDig)) ∧ w' = w := by
  have hs' : s.size ≤ 2 ^ 63 - 1 := hs
  clear hs
  generalize hb : s.data.toList.any nonDig = B
  have HB : Hid (s.data.toList.any nonDig = B) := hb; clear hb
  go_enter Tryd.func7, Tryd.ntmps7
  go_wp2
  go_loop [3] (fun i => ∃ (k : Nat), k ≤ s.size ∧ i = .int .i64 k ∧ Hid ((s.data.toList.take k).any nonDig = false)) (fun i => s.size - (intOf i).toNat)
  case atStart => exact ⟨0, Nat.zero_le _, rfl, rfl⟩
  case round =>
    obtain ⟨k, hk, rfl, HJ⟩ := hrel
    by_cases hlt : k < s.size
    · have HT : Hid (s.data.toList.take (k + 1) = s.data.toList.take k ++ [s[k]]) := take_snoc s k hlt
      go_wp2
      all_goals first
        | (go_ret; refine ⟨ret_bool ?_, rfl⟩; rw [← HB.out, any_hit k hlt (by simp [nonDig]; omega)]; rfl)
        | (refine ⟨⟨k + 1, by omega, by go_num, ?_⟩, by simp [intOf]; omega⟩; show _ = _; rw [HT.out, List.any_append, HJ.out]; simp [nonDig]; omega)
    · go_wp2
      go_ret
      exact ⟨ret_bool (by rw [← HB.out, ← take_all s k (by omega), HJ.out]; rfl), rfl⟩
end Go.Proofs.Qxb6003650aDoor
