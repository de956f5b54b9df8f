/-
  The leaves of seat b6003914aD: digits, skipDigits (20), the grammar's automaton (16).
-/
import Derived.Test.Qxb6003914aDoorRows
import Derived.Test.Qxb6003914aDoorShelf
import Derived.WalkKit
import Derived.WalkSpells
import Derived.WalkLawsBesides
import Derived.BigQuiet
import Derived.Deep.QuietTactic
import Derived.Lib.Strings
namespace Go.Proofs.Qxb6003914aDoor
open Go.RowKit

theorem ret_bool {a b : Bool} (h : a = b) : Ending.returned (.bool a) = .returned (.bool b) := by rw [h]
theorem take_snoc (s : ByteArray) (k : Nat) (h : k < s.size) : s.data.toList.take (k + 1) = s.data.toList.take k ++ [s[k]] := by
  rw [List.take_succ_eq_append_getElem (by simpa using h)]; rfl
theorem drop_cons (s : ByteArray) (k : Nat) (h : k < s.size) : s.data.toList.drop k = s[k] :: s.data.toList.drop (k + 1) := by
  rw [List.drop_eq_getElem_cons (by simpa using h)]; rfl
theorem take_all (s : ByteArray) (k : Nat) (h : s.size ≤ k) : s.data.toList.take k = s.data.toList := List.take_of_length_le (by simpa using h)
theorem drop_all (s : ByteArray) (k : Nat) (h : s.size ≤ k) : s.data.toList.drop k = [] := List.drop_of_length_le (by simpa using h)

def isDig (c : UInt8) : Bool := decide (48 ≤ c.toNat ∧ c.toNat ≤ 57)

theorem isDigit_any (c : UInt8) (w : World) : Calls Tryd.prog 17 #[.int .u8 c.toNat] w fun e w' => e = .returned (.bool (isDig c)) ∧ w' = w := by
  go_enter Tryd.func17, Tryd.ntmps17
  go_wp2
  all_goals
    go_ret
    refine ⟨ret_bool ?_, rfl⟩
    rw [Bool.eq_iff_iff]
    simp [isDig]
    omega

/-- The number of digits that the list begins with. -/
theorem span_stop {l : List UInt8} {k : Nat} (h1 : (l.take k).all isDig = true) (h2 : ∀ c, (l.drop k).head? = some c → isDig c = false) (h3 : k ≤ l.length) : (l.takeWhile isDig).length = k := by
  induction k generalizing l with
  | zero =>
    cases l with
    | nil => rfl
    | cons c r => simp [h2 c rfl]
  | succ k ih =>
    cases l with
    | nil => simp at h3
    | cons c r =>
      simp only [List.take_succ_cons, List.all_cons, Bool.and_eq_true] at h1
      rw [List.takeWhile_cons, if_pos h1.1, List.length_cons, ih h1.2 h2 (by simpa using h3)]

set_option maxHeartbeats 400000 in
theorem skip_any (s : ByteArray) (w : World) (hs : s.size ≤ maxLen) :
    Calls Tryd.prog 20 #[.string s] w fun e w' => e = .returned (.int .i64 ((s.data.toList.takeWhile isDig).length : Nat)) ∧ w' = w := by
  have hs' : s.size ≤ 2 ^ 63 - 1 := hs
  clear hs
  generalize hN : (s.data.toList.takeWhile isDig).length = N
  have HN : Hid ((s.data.toList.takeWhile isDig).length = N) := hN; clear hN
  go_enter Tryd.func20, Tryd.ntmps20
  go_wp2
  go_loop [3] (fun i => ∃ (k : Nat), k ≤ s.size ∧ i = .int .i64 k ∧ Hid ((s.data.toList.take k).all isDig = true)) (fun i => s.size - (intOf i).toNat)
  case atStart => exact ⟨0, Nat.zero_le _, rfl, rfl⟩
  case round =>
    obtain ⟨k, hk, rfl, HJ⟩ := hrel
    by_cases hlt : k < s.size
    · have HT : Hid (s.data.toList.take (k + 1) = s.data.toList.take k ++ [s[k]]) := take_snoc s k hlt
      have HD : Hid (s.data.toList.drop k = s[k] :: s.data.toList.drop (k + 1)) := drop_cons s k hlt
      go_wp2
      all_goals first
        | (refine ⟨⟨k + 1, by omega, by go_num, ?_⟩, by simp [intOf]; omega⟩; show _ = _; rw [HT.out, List.all_append, HJ.out]; simp [isDig]; omega)
        | (go_ret; refine ⟨?_, rfl⟩; have e := span_stop HJ.out (fun c hc => by rw [HD.out] at hc; simp at hc; subst hc; simp [isDig]; omega) (by simpa using hk); rw [← HN.out, e]; rfl)
    · go_wp2
      go_ret
      have e := span_stop HJ.out (fun c hc => by rw [drop_all s k (by omega)] at hc; cases hc) (by simpa using hk)
      exact ⟨by rw [← HN.out, e]; rfl, rfl⟩

set_option maxHeartbeats 400000 in
theorem isDigits_any (s : ByteArray) (w : World) (hs : s.size ≤ maxLen) (hd : s.data.toList.all isDig = true) :
    Calls Tryd.prog 7 #[.string s] w fun e w' => e = .returned (.bool true) ∧ w' = w := by
  have hs' : s.size ≤ 2 ^ 63 - 1 := hs
  clear hs
  have HD : Hid (∀ k (h : k < s.size), isDig s[k] = true) := fun k h => List.all_eq_true.1 hd _ (List.getElem_mem _)
  clear hd
  go_enter Tryd.func7, Tryd.ntmps7
  go_wp2
  go_loop [3] (fun i => ∃ (k : Nat), k ≤ s.size ∧ i = .int .i64 k) (fun i => s.size - (intOf i).toNat)
  case atStart => exact ⟨0, Nat.zero_le _, rfl⟩
  case round =>
    obtain ⟨k, hk, rfl⟩ := hrel
    by_cases hlt : k < s.size
    · have hd := HD.out k hlt
      go_wp2_with fail
      refine (isDigit_any s[k] w).mono ?_
      rintro e w1 ⟨rfl, hw⟩
      subst hw
      rw [hd]
      go_wp2
      exact ⟨⟨k + 1, by omega, by go_num⟩, by simp [intOf]; omega⟩
    · go_wp2
      go_ret
      exact ⟨rfl, rfl⟩

/-- The automaton. -/
def step (s : Nat) (c : UInt8) : Option Nat :=
  if s = 0 then (if c.toNat = 45 then some 1 else if isDig c then some 2 else none)
  else if s = 1 then (if isDig c then some 2 else none)
  else if s = 2 then (if isDig c then some 2 else if c.toNat = 46 then some 3 else if c.toNat = 101 ∨ c.toNat = 69 then some 5 else none)
  else if s = 3 then (if isDig c then some 4 else none)
  else if s = 4 then (if isDig c then some 4 else if c.toNat = 101 ∨ c.toNat = 69 then some 5 else none)
  else if s = 5 then (if c.toNat = 43 ∨ c.toNat = 45 then some 6 else if isDig c then some 7 else none)
  else (if isDig c then some 7 else none)
def run : Nat → List UInt8 → Bool
  | s, [] => decide (s = 2 ∨ s = 4 ∨ s = 7)
  | s, c :: l => match step s c with
    | none => false
    | some t => run t l
theorem run_step {s t : Nat} {c : UInt8} {l : List UInt8} (h : step s c = some t) : run s (c :: l) = run t l := by rw [run, h]
theorem run_stop {s : Nat} {c : UInt8} {l : List UInt8} (h : step s c = none) : run s (c :: l) = false := by rw [run, h]

theorem step2_e {c : UInt8} (hd : isDig c = false) (h : c.toNat = 101 ∨ c.toNat = 69) : step 2 c = some 5 := by
  unfold step
  rw [if_neg (by decide), if_neg (by decide), if_pos rfl, hd, if_neg (by decide), if_neg (by omega), if_pos h]
theorem step2_none {c : UInt8} (hd : isDig c = false) (h : c.toNat ≠ 46 ∧ c.toNat ≠ 101 ∧ c.toNat ≠ 69) : step 2 c = none := by
  unfold step
  rw [if_neg (by decide), if_neg (by decide), if_pos rfl, hd, if_neg (by decide), if_neg (by omega), if_neg (by omega)]

set_option maxHeartbeats 2000000 in
theorem grammar_any (s : ByteArray) (w : World) (hs : s.size ≤ maxLen) :
    Calls Tryd.prog 16 #[.string s] w fun e w' => e = .returned (.bool (run 0 s.data.toList)) ∧ w' = w := by
  have hs' : s.size ≤ 2 ^ 63 - 1 := hs
  clear hs
  generalize hN : run 0 s.data.toList = B
  have HN : Hid (run 0 s.data.toList = B) := hN; clear hN
  go_enter Tryd.func16, Tryd.ntmps16
  go_wp2
  go_loop [3, 4] (fun a i => ∃ (st k : Nat), st ≤ 7 ∧ k ≤ s.size ∧ a = .int .i64 st ∧ i = .int .i64 k ∧ Hid (B = run st (s.data.toList.drop k))) (fun _ i => s.size - (intOf i).toNat)
  case atStart => exact ⟨0, 0, Nat.zero_le _, Nat.zero_le _, rfl, rfl, HN.out.symm⟩
  case round =>
    obtain ⟨st, k, hst, hk, rfl, rfl, HJ⟩ := hrel
    by_cases hlt : k < s.size
    · have HD : Hid (s.data.toList.drop k = s[k] :: s.data.toList.drop (k + 1)) := drop_cons s k hlt
      go_wp2_with fail
      refine (isDigit_any s[k] w).mono ?_
      rintro e w1 ⟨rfl, hw⟩
      subst hw
      have hst' : st = 0 ∨ st = 1 ∨ st = 2 ∨ st = 3 ∨ st = 4 ∨ st = 5 ∨ st = 6 ∨ st = 7 := by omega
      clear hst
      rcases hst' with rfl | rfl | rfl | rfl | rfl | rfl | rfl | rfl
      all_goals cases hd : isDig s[k]
      all_goals go_wp2
      all_goals first
        | (go_ret; refine ⟨ret_bool ?_, rfl⟩; rw [HJ.out, HD.out]; exact (run_stop (by first | (simp [step, hd]; done) | (simp [step, hd]; omega) | (simp only [beq_eq_false_iff_ne, ne_eq] at *; simp [step, hd]; omega))).symm)
        | (refine ⟨⟨1, k + 1, by decide, by omega, rfl, by go_num, ?_⟩, by simp [intOf]; omega⟩; show _ = _; rw [HJ.out, HD.out]; exact run_step (by first | (simp [step, hd]; done) | (simp [step, hd]; omega) | (simp only [beq_iff_eq] at *; simp [step, hd]; omega)))
        | (refine ⟨⟨2, k + 1, by decide, by omega, rfl, by go_num, ?_⟩, by simp [intOf]; omega⟩; show _ = _; rw [HJ.out, HD.out]; exact run_step (by first | (simp [step, hd]; done) | (simp [step, hd]; omega) | (simp only [beq_eq_false_iff_ne, ne_eq] at *; simp [step, hd]; omega)))
        | (refine ⟨⟨3, k + 1, by decide, by omega, rfl, by go_num, ?_⟩, by simp [intOf]; omega⟩; show _ = _; rw [HJ.out, HD.out]; exact run_step (by first | (simp [step, hd]; done) | (simp [step, hd]; omega) | (simp only [beq_iff_eq] at *; simp [step, hd]; omega)))
        | (refine ⟨⟨4, k + 1, by decide, by omega, rfl, by go_num, ?_⟩, by simp [intOf]; omega⟩; show _ = _; rw [HJ.out, HD.out]; exact run_step (by first | (simp [step, hd]; done) | (simp [step, hd]; omega) | (simp only [beq_iff_eq, beq_eq_false_iff_ne, ne_eq] at *; simp [step, hd]; omega)))
        | (refine ⟨⟨5, k + 1, by decide, by omega, rfl, by go_num, ?_⟩, by simp [intOf]; omega⟩; show _ = _; rw [HJ.out, HD.out]; exact run_step (by first | (simp [step, hd]; done) | (simp [step, hd]; omega) | (simp only [beq_iff_eq, beq_eq_false_iff_ne, ne_eq] at *; simp [step, hd]; omega)))
        | (refine ⟨⟨6, k + 1, by decide, by omega, rfl, by go_num, ?_⟩, by simp [intOf]; omega⟩; show _ = _; rw [HJ.out, HD.out]; exact run_step (by first | (simp [step, hd]; done) | (simp [step, hd]; omega) | (simp only [beq_iff_eq] at *; simp [step, hd]; omega)))
        | (refine ⟨⟨7, k + 1, by decide, by omega, rfl, by go_num, ?_⟩, by simp [intOf]; omega⟩; show _ = _; rw [HJ.out, HD.out]; exact run_step (by first | (simp [step, hd]; done) | (simp [step, hd]; omega) | (simp only [beq_eq_false_iff_ne, ne_eq] at *; simp [step, hd]; omega)))
        | (go_ret; refine ⟨ret_bool ?_, rfl⟩; rw [HJ.out, HD.out]; exact (run_stop (step2_none hd (by simp only [beq_eq_false_iff_ne, ne_eq] at *; omega))).symm)
        | (refine ⟨⟨5, k + 1, by decide, by omega, rfl, by go_num, ?_⟩, by simp [intOf]; omega⟩; show _ = _; rw [HJ.out, HD.out]; exact run_step (step2_e hd (by first | omega | (simp only [beq_iff_eq] at *; omega))))
    · have e := drop_all s k (by omega)
      rw [e] at HJ
      clear e
      go_wp2
      all_goals
        go_ret
        refine ⟨ret_bool ?_, rfl⟩
        rw [HJ.out, run, Bool.eq_iff_iff]
        simp
        omega
end Go.Proofs.Qxb6003914aDoor
