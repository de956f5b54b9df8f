/-
  THE WALKS over the leaves of seat b6614453aF: the lock types' and durations' texts; the bound on the lengths; two slices of strings compared.
-/
import Derived.Test.Qxb6614453aFmtRows
import Derived.WalkKit
import Derived.WalkSpells
import Derived.WalkLawsBesides
import Derived.BigQuiet
import Derived.Deep.QuietTactic
import Derived.Lib.Strings
namespace Go.Proofs.Qxb6614453aFmt
open Go.RowKit

/-- The place of a lock type's text, or -1. -/
def posF (s : ByteArray) : Int :=
  if s.toList == [73, 88] then 0 else if s.toList == [83] then 1 else if s.toList == [83, 72] then 2 else if s.toList == [83, 82] then 3 else if s.toList == [83, 87] then 4
  else if s.toList == [83, 87, 76, 80] then 5 else if s.toList == [83, 85] then 6 else if s.toList == [83, 82, 79] then 7 else if s.toList == [83, 78, 87] then 8
  else if s.toList == [83, 78, 82, 87] then 9 else if s.toList == [88] then 10 else -1

theorem ret_bool {a b : Bool} (h : a = b) : Ending.returned (.bool a) = .returned (.bool b) := by rw [h]
theorem ret_int {k : IntKind} {a b : Int} (h : a = b) : Ending.returned (.int k a) = .returned (.int k b) := by rw [h]

set_option maxHeartbeats 400000 in
theorem pos_any (s : ByteArray) (w : World) :
    Calls Tryf.prog 19 #[.string s] w fun e w' => e = .returned (.int .i64 (posF s)) ∧ w' = w := by
  go_enter Tryf.func19, Tryf.ntmps19
  go_wp2
  all_goals
    go_ret
    exact ⟨ret_int (by simp [posF, *]), rfl⟩

/-- The rank of a duration's text, or 0. -/
def rankF (s : ByteArray) : Int :=
  if s.toList == [115, 116, 97, 116, 101, 109, 101, 110, 116] then 1 else if s.toList == [116, 114, 97, 110, 115, 97, 99, 116, 105, 111, 110] then 2
  else if s.toList == [101, 120, 112, 108, 105, 99, 105, 116] then 3 else 0

set_option maxHeartbeats 400000 in
theorem rank_any (s : ByteArray) (w : World) :
    Calls Tryf.prog 21 #[.string s] w fun e w' => e = .returned (.int .i64 (rankF s)) ∧ w' = w := by
  go_enter Tryf.func21, Tryf.ntmps21
  go_wp2
  all_goals
    go_ret
    exact ⟨ret_int (by simp [rankF, *]), rfl⟩

/-- THE VALUE IS A SLICE OF n STRINGS, S 0 .. S (n-1), IN THE WORLD w. -/
def IsStrs (w : World) (v : Value) (n : Nat) (S : Nat → ByteArray) : Prop :=
  ∃ a c, v = .slice a n c ∧ n ≤ c ∧ c ≤ maxLen ∧ (∀ j, j < n → (S j).size ≤ maxLen) ∧
    (∀ j, j < n → ∃ b o, a = some ⟨b, o, none⟩ ∧ ∀ i, i < n → w.cell? ⟨b, o + i, none⟩ = some (.string (S i)))

/-- The call returned a bool; if it is true, the lengths are small. -/
def IsBool (n : Nat) (S : Nat → ByteArray) (e : Ending) : Prop := ∃ r, e = .returned (.bool r) ∧ (r = true → n ≤ 1048576 ∧ ∀ j, j < n → (S j).size ≤ 1048576)
theorem isBool_no (n : Nat) (S : Nat → ByteArray) : IsBool n S (.returned (.bool false)) := ⟨false, rfl, fun h => by cases h⟩
theorem isBool_yes {n : Nat} {S : Nat → ByteArray} (hn : n ≤ 1048576) (h : ∀ j, j < n → (S j).size ≤ 1048576) : IsBool n S (.returned (.bool true)) := ⟨true, rfl, fun _ => ⟨hn, h⟩⟩

set_option maxHeartbeats 400000 in
theorem bytes14 (v : Value) (n : Nat) (S : Nat → ByteArray) (last : ByteArray) (w : World) (hv : IsStrs w v n S) (_hl : last.size ≤ maxLen) :
    Calls Tryf.prog 14 #[v, .string last] w fun e w' => IsBool n S e ∧ w' = w := by
  obtain ⟨a, c, rfl, hc, hm, hsz, hx⟩ := hv
  unfold maxLen at hm _hl hsz
  have HS : Hid (∀ j, j < n → (S j).size ≤ 2 ^ 63 - 1) := hsz; clear hsz
  have HX : Hid (∀ j, j < n → ∃ b o, a = some ⟨b, o, none⟩ ∧ ∀ i, i < n → w.cell? ⟨b, o + i, none⟩ = some (.string (S i))) := hx; clear hx
  go_enter Tryf.func14, Tryf.ntmps14
  go_wp2
  · go_ret
    exact ⟨isBool_no _ _, rfl⟩
  go_loop [5, 6] (fun z i => ∃ (y : Int) (k : Nat), k ≤ n ∧ z = .int .i64 y ∧ i = .int .i64 k ∧ Hid (∀ j, j < k → (S j).size ≤ 1048576)) (fun _ i => n - (intOf i).toNat)
  case atStart => exact ⟨_, 0, Nat.zero_le _, rfl, rfl, fun j h => absurd h (Nat.not_lt_zero _)⟩
  case round =>
    obtain ⟨y, k, hk, rfl, rfl, HJ⟩ := hrel
    by_cases hlt : k < n
    · obtain ⟨b, o, ha, hcell⟩ := HX.out k hlt
      subst ha
      have hck := hcell k hlt
      have hsk := HS.out k hlt
      clear hcell
      go_wp2
      · go_ret
        exact ⟨isBool_no _ _, rfl⟩
      · go_ret
        exact ⟨isBool_no _ _, rfl⟩
      · refine ⟨⟨_, k + 1, by omega, rfl, by go_num, fun j hj => ?_⟩, by simp [intOf]; omega⟩
        rcases Nat.lt_succ_iff_lt_or_eq.1 hj with h | rfl
        · exact HJ.out j h
        · omega
    · go_wp2
      · go_ret
        exact ⟨isBool_no _ _, rfl⟩
      · go_ret
        exact ⟨isBool_no _ _, rfl⟩
      · go_ret
        exact ⟨isBool_yes (by omega) fun j hj => HJ.out j (by omega), rfl⟩

/-- ARE THE TWO THE SAME? -/
def sameB (n m : Nat) (S T : Nat → ByteArray) : Bool := decide (n = m ∧ ∀ j, j < n → S j = T j)

theorem sameB_yes {n : Nat} {S T : Nat → ByteArray} (h : ∀ j, j < n → S j = T j) : sameB n n S T = true := by
  simp only [sameB, decide_eq_true_eq]
  exact ⟨trivial, h⟩
theorem sameB_no {n : Nat} {S T : Nat → ByteArray} (k : Nat) (hk : k < n) (h : S k ≠ T k) : sameB n n S T = false := by
  simp only [sameB, decide_eq_false_iff_not]
  exact fun e => h (e.2 k hk)
theorem bytes_eq {a b : ByteArray} (h : a.toList = b.toList) : a = b := by
  rw [ByteArray.toList_eq, ByteArray.toList_eq] at h
  exact ByteArray.ext (Array.toList_inj.1 h)

set_option maxHeartbeats 400000 in
theorem zzEq_any (v u : Value) (n m : Nat) (S T : Nat → ByteArray) (w : World) (hv : IsStrs w v n S) (hu : IsStrs w u m T) :
    Calls Tryf.prog 12 #[v, u] w fun e w' => e = .returned (.bool (sameB n m S T)) ∧ ∃ q, w' = w.drewN q := by
  obtain ⟨a, c, rfl, hc, hm, -, hx⟩ := hv
  obtain ⟨a2, c2, rfl, hc2, hm2, -, hx2⟩ := hu
  unfold maxLen at hm hm2
  have HX : Hid (∀ j, j < n → ∃ b o, a = some ⟨b, o, none⟩ ∧ ∀ i, i < n → w.cell? ⟨b, o + i, none⟩ = some (.string (S i))) := hx; clear hx
  have HX2 : Hid (∀ j, j < m → ∃ b o, a2 = some ⟨b, o, none⟩ ∧ ∀ i, i < m → w.cell? ⟨b, o + i, none⟩ = some (.string (T i))) := hx2; clear hx2
  by_cases hnm : n = m
  · subst hnm
    go_enter Tryf.func12, Tryf.ntmps12
    go_wp2
    go_loopw [5] (fun i W => ∃ (k q : Nat), k ≤ n ∧ i = .int .i64 k ∧ W = w.drewN q ∧ ∀ j, j < k → S j = T j) (fun i _ => n - (intOf i).toNat)
    case atStart => exact ⟨0, 0, Nat.zero_le _, rfl, rfl, fun j h => absurd h (Nat.not_lt_zero _)⟩
    case round =>
      obtain ⟨k, q, hk, rfl, rfl, hsame⟩ := hrel
      have HE : Hid (∀ j, j < k → S j = T j) := hsame; clear hsame
      by_cases hlt : k < n
      · obtain ⟨b, o, ha, hcell⟩ := HX.out k hlt
        obtain ⟨b2, o2, ha2, hcell2⟩ := HX2.out k hlt
        subst ha
        subst ha2
        have hck := hcell k hlt
        have hck2 := hcell2 k hlt
        clear hcell hcell2
        go_wp2
        go_quiet (fail)
        go_wp2
        · rename_i hne
          go_ret
          exact ⟨ret_bool (sameB_no k hlt (fun e => by simp [e] at hne)).symm, _, World.drewN_drewN _ _ _⟩
        · rename_i heq
          refine ⟨⟨k + 1, _, by omega, by go_num, rfl, fun j hj => ?_⟩, by simp [intOf]; omega⟩
          rcases Nat.lt_succ_iff_lt_or_eq.1 hj with h | rfl
          · exact HE.out j h
          · exact bytes_eq (by simpa using heq)
      · go_wp2
        go_ret
        exact ⟨ret_bool (sameB_yes fun j hj => HE.out j (by omega)).symm, _, rfl⟩
  · have hne : ((n : Int) != (m : Int)) = true := by rw [bne_iff_ne]; omega
    go_enter Tryf.func12, Tryf.ntmps12
    go_wp2
    go_ret
    exact ⟨by simp [sameB, hnm], 0, rfl⟩

def isDig (c : UInt8) : Bool := decide (48 ≤ c.toNat ∧ c.toNat ≤ 57)
def val (l : List UInt8) : Nat := l.foldl (fun v c => v * 10 + (c.toNat - 48)) 0
/-- The text is digits and then ms, the number from 1 to the greatest bound. -/
def msB (s : ByteArray) : Bool := decide (3 ≤ s.size ∧ s.data.toList.drop (s.size - 2) = [109, 115] ∧ (s.data.toList.take (s.size - 2)).all isDig = true ∧
  1 ≤ val (s.data.toList.take (s.size - 2)) ∧ val (s.data.toList.take (s.size - 2)) ≤ 9223372036854)
def msV (s : ByteArray) : Int := if msB s then val (s.data.toList.take (s.size - 2)) else 0

/-- The number as zzMs gathers it: it grows no more once it is beyond the greatest bound. -/
def satv (l : List UInt8) : Int := l.foldl (fun v c => if v ≤ 9223372036854 then v * 10 + ((c.toNat : Int) - 48) else v) 0
theorem satv_snoc (l : List UInt8) (c : UInt8) : satv (l ++ [c]) = if satv l ≤ 9223372036854 then satv l * 10 + ((c.toNat : Int) - 48) else satv l := by
  unfold satv
  rw [List.foldl_append]
  rfl
theorem take_snoc (s : ByteArray) (k : Nat) (h : k < s.size) : s.data.toList.take (k + 1) = s.data.toList.take k ++ [s[k]] := by
  rw [List.take_succ_eq_append_getElem (by simpa using h)]; rfl
theorem fold_val (l : List UInt8) (h : l.all isDig = true) : ∀ (v : Int) (u : Nat), ((v ≤ 9223372036854 → v = u) ∧ (9223372036854 < v → 9223372036854 < u) ∧ 0 ≤ v ∧ v ≤ 92233720368549) →
    let v' := l.foldl (fun v c => if v ≤ 9223372036854 then v * 10 + ((c.toNat : Int) - 48) else v) v
    let u' := l.foldl (fun v c => v * 10 + (c.toNat - 48)) u
    ((v' ≤ 9223372036854 → v' = u') ∧ (9223372036854 < v' → 9223372036854 < u') ∧ 0 ≤ v' ∧ v' ≤ 92233720368549) := by
  induction l with
  | nil => exact fun v u h => h
  | cons c l ih =>
    intro v u hr
    rw [List.all_cons, Bool.and_eq_true] at h
    have hc : 48 ≤ c.toNat ∧ c.toNat ≤ 57 := by simpa [isDig] using h.1
    refine ih h.2 _ _ ?_
    obtain ⟨i1, i2, i3, i4⟩ := hr
    show ((if v ≤ 9223372036854 then v * 10 + ((c.toNat : Int) - 48) else v) ≤ 9223372036854 → (if v ≤ 9223372036854 then v * 10 + ((c.toNat : Int) - 48) else v) = ((u * 10 + (c.toNat - 48) : Nat) : Int)) ∧ (9223372036854 < (if v ≤ 9223372036854 then v * 10 + ((c.toNat : Int) - 48) else v) → 9223372036854 < u * 10 + (c.toNat - 48)) ∧
      0 ≤ (if v ≤ 9223372036854 then v * 10 + ((c.toNat : Int) - 48) else v) ∧ (if v ≤ 9223372036854 then v * 10 + ((c.toNat : Int) - 48) else v) ≤ 92233720368549
    by_cases h0 : v ≤ 9223372036854
    · rw [if_pos h0]
      have := i1 h0
      omega
    · rw [if_neg h0]
      have := i2 (by omega)
      omega
theorem satv_val (l : List UInt8) (h : l.all isDig = true) : (satv l ≤ 9223372036854 → satv l = val l) ∧ (9223372036854 < satv l → 9223372036854 < val l) ∧ 0 ≤ satv l ∧ satv l ≤ 92233720368549 :=
  fold_val l h 0 0 (by omega)
theorem tail2 (s : ByteArray) (_h : 3 ≤ s.size) : (s.extract (s.size - 2) s.size).toList = s.data.toList.drop (s.size - 2) := by
  rw [Lib.extract_toList]
  exact List.take_of_length_le (by simp)
theorem msNo {s : ByteArray} {R : Ending} (h : (.returned (.tuple #[.int .i64 (msV s), .bool (msB s)]) : Ending) = R) (hb : msB s = false) : .returned (.tuple #[.int .i64 0, .bool false]) = R := by
  rw [← h, show msV s = 0 by simp [msV, hb], hb]
theorem msYes {s : ByteArray} {R : Ending} (h : (.returned (.tuple #[.int .i64 (msV s), .bool (msB s)]) : Ending) = R) (hb : msB s = true) {v : Int} (hv : v = val (s.data.toList.take (s.size - 2))) : .returned (.tuple #[.int .i64 v, .bool true]) = R := by
  rw [← h, show msV s = v by simp [msV, hb, hv], hb]
theorem ms_dig {s d : ByteArray} (hd : d.data.toList = s.data.toList.take (s.size - 2)) (k : Nat) (hk : k < d.size) (hb : d[k].toNat < 48 ∨ 57 < d[k].toNat) : msB s = false := by
  simp only [msB, decide_eq_false_iff_not]
  rintro ⟨-, -, h, -⟩
  rw [← hd, List.all_eq_true] at h
  have := h d[k] (List.getElem_mem _)
  simp [isDig] at this
  omega
theorem ms_end {s d : ByteArray} (hd : d.data.toList = s.data.toList.take (s.size - 2)) (hs : 3 ≤ s.size) (hm : (s.data.toList.drop (s.size - 2) == [109, 115]) = true) (hall : (d.data.toList.take d.size).all isDig = true) :
    (1 ≤ satv (d.data.toList.take d.size) ∧ satv (d.data.toList.take d.size) ≤ 9223372036854 → msB s = true ∧ satv (d.data.toList.take d.size) = val (s.data.toList.take (s.size - 2))) ∧
    (satv (d.data.toList.take d.size) < 1 ∨ 9223372036854 < satv (d.data.toList.take d.size) → msB s = false) := by
  have e : d.data.toList.take d.size = s.data.toList.take (s.size - 2) := by rw [List.take_of_length_le (by simp), hd]
  rw [e] at hall ⊢
  obtain ⟨i1, i2, i3, i4⟩ := satv_val _ hall
  refine ⟨fun h => ?_, fun h => ?_⟩
  · have := i1 h.2
    refine ⟨?_, this⟩
    simp only [msB, decide_eq_true_eq]
    exact ⟨hs, beq_iff_eq.1 hm, hall, by omega, by omega⟩
  · simp only [msB, decide_eq_false_iff_not]
    rintro ⟨-, -, -, h1, h2⟩
    rcases h with h | h
    · have := i1 (by omega)
      omega
    · have := i2 h
      omega

set_option maxHeartbeats 400000 in
theorem zzMs_any (s : ByteArray) (w : World) (hs : s.size ≤ maxLen) :
    Calls Tryf.prog 13 #[.string s] w fun e w' => e = .returned (.tuple #[.int .i64 (msV s), .bool (msB s)]) ∧ w' = w := by
  unfold maxLen at hs
  by_cases h3 : s.size < 3
  · have hb : msB s = false := by simp only [msB, decide_eq_false_iff_not]; omega
    have hv : msV s = 0 := by simp [msV, hb]
    rw [hv, hb]
    go_enter Tryf.func13, Tryf.ntmps13
    go_wp2
    go_ret2
    exact ⟨rfl, rfl⟩
  · by_cases hms : ((s.extract (s.size - 2) s.size).toList == [109, 115]) = true
    · generalize hr : (.returned (.tuple #[.int .i64 (msV s), .bool (msB s)]) : Ending) = R
      have HR : Hid ((.returned (.tuple #[.int .i64 (msV s), .bool (msB s)]) : Ending) = R) := hr; clear hr
      go_enter Tryf.func13, Tryf.ntmps13
      go_wp2
      have hds : (s.extract 0 (s.size - 2)).size = s.size - 2 := by simp
      have hdl : (s.extract 0 (s.size - 2)).data.toList = s.data.toList.take (s.size - 2) := by rw [Lib.extract_data]; simp
      rw [tail2 s (by omega)] at hms
      generalize s.extract 0 (s.size - 2) = d at *
      have HD : Hid (d.data.toList = s.data.toList.take (s.size - 2)) := hdl; clear hdl
      have HM : Hid ((s.data.toList.drop (s.size - 2) == [109, 115]) = true) := hms; clear hms
      have hd : d.size ≤ 2 ^ 63 - 1 := by omega
      have HZ : Hid (d.size = s.size - 2) := hds; clear hds
      go_loop [5, 6] (fun v i => ∃ (k : Nat), k ≤ d.size ∧ i = .int .i64 k ∧ v = .int .i64 (satv (d.data.toList.take k)) ∧ (d.data.toList.take k).all isDig = true) (fun _ i => d.size - (intOf i).toNat)
      case atStart => exact ⟨0, Nat.zero_le _, rfl, rfl, rfl⟩
      case round =>
        obtain ⟨k, hk, rfl, rfl, hall⟩ := hrel
        have HA : Hid ((d.data.toList.take k).all isDig = true) := hall
        have hsv := satv_val _ hall
        clear hall
        obtain ⟨-, -, hv0, hv1⟩ := hsv
        by_cases hlt : k < d.size
        · have HS : Hid (satv (d.data.toList.take (k + 1)) = if satv (d.data.toList.take k) ≤ 9223372036854 then satv (d.data.toList.take k) * 10 + ((d[k].toNat : Int) - 48) else satv (d.data.toList.take k)) := by
            rw [take_snoc d k hlt]
            exact satv_snoc _ _
          have HT : Hid (d.data.toList.take (k + 1) = d.data.toList.take k ++ [d[k]]) := take_snoc d k hlt
          generalize satv (d.data.toList.take k) = v at *
          go_wp2
          · go_ret2
            exact ⟨msNo HR.out (ms_dig HD.out k hlt (by omega)), rfl⟩
          · rename_i hdg hle
            refine ⟨⟨k + 1, by omega, by go_num, by rw [HS.out, if_pos hle], ?_⟩, by simp [intOf]; omega⟩
            rw [HT.out, List.all_append, HA.out]
            simp [isDig]
            omega
          · rename_i hdg hle
            refine ⟨⟨k + 1, by omega, by go_num, by rw [HS.out, if_neg (by omega)], ?_⟩, by simp [intOf]; omega⟩
            rw [HT.out, List.all_append, HA.out]
            simp [isDig]
            omega
          · go_ret2
            exact ⟨msNo HR.out (ms_dig HD.out k hlt (by omega)), rfl⟩
        · obtain rfl : k = d.size := by omega
          have HB : Hid _ := ms_end HD.out (by omega) HM.out HA.out
          generalize satv (d.data.toList.take d.size) = v at *
          go_wp2
          · go_ret2
            exact ⟨msNo HR.out (HB.out.2 (by omega)), rfl⟩
          · rename_i hr _
            go_ret2
            exact ⟨msYes HR.out (HB.out.1 hr).1 (HB.out.1 hr).2, rfl⟩
          · go_ret2
            exact ⟨msNo HR.out (HB.out.2 (by omega)), rfl⟩
    · have hb : msB s = false := by
        simp only [msB, decide_eq_false_iff_not]
        intro h
        apply hms
        rw [tail2 s h.1, h.2.1]
        rfl
      have hv : msV s = 0 := by simp [msV, hb]
      rw [hv, hb]
      go_enter Tryf.func13, Tryf.ntmps13
      go_wp2
      go_ret2
      exact ⟨rfl, rfl⟩
end Go.Proofs.Qxb6614453aFmt
