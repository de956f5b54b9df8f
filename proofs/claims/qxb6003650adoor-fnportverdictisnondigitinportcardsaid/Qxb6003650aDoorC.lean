/-
  The two laws (3, 4), walked.
-/
import Derived.Test.Qxb6003650aDoorB
namespace Go.Proofs.Qxb6003650aDoor
open Go.RowKit

def IsBool (e : Ending) : Prop := ∃ r, e = .returned (.bool r)
theorem isBool (r : Bool) : IsBool (.returned (.bool r)) := ⟨r, rfl⟩

theorem bytes5 (a b c : ByteArray) (d : Bool) (w : World) (ha : a.size ≤ maxLen) (hb : b.size ≤ maxLen) (hc : c.size ≤ maxLen) :
    Calls Tryd.prog 5 #[.string a, .string b, .string c, .bool d] w fun e w' => IsBool e ∧ w' = w := by
  have ha' : a.size ≤ 2 ^ 63 - 1 := ha
  have hb' : b.size ≤ 2 ^ 63 - 1 := hb
  have hc' : c.size ≤ 2 ^ 63 - 1 := hc
  clear ha hb hc
  go_enter Tryd.func5, Tryd.ntmps5
  go_wp2
  all_goals
    go_ret
    exact ⟨isBool _, rfl⟩
theorem bytes10 (a b c : ByteArray) (w : World) (ha : a.size ≤ maxLen) (hb : b.size ≤ maxLen) (hc : c.size ≤ maxLen) :
    Calls Tryd.prog 10 #[.string a, .string b, .string c] w fun e w' => IsBool e ∧ w' = w := by
  have ha' : a.size ≤ 2 ^ 63 - 1 := ha
  have hb' : b.size ≤ 2 ^ 63 - 1 := hb
  have hc' : c.size ≤ 2 ^ 63 - 1 := hc
  clear ha hb hc
  go_enter Tryd.func10, Tryd.ntmps10
  go_wp2
  all_goals
    go_ret
    exact ⟨isBool _, rfl⟩

theorem app_list (a b : ByteArray) : (a ++ b).data.toList = a.data.toList ++ b.data.toList := by
  rw [ByteArray.data_append]
  simp
theorem below_trans {w w1 w2 : World} (h : Below w.heap.size w w1) (h' : Below w1.heap.size w1 w2) : Below w.heap.size w w2 := h.trans (h'.mono h.size)

theorem pre91 (l m : List UInt8) : Lib.hasPrefix (l ++ 58 :: m) [91] = true → ∃ r, l = 91 :: r := by
  cases l with
  | nil => simp [Lib.hasPrefix, List.isPrefixOf]
  | cons x r =>
    intro h
    simp [Lib.hasPrefix, List.isPrefixOf] at h
    exact ⟨r, by rw [h]⟩
theorem suf93 (l m : List UInt8) : Lib.hasSuffix (l ++ 58 :: m) [93] = true → ∃ r, m = r ++ [93] := by
  intro h
  unfold Lib.hasSuffix at h
  rw [List.isSuffixOf_iff_suffix] at h
  obtain ⟨t, ht⟩ := h
  rcases List.eq_nil_or_concat m with rfl | ⟨r, x, rfl⟩
  · have := congrArg List.getLast? ht
    simp at this
  · rw [List.concat_eq_append] at ht ⊢
    have e : l ++ 58 :: (r ++ [x]) = (l ++ 58 :: r) ++ [x] := by simp
    rw [e] at ht
    have := (List.append_inj' ht rfl).2
    exact ⟨r, by rw [this]⟩
theorem not_boxed (a b : ByteArray) (h : ∀ (h1 : 0 < a.size) (h2 : 0 < b.size), a[0].toNat = 91 → b[b.size - 1].toNat = 93 → False) : boxed (a.data.toList ++ 58 :: b.data.toList) = false := by
  rw [Bool.eq_false_iff]
  intro hx
  unfold boxed at hx
  rw [Bool.and_eq_true] at hx
  obtain ⟨r, hr⟩ := pre91 _ _ hx.1
  obtain ⟨q, hq⟩ := suf93 _ _ hx.2
  have h1 : 0 < a.size := by
    have : a.data.toList.length = _ := congrArg List.length hr
    rw [Array.length_toList] at this
    show 0 < a.data.size
    rw [this]
    simp
  have h2 : b.size = q.length + 1 := by
    have : b.data.toList.length = _ := congrArg List.length hq
    rw [Array.length_toList] at this
    show b.data.size = _
    rw [this]
    simp
  refine h h1 (by omega) ?_ ?_
  · have e : a[0] = a.data.toList[0]'(by simpa using h1) := rfl
    rw [e]
    simp only [hr]
    rfl
  · have e : b[b.size - 1] = b.data.toList[b.size - 1]'(by simp; omega) := rfl
    rw [e]
    simp only [hq, h2]
    simp
theorem verdict_bare (a b : List UInt8) (c : List UInt8) (h : boxed (a ++ 58 :: b) = false) : verdict (a ++ 58 :: b) c = false := by
  unfold verdict
  rw [h]
  have : (a ++ 58 :: b).any isColon = true := by simp [isColon]
  rw [this]
  rfl
theorem boxed_yes (h : List UInt8) : boxed ([91] ++ (h ++ [93])) = true := by
  unfold boxed Lib.hasPrefix Lib.hasSuffix
  rw [Bool.and_eq_true, List.isPrefixOf_iff_prefix, List.isSuffixOf_iff_suffix]
  exact ⟨⟨_, rfl⟩, ⟨[91] ++ h, by simp⟩⟩
theorem verdict_boxed (h c : List UInt8) : verdict ([91] ++ (h ++ [93])) c = c.any nonDig := by
  unfold verdict
  rw [boxed_yes]
  simp
theorem verdict_plain (h c : List UInt8) (hc : h.any isColon = false) : verdict h c = c.any nonDig := by
  unfold verdict
  rw [hc]
  rfl

theorem dig_colon {l : List UInt8} (h : l.any nonDig = false) : l.any isColon = false := by
  rw [List.any_eq_false] at h ⊢
  intro x hx
  have := h x hx
  simp [nonDig] at this
  simp [isColon]
  omega

set_option maxHeartbeats 1000000 in
theorem law4 (a b c : ByteArray) (w : World) (ha : a.size ≤ maxLen) (hb : b.size ≤ maxLen) (hc : c.size ≤ maxLen) :
    Calls Tryd.prog 4 #[.string a, .string b, .string c] w fun e w' => e = .returned (.bool true) ∧ Below w.heap.size w w' := by
  have hby := bytes10 a b c w ha hb hc
  have HC : Hid (c.size ≤ maxLen) := hc
  have ha' : a.size ≤ 2 ^ 63 - 1 := ha
  have hb' : b.size ≤ 2 ^ 63 - 1 := hb
  have hc' : c.size ≤ 2 ^ 63 - 1 := hc
  clear ha hb hc
  have HBX : Hid (boxed ([91] ++ ((a.data.toList ++ 58 :: b.data.toList) ++ [93])) = true) := boxed_yes _
  go_enter Tryd.func4, Tryd.ntmps4
  go_wp2_with fail
  refine hby.mono ?_
  rintro e w1 ⟨⟨r, rfl⟩, hw⟩
  subst hw
  clear hby
  cases r
  · go_wp2_with fail
    go_ret
    exact ⟨rfl, Below.refl _ _⟩
  by_cases h1 : (65536 : Int) < a.size
  · go_wp2_with fail
    go_ret
    exact ⟨rfl, Below.refl _ _⟩
  by_cases h2 : (65536 : Int) < b.size
  · go_wp2_with fail
    go_ret
    exact ⟨rfl, Below.refl _ _⟩
  by_cases h3 : (65536 : Int) < c.size
  · go_wp2_with fail
    go_ret
    exact ⟨rfl, Below.refl _ _⟩
  go_wp2_with fail
  refine (hasColon_any c _ HC.out).mono ?_
  rintro e w2 ⟨rfl, hw⟩
  subst hw
  rcases Bool.eq_false_or_eq_true (c.data.toList.any isColon) with hcol | hcol
  · rw [hcol]
    go_wp2_with fail
    go_ret
    exact ⟨rfl, Below.refl _ _⟩
  rw [hcol]
  have HCOL : Hid (c.data.toList.any isColon = false) := hcol
  clear hcol
  go_wp2_with fail
  · go_ret
    exact ⟨rfl, Below.refl _ _⟩
  all_goals
    have hnb : boxed (a.data.toList ++ 58 :: b.data.toList) = false := not_boxed a b (fun q1 q2 q3 q4 => by
      first
        | omega
        | exact absurd (by assumption : ((b[b.size - 1].toNat : Int) == 93) = false) (by simp [q4]))
    refine (port_any _ (a.data.toList ++ 58 :: b.data.toList) c.data.toList _ (by simp) HCOL.out (by simp; omega)).mono ?_
    rintro e w3 ⟨rfl, hb3⟩
    rw [verdict_bare _ _ _ hnb]
    clear hnb
    go_wp2_with fail
    refine (port_any _ ([91] ++ ((a.data.toList ++ 58 :: b.data.toList) ++ [93])) c.data.toList _ (by simp) HCOL.out (by simp; omega)).mono ?_
    rintro e w4 ⟨rfl, hb4⟩
    rw [verdict_boxed]
    go_wp2_with fail
    refine (nonDig_any c _ HC.out).mono ?_
    rintro e w5 ⟨rfl, hw⟩
    subst hw
    go_wp2_with fail
    go_ret
    exact ⟨ret_bool (by simp), below_trans hb3 hb4⟩

set_option maxHeartbeats 1000000 in
theorem law3 (a b c : ByteArray) (d : Bool) (w : World) (ha : a.size ≤ maxLen) (hb : b.size ≤ maxLen) (hc : c.size ≤ maxLen) :
    Calls Tryd.prog 3 #[.string a, .string b, .string c, .bool d] w fun e w' => e = .returned (.bool true) ∧ Below w.heap.size w w' := by
  have hby := bytes5 a b c d w ha hb hc
  have HA : Hid (a.size ≤ maxLen) := ha
  have HB : Hid (b.size ≤ maxLen) := hb
  have HC : Hid (c.size ≤ maxLen) := hc
  have ha' : a.size ≤ 2 ^ 63 - 1 := ha
  have hb' : b.size ≤ 2 ^ 63 - 1 := hb
  have hc' : c.size ≤ 2 ^ 63 - 1 := hc
  clear ha hb hc
  go_enter Tryd.func3, Tryd.ntmps3
  go_wp2_with fail
  refine hby.mono ?_
  rintro e w1 ⟨⟨r, rfl⟩, hw⟩
  subst hw
  clear hby
  cases r
  · go_wp2_with fail
    go_ret
    exact ⟨rfl, Below.refl _ _⟩
  by_cases h1 : (65536 : Int) < a.size
  · go_wp2_with fail
    go_ret
    exact ⟨rfl, Below.refl _ _⟩
  by_cases h2 : (65536 : Int) < b.size
  · go_wp2_with fail
    go_ret
    exact ⟨rfl, Below.refl _ _⟩
  by_cases h3 : (65536 : Int) < c.size
  · go_wp2_with fail
    go_ret
    exact ⟨rfl, Below.refl _ _⟩
  go_wp2_with fail
  refine (hasColon_any b _ HB.out).mono ?_
  rintro e w2 ⟨rfl, hw⟩
  subst hw
  rcases Bool.eq_false_or_eq_true (b.data.toList.any isColon) with hcol | hcol
  · rw [hcol]
    go_wp2_with fail
    go_ret
    exact ⟨rfl, Below.refl _ _⟩
  rw [hcol]
  have HCOL : Hid (b.data.toList.any isColon = false) := hcol
  clear hcol
  go_wp2_with fail
  refine (allDig_any c _ HC.out).mono ?_
  rintro e w3 ⟨rfl, hw⟩
  subst hw
  rcases Bool.eq_false_or_eq_true (c.data.toList.any nonDig) with hdig | hdig
  · rw [hdig]
    go_wp2_with fail
    go_ret
    exact ⟨rfl, Below.refl _ _⟩
  rw [hdig]
  have HDIG : Hid (c.data.toList.any nonDig = false) := hdig
  clear hdig
  have HDC : Hid (c.data.toList.any isColon = false) := dig_colon HDIG.out
  have HC1 : Hid ((b.data.toList ++ c.data.toList).any isColon = false) := by show _ = _; rw [List.any_append, HCOL.out, HDC.out]; rfl
  have HC2 : Hid ((c.data.toList ++ b.data.toList).any isColon = false) := by show _ = _; rw [List.any_append, HCOL.out, HDC.out]; rfl
  have HV1 : Hid ((b.data.toList ++ c.data.toList).any nonDig = b.data.toList.any nonDig) := by show _ = _; rw [List.any_append, HDIG.out, Bool.or_false]
  have HV2 : Hid ((c.data.toList ++ b.data.toList).any nonDig = b.data.toList.any nonDig) := by show _ = _; rw [List.any_append, HDIG.out, Bool.false_or]
  cases d
  · go_wp2_with fail
    refine (hasColon_any a _ HA.out).mono ?_
    rintro e w4 ⟨rfl, hw⟩
    subst hw
    rcases Bool.eq_false_or_eq_true (a.data.toList.any isColon) with hcol | hcol
    · rw [hcol]
      go_wp2_with fail
      go_ret
      exact ⟨rfl, Below.refl _ _⟩
    rw [hcol]
    have HVP : Hid (∀ p, verdict a.data.toList p = p.any nonDig) := fun p => verdict_plain _ _ hcol
    clear hcol
    go_wp2_with fail
    refine (nonDig_any b _ HB.out).mono ?_
    rintro e w5 ⟨rfl, hw⟩
    subst hw
    go_wp2_with fail
    refine (port_any _ a.data.toList b.data.toList _ (by simp) HCOL.out (by simp; omega)).mono ?_
    rintro e w6 ⟨rfl, hb6⟩
    rw [HVP.out]
    go_wp2_with fail
    refine (port_any _ [] b.data.toList _ (by simp) HCOL.out (by simp; omega)).mono ?_
    rintro e w7 ⟨rfl, hb7⟩
    rw [verdict_plain _ _ rfl]
    go_wp2_with fail
    refine (port_any _ a.data.toList (b.data.toList ++ c.data.toList) _ (by simp) HC1.out (by simp; omega)).mono ?_
    rintro e w8 ⟨rfl, hb8⟩
    rw [HVP.out, HV1.out]
    go_wp2_with fail
    refine (port_any _ a.data.toList (c.data.toList ++ b.data.toList) _ (by simp) HC2.out (by simp; omega)).mono ?_
    rintro e w9 ⟨rfl, hb9⟩
    rw [HVP.out, HV2.out]
    have hend := below_trans (below_trans (below_trans hb6 hb7) hb8) hb9
    clear hb6 hb7 hb8 hb9
    go_wp2_with fail
    go_ret
    exact ⟨ret_bool (by simp), hend⟩
  · go_wp2_with fail
    refine (nonDig_any b _ HB.out).mono ?_
    rintro e w5 ⟨rfl, hw⟩
    subst hw
    go_wp2_with fail
    refine (port_any _ ([91] ++ (a.data.toList ++ [93])) b.data.toList _ (by simp) HCOL.out (by simp; omega)).mono ?_
    rintro e w6 ⟨rfl, hb6⟩
    rw [verdict_boxed]
    go_wp2_with fail
    refine (port_any _ [] b.data.toList _ (by simp) HCOL.out (by simp; omega)).mono ?_
    rintro e w7 ⟨rfl, hb7⟩
    rw [verdict_plain _ _ rfl]
    go_wp2_with fail
    refine (port_any _ ([91] ++ (a.data.toList ++ [93])) (b.data.toList ++ c.data.toList) _ (by simp) HC1.out (by simp; omega)).mono ?_
    rintro e w8 ⟨rfl, hb8⟩
    rw [verdict_boxed, HV1.out]
    go_wp2_with fail
    refine (port_any _ ([91] ++ (a.data.toList ++ [93])) (c.data.toList ++ b.data.toList) _ (by simp) HC2.out (by simp; omega)).mono ?_
    rintro e w9 ⟨rfl, hb9⟩
    rw [verdict_boxed, HV2.out]
    have hend := below_trans (below_trans (below_trans hb6 hb7) hb8) hb9
    clear hb6 hb7 hb8 hb9
    go_wp2_with fail
    go_ret
    exact ⟨ret_bool (by simp), hend⟩
end Go.Proofs.Qxb6003650aDoor
