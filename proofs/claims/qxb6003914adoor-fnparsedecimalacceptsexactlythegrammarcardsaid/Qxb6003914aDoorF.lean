/-
  The law (5), walked, from what parseDecimal hands back.
-/
import Derived.Test.Qxb6003914aDoorD
namespace Go.Proofs.Qxb6003914aDoor
open Go.RowKit

theorem bytes15 (s : ByteArray) (w : World) (hs : s.size ≤ maxLen) : Calls Tryd.prog 15 #[.string s] w fun e w' => (∃ r, e = .returned (.bool r)) ∧ w' = w := by
  have hs' : s.size ≤ 2 ^ 63 - 1 := hs
  clear hs
  go_enter Tryd.func15, Tryd.ntmps15
  go_wp2
  all_goals
    go_ret
    exact ⟨⟨_, rfl⟩, rfl⟩
theorem parts11 (neg : Bool) (a b : ByteArray) (p : Int) (w : World) : Calls Tryd.prog 11 #[.agg #[.bool neg, .string a, .string b, .int .i64 p]] w fun e w' => e = .returned (.tuple #[.bool neg, .string a, .string b, .int .i64 p]) ∧ Below w.heap.size w w' := by
  go_enter Tryd.func11, Tryd.ntmps11
  go_wp2
  go_quiet (fail)
  go_wp2
  refine bodyPost_ret (v := .tuple #[.bool neg, .string a, .string b, .int .i64 p]) (by simp [results, Tryd.results11, go_sem]) rfl ?_
  exact ⟨rfl, below_drewN ((Below.refl _ _).alloc (Nat.le_refl _) _) _⟩

theorem heap_new (w : World) (o : Obj) : (w.alloc o).heap[w.heap.size]? = some o := by
  show (w.heap.push o)[w.heap.size]? = some o
  simp
/-- The contract of parseDecimal, as the law takes it. -/
def ParseAny : Prop := ∀ (s : ByteArray) (w : World), s.size ≤ 1048576 → Calls Tryd.prog 18 #[.string s] w fun e w' => Parsed s.data.toList e ∧ Below w.heap.size w w'

set_option maxHeartbeats 1000000 in
theorem parse10 (HP : ParseAny) (s : ByteArray) (w : World) (hs : s.size ≤ 1048576) : Calls Tryd.prog 10 #[.string s] w fun e w' => Parsed s.data.toList e ∧ Below w.heap.size w w' := by
  have hp := HP s (w.alloc (.cells #[.bool false, .string ⟨#[]⟩, .string ⟨#[]⟩, .int .i64 0] 28)) hs
  clear HP
  go_enter Tryd.func10, Tryd.ntmps10
  go_wp2_with fail
  refine hp.mono ?_
  rintro e w1 ⟨⟨neg, a, b, p, ok, rfl, h1, h2, h3, h4⟩, hb⟩
  have HH : Hid (ok = numOk (unneg s.data.toList) ∧ (ok = true → GoodDec s.data.toList neg a.data.toList b.data.toList p) ∧ a.size ≤ 1048576 ∧ b.size ≤ 1048576) := ⟨h1, h2, h3, h4⟩
  have hg : w1.heap[w.heap.size]? = some (.cells #[.bool false, .string ⟨#[]⟩, .string ⟨#[]⟩, .int .i64 0] 28 (0, 0)) := (hb.block _ (by simp)).trans (heap_new _ _)
  have c0 : w1.cell? ⟨w.heap.size, 0, none⟩ = some (.bool false) := by simp [World.cell?, hg]
  have c1 : w1.cell? ⟨w.heap.size, 1, none⟩ = some (.string ⟨#[]⟩) := by simp [World.cell?, hg]
  have c2 : w1.cell? ⟨w.heap.size, 2, none⟩ = some (.string ⟨#[]⟩) := by simp [World.cell?, hg]
  have c3 : w1.cell? ⟨w.heap.size, 3, none⟩ = some (.int .i64 0) := by simp [World.cell?, hg]
  have f0 := frozen_of_row w1 w.heap.size 0 _ _ hg
  have f1 := frozen_of_row w1 w.heap.size 1 _ _ hg
  have f2 := frozen_of_row w1 w.heap.size 2 _ _ hg
  have f3 := frozen_of_row w1 w.heap.size 3 _ _ hg
  have HB : Hid (Below w.heap.size w w1) := ((Below.refl _ _).alloc (Nat.le_refl _) _).trans (hb.mono (by simp))
  clear hp h1 h2 h3 h4 hb hg
  go_wp2_with fail
  refine bodyPost_ret (v := .tuple #[.agg #[.bool neg, .string a, .string b, .int .i64 p], .bool ok]) (by simp [results, Tryd.results10, go_sem, c0, c1, c2, c3]) rfl ?_
  exact ⟨⟨neg, a, b, p, ok, rfl, HH.out.1, HH.out.2.1, HH.out.2.2⟩, (((HB.out.setCell (Nat.le_refl _) _).setCell (Nat.le_refl _) _).setCell (Nat.le_refl _) _).setCell (Nat.le_refl _) _⟩

theorem app_facts (a b : ByteArray) (hp : 0 < (a ++ b).size) (hg : GoodDigits (a.data.toList ++ b.data.toList)) :
    (a ++ b).data.toList.all isDig = true ∧ (∃ h : 0 < (a ++ b).size, (a ++ b)[0].toNat ≠ 48) ∧ ∀ h : (a ++ b).size - 1 < (a ++ b).size, (a ++ b)[(a ++ b).size - 1].toNat ≠ 48 := by
  have e : (a ++ b).data.toList = a.data.toList ++ b.data.toList := by rw [ByteArray.data_append]; simp
  rw [← e] at hg
  have hl : (a ++ b).data.toList.length = (a ++ b).size := Array.length_toList
  refine ⟨hg.1, ⟨hp, hg.2.1 _ (by rw [list_cons _ hp]; rfl)⟩, fun h => hg.2.2 _ ?_⟩
  rw [List.getLast?_eq_getElem?, List.getElem?_eq_getElem (by rw [hl]; exact h)]
  simp only [hl]
  rfl

set_option maxHeartbeats 2000000 in
theorem law5 (HP : ParseAny) (s : ByteArray) (w : World) (hs : s.size ≤ maxLen) : Calls Tryd.prog 5 #[.string s] w fun e w' => e = .returned (.bool true) ∧ Below w.heap.size w w' := by
  have hby := bytes15 s w hs
  have hgr := fun w => grammar_any s w hs
  have HGR : Hid (∀ w, Calls Tryd.prog 16 #[.string s] w fun e w' => e = .returned (.bool (run 0 s.data.toList)) ∧ w' = w) := hgr
  have HPP : Hid ParseAny := HP
  have hs' : s.size ≤ 2 ^ 63 - 1 := hs
  clear hs hgr HP
  go_enter Tryd.func5, Tryd.ntmps5
  go_wp2_with fail
  refine hby.mono ?_
  rintro e w1 ⟨⟨r, rfl⟩, hw⟩
  subst hw
  clear hby
  cases r
  · go_wp2_with fail
    go_ret
    exact ⟨rfl, Below.refl _ _⟩
  by_cases h1 : (1048576 : Int) < s.size
  · go_wp2_with fail
    go_ret
    exact ⟨rfl, Below.refl _ _⟩
  go_wp2_with fail
  refine (parse10 HPP.out s _ (by omega)).mono ?_
  rintro e w2 ⟨⟨neg, a, b, p, ok, rfl, hk1, hk2, hza, hzb⟩, hb2⟩
  have HK1 : Hid (ok = numOk (unneg s.data.toList)) := hk1
  have HK2 : Hid (ok = true → GoodDec s.data.toList neg a.data.toList b.data.toList p) := hk2
  clear hk1 hk2
  have HB2 : Hid (Below w1.heap.size w1 w2) := hb2
  clear hb2
  go_wp2_with fail
  refine (HGR.out _).mono ?_
  rintro e w3 ⟨rfl, rfl⟩
  rw [run0, ← HK1.out]
  have HB3 : Hid (Below w1.heap.size w1 (w2.alloc (.cells #[.bool neg, .string a, .string b, .int .i64 p] 28))) := HB2.out.alloc HB2.out.size _
  cases ok
  · go_wp2_with fail
    go_ret
    exact ⟨rfl, HB3.out⟩
  have HG := HK2.out rfl
  go_wp2_with fail
  refine (parts11 _ _ _ _ _).mono ?_
  rintro e w4 ⟨rfl, hb4⟩
  have HB4 : Hid (Below w1.heap.size w1 w4) := HB3.out.trans (hb4.mono HB3.out.size)
  clear hb4 HB2 HB3
  have HAB : Hid ((a ++ b).toList = a.data.toList ++ b.data.toList) := by show _ = _; rw [ByteArray.toList_eq, ByteArray.data_append]; simp
  rcases Bool.eq_false_or_eq_true (a ++ b).toList.isEmpty with he | he
  · have hz := HG.1 (by rw [← HAB.out]; exact List.isEmpty_iff.1 he)
    obtain ⟨rfl, rfl⟩ := hz
    go_wp2_with fail
    go_ret
    exact ⟨rfl, HB4.out⟩
  · have hg := HG.2 (fun e => by rw [← HAB.out] at e; rw [e] at he; cases he)
    have hp : 0 < s.size := by
      rcases Nat.eq_zero_or_pos s.size with h | h
      · have := HK1.out
        rw [list_nil s (by omega)] at this
        cases this
      · exact h
    have hDp : 0 < (a ++ b).size := by
      rcases Nat.eq_zero_or_pos (a ++ b).size with h | h
      · rw [empty_yes _ (by omega)] at he
        cases he
      · exact h
    obtain ⟨hD, hDh, hDl⟩ := app_facts a b hDp hg.2
    have HD : Hid ((a ++ b).data.toList.all isDig = true) := hD
    have HDH : Hid (∃ h : 0 < (a ++ b).size, (a ++ b)[0].toNat ≠ 48) := hDh
    have HDL : Hid (∀ h : (a ++ b).size - 1 < (a ++ b).size, (a ++ b)[(a ++ b).size - 1].toNat ≠ 48) := hDl
    have HDS : Hid ((a ++ b).size ≤ 2097152) := by show _ ≤ _; rw [ByteArray.size_append]; omega
    have hn : neg = decide (s[0].toNat = 45) := by rw [hg.1, list_cons s hp]; rfl
    clear hg hD HG hDh hDl hDp
    by_cases hm : s[0].toNat = 45
    · obtain rfl : neg = true := by rw [hn]; simp [hm]
      clear hn
      go_wp2_with fail
      generalize a ++ b = D at *
      refine (isDigits_any D _ (by have := HDS.out; unfold maxLen; omega) HD.out).mono ?_
      rintro e w5 ⟨rfl, rfl⟩
      obtain ⟨h0, hh⟩ := HDH.out
      have hl := HDL.out (by omega)
      have hds := HDS.out
      have b0 : ((D[0].toNat : Int) == 48) = false := by rw [beq_eq_false_iff_ne]; omega
      have b1 : ((D[D.size - 1].toNat : Int) == 48) = false := by rw [beq_eq_false_iff_ne]; omega
      have hi0 : ¬ ((D[0].toNat : Int) = 48) := by omega
      have hi1 : ¬ ((D[D.size - 1].toNat : Int) = 48) := by omega
      clear HAB HDH HDL HDS HD
      go_wp2_with fail
      go_ret
      exact ⟨ret_bool (by simp [hi0, hi1]), HB4.out⟩
    · obtain rfl : neg = false := by rw [hn]; simp [hm]
      clear hn
      go_wp2_with fail
      generalize a ++ b = D at *
      refine (isDigits_any D _ (by have := HDS.out; unfold maxLen; omega) HD.out).mono ?_
      rintro e w5 ⟨rfl, rfl⟩
      obtain ⟨h0, hh⟩ := HDH.out
      have hl := HDL.out (by omega)
      have hds := HDS.out
      have b0 : ((D[0].toNat : Int) == 48) = false := by rw [beq_eq_false_iff_ne]; omega
      have b1 : ((D[D.size - 1].toNat : Int) == 48) = false := by rw [beq_eq_false_iff_ne]; omega
      have hi0 : ¬ ((D[0].toNat : Int) = 48) := by omega
      have hi1 : ¬ ((D[D.size - 1].toNat : Int) = 48) := by omega
      clear HAB HDH HDL HDS HD
      go_wp2_with fail
      go_ret
      exact ⟨ret_bool (by simp [hi0, hi1]), HB4.out⟩
end Go.Proofs.Qxb6003914aDoor
