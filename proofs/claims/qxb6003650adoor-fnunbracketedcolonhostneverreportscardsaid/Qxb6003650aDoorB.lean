/-
  portIsNotANumber (11, 9) at 'host:port', the port without a colon.
-/
import Derived.Test.Qxb6003650aDoorA
import Derived.Lib.IndexBytes
namespace Go.Proofs.Qxb6003650aDoor
open Go.RowKit

theorem colon_index : ∀ l : List UInt8, decide (0 ≤ Lib.indexByte l 58) = l.any isColon
  | [] => by decide
  | b :: l => by
    have ih := colon_index l
    have hge := Lib.indexByte_ge l 58
    have hb : (b == 58) = isColon b := by
      rw [Bool.eq_iff_iff, beq_iff_eq, ← UInt8.toNat_inj]
      simp [isColon]
    rw [List.any_cons, ← ih, Lib.indexByte, hb]
    cases h : isColon b
    · by_cases h1 : Lib.indexByte l 58 = -1
      · simp [h1]
      · simp [h1]
        have : 0 ≤ Lib.indexByte l 58 := by omega
        simp [this]
        omega
    · simp
theorem digs_contains (c : UInt8) : ([48, 49, 50, 51, 52, 53, 54, 55, 56, 57] : List UInt8).contains c = !nonDig c := by
  rw [Bool.eq_iff_iff, List.contains_iff_mem]
  simp only [nonDig, Bool.not_eq_true', decide_eq_false_iff_not, List.mem_cons, List.not_mem_nil, or_false]
  constructor
  · rintro (rfl | rfl | rfl | rfl | rfl | rfl | rfl | rfl | rfl | rfl) <;> decide
  · intro h
    simp only [← UInt8.toNat_inj]
    have h1 : 48 ≤ c.toNat ∧ c.toNat ≤ 57 := by omega
    generalize c.toNat = m at *
    simp
    omega
theorem dropWhile_nil (p : UInt8 → Bool) : ∀ l : List UInt8, l.dropWhile p = [] ↔ l.all p = true
  | [] => by simp
  | c :: r => by
    rw [List.dropWhile_cons, List.all_cons]
    cases h : p c
    · simp
    · simp [dropWhile_nil p r]
theorem trim_nil (cs l : List UInt8) : Lib.trimS l cs = [] ↔ l.all (cs.contains ·) = true := by
  unfold Lib.trimS Lib.trimLeftS
  rw [dropWhile_nil]
  unfold Lib.trimRightS
  rw [List.all_reverse]
  constructor
  · intro h
    have key : ∀ m : List UInt8, (m.dropWhile (cs.contains ·)).all (cs.contains ·) = true → m.all (cs.contains ·) = true := by
      intro m
      induction m with
      | nil => simp
      | cons c r ih =>
        rw [List.dropWhile_cons, List.all_cons]
        cases hc : cs.contains c
        · rw [if_neg (by simp), List.all_cons, hc]
          exact id
        · rw [if_pos rfl, Bool.true_and]
          exact ih
    have := key _ h
    rwa [List.all_reverse] at this
  · intro h
    rw [(dropWhile_nil (cs.contains ·) l.reverse).2 (by rw [List.all_reverse]; exact h)]
    rfl
theorem ascii_of_all {l : List UInt8} (h : l.all (fun b => decide (b.toNat < 128)) = true) : ∀ (j : Nat) b, l[j]? = some b → b.toNat < 128 := by
  intro j b hj
  have := List.all_eq_true.1 h b (List.mem_of_getElem? hj)
  simpa using this

/-- strings.Trim at the digits: is what is left empty? -/
theorem trim_any (s : ByteArray) (w : World) (hs : s.size ≤ 9223372036854775807) :
    Calls Tryd.prog 16 #[.string s, .string ⟨#[48, 49, 50, 51, 52, 53, 54, 55, 56, 57]⟩] w fun e w' => ∃ t : ByteArray, e = .returned (.string t) ∧ t.toList.isEmpty = !s.data.toList.any nonDig ∧ Below w.heap.size w w' := by
  refine (Any.strings_Trim_laid Tryd.lays160 (by kernel_rfl) s ⟨#[48, 49, 50, 51, 52, 53, 54, 55, 56, 57]⟩ w hs (by decide) (ascii_of_all (by decide))).mono ?_
  rintro e w' ⟨rfl, hb⟩
  refine ⟨_, rfl, ?_, hb⟩
  rw [ByteArray.toList_eq, Bool.eq_iff_iff, List.isEmpty_iff]
  refine (trim_nil _ _).trans ?_
  show s.data.toList.all (fun c => ([48, 49, 50, 51, 52, 53, 54, 55, 56, 57] : List UInt8).contains c) = true ↔ _
  simp only [digs_contains]
  rw [List.not_any_eq_all_not]

theorem bang_get (s : ByteArray) (j : Nat) (h : j < s.data.toList.length) : s.data[j]! = s.data.toList[j] := by
  have : j < s.data.size := by simpa using h
  rw [getElem!_pos s.data j this]
  rfl
/-- The last colon of host:port. -/
theorem last_colon (s : ByteArray) (H p : List UInt8) (hs : s.data.toList = H ++ 58 :: p) (hp : p.any isColon = false) : Lib.lastIndexByte s 58 = H.length := by
  have hsz : s.size = H.length + 1 + p.length := by
    have : s.data.toList.length = _ := congrArg List.length hs
    rw [List.length_append, List.length_cons, Array.length_toList] at this
    show s.data.size = _
    omega
  have hat : ∀ j (h : j < s.data.toList.length), s.data[j]! = (H ++ 58 :: p)[j]'(by rw [← hs]; exact h) := fun j h => by
    rw [bang_get s j h]
    simp only [hs]
  have hlen : s.data.toList.length = s.size := by simp
  have hmid : s.data[H.length]! = 58 := by
    rw [hat _ (by omega)]
    simp
  have hbeh : ∀ j, H.length < j → j < s.size → ((s.data[j]!).toNat : Int) ≠ 58 := by
    intro j h1 h2 he
    rw [hat j (by omega), List.getElem_append_right (by omega)] at he
    rw [List.getElem_cons, dif_neg (by omega)] at he
    have : p.any isColon = true := List.any_eq_true.2 ⟨_, List.getElem_mem _, by simp only [isColon, decide_eq_true_eq]; exact Int.ofNat_inj.1 he⟩
    rw [hp] at this
    cases this
  rcases Lib.lastIndexByte_spec s 58 with ⟨-, h2⟩ | ⟨i, hi, h1, h2, h3⟩
  · exact absurd (by rw [hmid]; rfl) (h2 H.length (by omega))
  · rw [h1]
    rcases Nat.lt_trichotomy i H.length with h | h | h
    · exact absurd (by rw [hmid]; rfl) (h3 H.length h (by omega))
    · rw [h]
    · exact absurd h2 (hbeh i h hi)

/-- The host is set in brackets. -/
def boxed (H : List UInt8) : Bool := Lib.hasPrefix H [91] && Lib.hasSuffix H [93]
/-- What portIsNotANumber answers at host:port. -/
def verdict (H p : List UInt8) : Bool := if H.any isColon && !boxed H then false else p.any nonDig
theorem any_nil_of_empty {t : ByteArray} {p : UInt8 → Bool} (h : t.toList.isEmpty = true) : t.data.toList.any p = false := by
  rw [ByteArray.toList_eq, List.isEmpty_iff] at h
  rw [h]
  rfl

set_option maxHeartbeats 1000000 in
theorem port11 (s : ByteArray) (H p : List UInt8) (w : World) (hs : s.data.toList = H ++ 58 :: p) (hp : p.any isColon = false) (hb : s.size ≤ 1048576) :
    Calls Tryd.prog 11 #[.string s] w fun e w' => e = .returned (.bool (verdict H p)) ∧ Below w.heap.size w w' := by
  have hsz : s.size = H.length + 1 + p.length := by
    have : s.data.toList.length = _ := congrArg List.length hs
    rw [List.length_append, List.length_cons, Array.length_toList] at this
    show s.data.size = _
    omega
  have hlast := last_colon s H p hs hp
  have eh : (s.extract 0 H.length).data.toList = H := by rw [Lib.extract_data]; simp [hs]
  have ep : (s.extract (H.length + 1) s.size).data.toList = p := by rw [Lib.extract_to_end, hs]; simp
  have eps : (s.extract (H.length + 1) s.size).size = p.length := by
    have : (s.extract (H.length + 1) s.size).data.toList.length = _ := congrArg List.length ep
    simpa using this
  generalize hm : H.length = m at *
  have hlast' : Lib.lastIndexByte s ((((⟨#[58]⟩ : ByteArray))[0]'(by decide)).toNat : Int) = (m : Int) := hlast
  have HL : Hid (Lib.lastIndexByte s ((((⟨#[58]⟩ : ByteArray))[0]'(by decide)).toNat : Int) = (m : Int)) := hlast'
  have HEH : Hid ((s.extract 0 m).data.toList = H) := eh
  have HEP : Hid ((s.extract (m + 1) s.size).data.toList = p) := ep
  clear hs hp hlast hlast' eh ep
  go_enter Tryd.func11, Tryd.ntmps11
  go_wp2_with fail
  refine (Any.strings_LastIndex_one Tryd.lays148 s ⟨#[58]⟩ rfl (by omega) w).mono ?_
  rintro e w1 ⟨rfl, hw⟩
  subst hw
  rw [HL.out]
  clear HL
  go_wp2_with fail
  go_quiet (fail)
  go_wp2_with fail
  rw [hsz] at HEP eps
  have ehs : (s.extract 0 m).size = m := by
    have : (s.extract 0 m).data.toList.length = _ := congrArg List.length HEH.out
    rw [hm] at this
    simpa using this
  generalize s.extract 0 m = Hs at *
  generalize s.extract (m + 1) (m + 1 + p.length) = Ps at *
  have HBD : Hid (Below w1.heap.size w1 (w1.drewN nq)) := below_drewN (Below.refl _ _) nq
  generalize w1.drewN nq = w2 at *
  refine (Any.strings_Contains_one Tryd.lays144 Hs 58 w2).mono ?_
  rintro e w3 ⟨rfl, hw⟩
  subst hw
  rw [colon_index, HEH.out]
  have hpe : Ps.toList.isEmpty = true → p.any nonDig = false := fun h => by rw [← HEP.out]; exact any_nil_of_empty h
  have HPE : Hid (Ps.toList.isEmpty = true → p.any nonDig = false) := hpe
  clear hpe
  have HPS : Hid (Ps.size ≤ 9223372036854775807) := by show _ ≤ _; omega
  have HHS : Hid (Hs.size ≤ 9223372036854775807) := by show _ ≤ _; omega
  clear eps ehs hb hsz
  cases hcol : H.any isColon
  · have HV : Hid (verdict H p = p.any nonDig) := by show _ = _; unfold verdict; rw [hcol]; rfl
    cases hpq : Ps.toList.isEmpty
    · go_wp2_with fail
      refine (trim_any Ps w3 HPS.out).mono ?_
      rintro e w4 ⟨t, rfl, ht, hb4⟩
      rw [HEP.out] at ht
      go_wp2_with fail
      go_ret
      exact ⟨ret_bool (by rw [HV.out]), HBD.out.trans (hb4.mono HBD.out.size)⟩
    · go_wp2_with fail
      go_ret
      exact ⟨ret_bool (by rw [HV.out, HPE.out hpq]), HBD.out⟩
  · go_wp2_with fail
    refine (Any.strings_HasPrefix Tryd.lays99 Hs ⟨#[91]⟩ w3).mono ?_
    rintro e w4 ⟨rfl, hw⟩
    subst hw
    rw [HEH.out]
    cases hpre : Lib.hasPrefix H [91]
    · have HV : Hid (verdict H p = false) := by show _ = _; unfold verdict boxed; rw [hcol, hpre]; rfl
      go_wp2_with fail
      go_ret
      exact ⟨ret_bool HV.out.symm, HBD.out⟩
    · go_wp2_with fail
      refine (Any.strings_HasSuffix Tryd.lays100 Hs ⟨#[93]⟩ w4 HHS.out).mono ?_
      rintro e w5 ⟨rfl, hw⟩
      subst hw
      rw [HEH.out]
      cases hsuf : Lib.hasSuffix H [93]
      · have HV : Hid (verdict H p = false) := by show _ = _; unfold verdict boxed; rw [hcol, hpre, hsuf]; rfl
        go_wp2_with fail
        go_ret
        exact ⟨ret_bool HV.out.symm, HBD.out⟩
      · have HV : Hid (verdict H p = p.any nonDig) := by show _ = _; unfold verdict boxed; rw [hcol, hpre, hsuf]; rfl
        cases hpq : Ps.toList.isEmpty
        · go_wp2_with fail
          refine (trim_any Ps _ HPS.out).mono ?_
          rintro e w6 ⟨t, rfl, ht, hb4⟩
          rw [HEP.out] at ht
          go_wp2_with fail
          go_ret
          exact ⟨ret_bool (by rw [HV.out]), HBD.out.trans (hb4.mono HBD.out.size)⟩
        · go_wp2_with fail
          go_ret
          exact ⟨ret_bool (by rw [HV.out, HPE.out hpq]), HBD.out⟩

theorem port_any (s : ByteArray) (H p : List UInt8) (w : World) (hs : s.data.toList = H ++ 58 :: p) (hp : p.any isColon = false) (hb : H.length + p.length < 1048576) :
    Calls Tryd.prog 9 #[.string s] w fun e w' => e = .returned (.bool (verdict H p)) ∧ Below w.heap.size w w' := by
  have hsz : s.size = H.length + 1 + p.length := by
    have : s.data.toList.length = _ := congrArg List.length hs
    rw [List.length_append, List.length_cons, Array.length_toList] at this
    show s.data.size = _
    omega
  have hc := port11 s H p w hs hp (by omega)
  clear hsz hb
  go_enter Tryd.func9, Tryd.ntmps9
  go_wp2_with fail
  refine hc.mono ?_
  rintro e w1 ⟨rfl, hb1⟩
  go_wp2_with fail
  go_ret
  exact ⟨rfl, hb1⟩
end Go.Proofs.Qxb6003650aDoor
