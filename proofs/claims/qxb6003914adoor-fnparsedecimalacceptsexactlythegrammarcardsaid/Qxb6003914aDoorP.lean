/-
  parseDecimal (18), walked: no minus.
-/
import Derived.Test.Qxb6003914aDoorD
namespace Go.Proofs.Qxb6003914aDoor
open Go.RowKit

set_option maxHeartbeats 20000000 in
set_option maxRecDepth 100000 in
theorem parse_pos (s : ByteArray) (w : World) (hs : s.size ≤ 1048576) (hp : 0 < s.size) (hm : ¬ s[0].toNat = 45) :
    Calls Tryd.prog 18 #[.string s] w fun e w' => Parsed s.data.toList e ∧ Below w.heap.size w w' := by
  have HX0 : Hid (s.data.toList = unneg s.data.toList) := (unneg_no s hp hm).1
  have HG : Hid (isNeg s.data.toList = false) := (unneg_no s hp hm).2
  have hXb : s.size ≤ 1048576 := hs
  generalize hL : s.data.toList = L at *
  go_enter Tryd.func18, Tryd.ntmps18
  go_wp2_with fail
  have HX : Hid (s.data.toList = unneg L) := hL.trans HX0.out
  clear hL HX0
  generalize s = X at *
  have HBw : Hid (Below w.heap.size w w) := Below.refl _ _
  refine (skip_any X _ (by unfold maxLen; omega)).mono ?_
  rintro e w1 ⟨rfl, rfl⟩
  have hle := takeW_le X
  have HW : Hid ((X.extract 0 (X.data.toList.takeWhile isDig).length).data.toList.all isDig = true) := head_digits X
  have HR : Hid ((X.extract (X.data.toList.takeWhile isDig).length X.size).data.toList = (unneg L).dropWhile isDig) := by show _ = _; rw [Lib.extract_to_end, drop_takeW, HX.out]
  have HEM : Hid (((unneg L).takeWhile isDig).isEmpty = decide ((X.data.toList.takeWhile isDig).length = 0)) := by show _ = _; rw [empty_len, HX.out]
  generalize (X.data.toList.takeWhile isDig).length = n at *
  by_cases hn0 : n = 0
  · subst hn0
    go_wp2_with fail
    refine bodyPost_ret (v := .tuple #[.agg #[.bool false, .string ⟨#[]⟩, .string ⟨#[]⟩, .int .i64 0], .bool false]) (by simp [results, Tryd.results18, go_sem]) rfl ?_
    exact ⟨parsed_no (by unfold numOk; rw [HEM.out]; rfl), below_al HBw.out _ _⟩
  have hnp : ¬ ((n : Int) = 0) := by omega
  have HNUM0 : Hid (numOk (unneg L) = fracOk (X.extract n X.size).data.toList) := by show _ = _; unfold numOk; rw [HEM.out, HR.out]; simp [hn0]
  have hYb : (X.extract n X.size).size ≤ 1048576 := by simp; omega
  have hWb : (X.extract 0 n).size ≤ 1048576 := by simp; omega
  clear HEM HR HX
  go_wp2_with fail
  go_quiet (fail)
  have HBv1 : Hid (Below w.heap.size w (w.drewN nq)) := below_drewN HBw.out nq
  have hz : w.heap.size = (w.drewN nq).heap.size := rfl
  rw [drew2, hz]
  clear hz HBw
  generalize w.drewN nq = v1 at *
  generalize X.extract n X.size = Y at *
  generalize X.extract 0 n = W0 at *
  have HNUM : Hid (numOk (unneg L) = fracOk Y.data.toList) := HNUM0
  have HWD : Hid (W0.data.toList.all isDig = true) := HW
  clear HNUM0 HW
  by_cases hY : 0 < Y.size
  · by_cases h46 : Y[0].toNat = 46
    · go_wp2_with fail
      refine (skip_any (Y.extract 1 Y.size) _ (by unfold maxLen; simp; omega)).mono ?_
      rintro e w1 ⟨rfl, rfl⟩
      have HFY : Hid (numOk (unneg L) = _) := HNUM.out.trans (frac_yes Y hY h46)
      obtain ⟨hm1, HFT, HFR⟩ := frac_cut Y hY
      have HEM2 : Hid (((Y.extract 1 Y.size).data.toList.takeWhile isDig).isEmpty = decide (((Y.extract 1 Y.size).data.toList.takeWhile isDig).length = 0)) := empty_len _
      generalize ((Y.extract 1 Y.size).data.toList.takeWhile isDig).length = m at *
      by_cases hm0 : m = 0
      · subst hm0
        go_wp2_with fail
        refine bodyPost_ret (v := .tuple #[.agg #[.bool false, .string ⟨#[]⟩, .string ⟨#[]⟩, .int .i64 0], .bool false]) (by simp [results, Tryd.results18, go_sem]) rfl ?_
        exact ⟨parsed_no (by rw [HFY.out, HEM2.out]; rfl), below_al HBv1.out _ _⟩
      have hmp : ¬ ((m : Int) = 0) := by omega
      have HT0 : Hid (numOk (unneg L) = tailOk (Y.extract (1 + m) Y.size).data.toList) := by show _ = _; rw [HFY.out, HEM2.out, HFR.out]; simp [hm0]
      have HFD0 : Hid ((Y.extract 1 (1 + m)).data.toList.all isDig = true) := by show _ = _; rw [HFT.out]; exact takeW_all _
      have hTb0 : (Y.extract (1 + m) Y.size).size ≤ 1048576 := by simp; omega
      have hFb0 : (Y.extract 1 (1 + m)).size ≤ 1048576 := by simp; omega
      clear HFY HFT HFR HEM2 HNUM
      go_wp2_with fail
      go_quiet (fail)
      have HBv2 : Hid (Below w.heap.size w (v1.drewN nq)) := below_drewN HBv1.out nq
      have hz : v1.heap.size = (v1.drewN nq).heap.size := rfl
      rw [drew2, hz]
      clear hz HBv1
      generalize v1.drewN nq = v2 at *
      generalize Y.extract (1 + m) Y.size = T at *
      generalize Y.extract 1 (1 + m) = F0 at *
      have HT : Hid (numOk (unneg L) = tailOk T.data.toList) := HT0
      have HFD : Hid (F0.data.toList.all isDig = true) := HFD0
      by_cases hT : 0 < T.size
      · have hTe : T.toList.isEmpty = false := empty_no T hT
        by_cases h101 : T[0].toNat = 101
        · go_wp2_with fail
          refine (exp_any (T.extract 1 T.size) _ (by simp; omega)).mono ?_
          rintro e w2 ⟨⟨y, r, ok, rfl, hok, hr, hy0, hy1⟩, q2, rfl⟩
          have HOK : Hid (ok = !((unsign (T.extract 1 T.size).data.toList).takeWhile isDig).isEmpty) := hok
          have HRR : Hid (ok = true → r.data.toList = (unsign (T.extract 1 T.size).data.toList).dropWhile isDig) := hr
          have HTY : Hid (tailOk T.data.toList = expOk (T.extract 1 T.size).data.toList) := tail_yes T hT (by omega)
          clear hok hr
          have HBv3 : Hid (Below w.heap.size w (v2.drewN q2)) := below_drewN HBv2.out q2
          have hz : v2.heap.size = (v2.drewN q2).heap.size := rfl
          rw [drew2, hz]
          clear hz HBv2
          generalize v2.drewN q2 = v3 at *
          cases ok
          · go_wp2_with fail
            refine bodyPost_ret (v := .tuple #[.agg #[.bool false, .string ⟨#[]⟩, .string ⟨#[]⟩, .int .i64 0], .bool false]) (by simp [results, Tryd.results18, go_sem]) rfl ?_
            exact ⟨parsed_no (exp_no HT.out HTY.out HOK.out), below_al HBv3.out _ _⟩
          rcases Bool.eq_false_or_eq_true r.toList.isEmpty with hre | hre
          · have HACC : Hid (numOk (unneg L) = true) := exp_yes HT.out HTY.out HOK.out (HRR.out (by trivial)) hre
            clear HOK HRR HTY HT
            go_wp2_with fail
            refine (Any.strings_TrimLeft_one Tryd.lays161 W0 48 (by decide) _).mono ?_
            rintro e w3 ⟨rfl, rfl⟩
            obtain ⟨hW1b, HW1⟩ := left_facts W0 HWD.out
            generalize (⟨(Lib.trimLeftB W0.data.toList 48).toArray⟩ : ByteArray) = W1 at *
            rcases Bool.eq_false_or_eq_true W1.toList.isEmpty with hw1 | hw1
            · go_wp2_with fail
              refine (Any.strings_TrimLeft_one Tryd.lays161 F0 48 (by decide) _).mono ?_
              rintro e w4 ⟨rfl, rfl⟩
              obtain ⟨hF1b, HF1⟩ := left_facts F0 HFD.out
              generalize (⟨(Lib.trimLeftB F0.data.toList 48).toArray⟩ : ByteArray) = F1 at *
              go_wp2_with fail
              refine (Any.strings_TrimRight_one Tryd.lays162 F1 48 (by decide) _ (by omega)).mono ?_
              rintro e w5 ⟨rfl, rfl⟩
              have HF2 := right_facts F1
              have HGF : Hid ((⟨(Lib.trimRightB F1.data.toList 48).toArray⟩ : ByteArray).toList.isEmpty = false → GoodDigits (W1.data.toList ++ (⟨(Lib.trimRightB F1.data.toList 48).toArray⟩ : ByteArray).data.toList)) := fun h => good_frac' HW1.out HF1.out.1 (fun _ => HF1.out.2) h
              generalize (⟨(Lib.trimRightB F1.data.toList 48).toArray⟩ : ByteArray) = F2 at *
              rcases Bool.eq_false_or_eq_true F2.toList.isEmpty with hf2 | hf2
              · go_wp2_with fail
                refine (Any.strings_TrimRight_one Tryd.lays162 W1 48 (by decide) _ (by omega)).mono ?_
                rintro e w6 ⟨rfl, rfl⟩
                have HGW : Hid (GoodDigits ((⟨(Lib.trimRightB W1.data.toList 48).toArray⟩ : ByteArray).data.toList ++ F2.data.toList)) := good_whole' HW1.out hf2
                have hW2b := right_facts W1
                generalize (⟨(Lib.trimRightB W1.data.toList 48).toArray⟩ : ByteArray) = W2 at *
                rcases Bool.eq_false_or_eq_true W2.toList.isEmpty with hw2 | hw2
                · go_wp2_with fail
                  refine bodyPost_ret (v := .tuple #[.agg #[.bool false, .string ⟨#[]⟩, .string ⟨#[]⟩, .int .i64 0], .bool true]) (by simp [results, Tryd.results18, go_sem]) rfl ?_
                  exact ⟨parsed_zero HACC.out, below_al HBv3.out _ _⟩
                · go_wp2_with fail
                  refine bodyPost_ret (v := .tuple #[.agg #[.bool false, .string W2, .string F2, .int .i64 _], .bool true]) (by simp [results, Tryd.results18, go_sem]; rfl) rfl ?_
                  exact ⟨parsed_yes HACC.out HG.out (ne_of_app hw2) HGW.out (by omega) (by omega), below_al HBv3.out _ _⟩
              · go_wp2_with fail
                refine bodyPost_ret (v := .tuple #[.agg #[.bool false, .string W1, .string F2, .int .i64 _], .bool true]) (by simp [results, Tryd.results18, go_sem]; rfl) rfl ?_
                exact ⟨parsed_yes HACC.out HG.out (ne_of_app' hf2) (HGF.out hf2) (by omega) (by omega), below_al HBv3.out _ _⟩
            · go_wp2_with fail
              refine (Any.strings_TrimRight_one Tryd.lays162 F0 48 (by decide) _ (by omega)).mono ?_
              rintro e w5 ⟨rfl, rfl⟩
              have HF2 := right_facts F0
              have HGF : Hid ((⟨(Lib.trimRightB F0.data.toList 48).toArray⟩ : ByteArray).toList.isEmpty = false → GoodDigits (W1.data.toList ++ (⟨(Lib.trimRightB F0.data.toList 48).toArray⟩ : ByteArray).data.toList)) := fun h => good_frac' HW1.out HFD.out (fun e => absurd e (ne_of_empty hw1)) h
              generalize (⟨(Lib.trimRightB F0.data.toList 48).toArray⟩ : ByteArray) = F2 at *
              rcases Bool.eq_false_or_eq_true F2.toList.isEmpty with hf2 | hf2
              · go_wp2_with fail
                refine (Any.strings_TrimRight_one Tryd.lays162 W1 48 (by decide) _ (by omega)).mono ?_
                rintro e w6 ⟨rfl, rfl⟩
                have HGW : Hid (GoodDigits ((⟨(Lib.trimRightB W1.data.toList 48).toArray⟩ : ByteArray).data.toList ++ F2.data.toList)) := good_whole' HW1.out hf2
                have hW2b := right_facts W1
                generalize (⟨(Lib.trimRightB W1.data.toList 48).toArray⟩ : ByteArray) = W2 at *
                rcases Bool.eq_false_or_eq_true W2.toList.isEmpty with hw2 | hw2
                · go_wp2_with fail
                  refine bodyPost_ret (v := .tuple #[.agg #[.bool false, .string ⟨#[]⟩, .string ⟨#[]⟩, .int .i64 0], .bool true]) (by simp [results, Tryd.results18, go_sem]) rfl ?_
                  exact ⟨parsed_zero HACC.out, below_al HBv3.out _ _⟩
                · go_wp2_with fail
                  refine bodyPost_ret (v := .tuple #[.agg #[.bool false, .string W2, .string F2, .int .i64 _], .bool true]) (by simp [results, Tryd.results18, go_sem]; rfl) rfl ?_
                  exact ⟨parsed_yes HACC.out HG.out (ne_of_app hw2) HGW.out (by omega) (by omega), below_al HBv3.out _ _⟩
              · go_wp2_with fail
                refine bodyPost_ret (v := .tuple #[.agg #[.bool false, .string W1, .string F2, .int .i64 _], .bool true]) (by simp [results, Tryd.results18, go_sem]; rfl) rfl ?_
                exact ⟨parsed_yes HACC.out HG.out (ne_of_app' hf2) (HGF.out hf2) (by omega) (by omega), below_al HBv3.out _ _⟩
          · go_wp2_with fail
            refine bodyPost_ret (v := .tuple #[.agg #[.bool false, .string ⟨#[]⟩, .string ⟨#[]⟩, .int .i64 0], .bool false]) (by simp [results, Tryd.results18, go_sem]) rfl ?_
            exact ⟨parsed_no (exp_rest HT.out HTY.out (HRR.out (by trivial)) hre), below_al HBv3.out _ _⟩
        · by_cases h69 : T[0].toNat = 69
          · go_wp2_with fail
            refine (exp_any (T.extract 1 T.size) _ (by simp; omega)).mono ?_
            rintro e w2 ⟨⟨y, r, ok, rfl, hok, hr, hy0, hy1⟩, q2, rfl⟩
            have HOK : Hid (ok = !((unsign (T.extract 1 T.size).data.toList).takeWhile isDig).isEmpty) := hok
            have HRR : Hid (ok = true → r.data.toList = (unsign (T.extract 1 T.size).data.toList).dropWhile isDig) := hr
            have HTY : Hid (tailOk T.data.toList = expOk (T.extract 1 T.size).data.toList) := tail_yes T hT (by omega)
            clear hok hr
            have HBv3 : Hid (Below w.heap.size w (v2.drewN q2)) := below_drewN HBv2.out q2
            have hz : v2.heap.size = (v2.drewN q2).heap.size := rfl
            rw [drew2, hz]
            clear hz HBv2
            generalize v2.drewN q2 = v3 at *
            cases ok
            · go_wp2_with fail
              refine bodyPost_ret (v := .tuple #[.agg #[.bool false, .string ⟨#[]⟩, .string ⟨#[]⟩, .int .i64 0], .bool false]) (by simp [results, Tryd.results18, go_sem]) rfl ?_
              exact ⟨parsed_no (exp_no HT.out HTY.out HOK.out), below_al HBv3.out _ _⟩
            rcases Bool.eq_false_or_eq_true r.toList.isEmpty with hre | hre
            · have HACC : Hid (numOk (unneg L) = true) := exp_yes HT.out HTY.out HOK.out (HRR.out (by trivial)) hre
              clear HOK HRR HTY HT
              go_wp2_with fail
              refine (Any.strings_TrimLeft_one Tryd.lays161 W0 48 (by decide) _).mono ?_
              rintro e w3 ⟨rfl, rfl⟩
              obtain ⟨hW1b, HW1⟩ := left_facts W0 HWD.out
              generalize (⟨(Lib.trimLeftB W0.data.toList 48).toArray⟩ : ByteArray) = W1 at *
              rcases Bool.eq_false_or_eq_true W1.toList.isEmpty with hw1 | hw1
              · go_wp2_with fail
                refine (Any.strings_TrimLeft_one Tryd.lays161 F0 48 (by decide) _).mono ?_
                rintro e w4 ⟨rfl, rfl⟩
                obtain ⟨hF1b, HF1⟩ := left_facts F0 HFD.out
                generalize (⟨(Lib.trimLeftB F0.data.toList 48).toArray⟩ : ByteArray) = F1 at *
                go_wp2_with fail
                refine (Any.strings_TrimRight_one Tryd.lays162 F1 48 (by decide) _ (by omega)).mono ?_
                rintro e w5 ⟨rfl, rfl⟩
                have HF2 := right_facts F1
                have HGF : Hid ((⟨(Lib.trimRightB F1.data.toList 48).toArray⟩ : ByteArray).toList.isEmpty = false → GoodDigits (W1.data.toList ++ (⟨(Lib.trimRightB F1.data.toList 48).toArray⟩ : ByteArray).data.toList)) := fun h => good_frac' HW1.out HF1.out.1 (fun _ => HF1.out.2) h
                generalize (⟨(Lib.trimRightB F1.data.toList 48).toArray⟩ : ByteArray) = F2 at *
                rcases Bool.eq_false_or_eq_true F2.toList.isEmpty with hf2 | hf2
                · go_wp2_with fail
                  refine (Any.strings_TrimRight_one Tryd.lays162 W1 48 (by decide) _ (by omega)).mono ?_
                  rintro e w6 ⟨rfl, rfl⟩
                  have HGW : Hid (GoodDigits ((⟨(Lib.trimRightB W1.data.toList 48).toArray⟩ : ByteArray).data.toList ++ F2.data.toList)) := good_whole' HW1.out hf2
                  have hW2b := right_facts W1
                  generalize (⟨(Lib.trimRightB W1.data.toList 48).toArray⟩ : ByteArray) = W2 at *
                  rcases Bool.eq_false_or_eq_true W2.toList.isEmpty with hw2 | hw2
                  · go_wp2_with fail
                    refine bodyPost_ret (v := .tuple #[.agg #[.bool false, .string ⟨#[]⟩, .string ⟨#[]⟩, .int .i64 0], .bool true]) (by simp [results, Tryd.results18, go_sem]) rfl ?_
                    exact ⟨parsed_zero HACC.out, below_al HBv3.out _ _⟩
                  · go_wp2_with fail
                    refine bodyPost_ret (v := .tuple #[.agg #[.bool false, .string W2, .string F2, .int .i64 _], .bool true]) (by simp [results, Tryd.results18, go_sem]; rfl) rfl ?_
                    exact ⟨parsed_yes HACC.out HG.out (ne_of_app hw2) HGW.out (by omega) (by omega), below_al HBv3.out _ _⟩
                · go_wp2_with fail
                  refine bodyPost_ret (v := .tuple #[.agg #[.bool false, .string W1, .string F2, .int .i64 _], .bool true]) (by simp [results, Tryd.results18, go_sem]; rfl) rfl ?_
                  exact ⟨parsed_yes HACC.out HG.out (ne_of_app' hf2) (HGF.out hf2) (by omega) (by omega), below_al HBv3.out _ _⟩
              · go_wp2_with fail
                refine (Any.strings_TrimRight_one Tryd.lays162 F0 48 (by decide) _ (by omega)).mono ?_
                rintro e w5 ⟨rfl, rfl⟩
                have HF2 := right_facts F0
                have HGF : Hid ((⟨(Lib.trimRightB F0.data.toList 48).toArray⟩ : ByteArray).toList.isEmpty = false → GoodDigits (W1.data.toList ++ (⟨(Lib.trimRightB F0.data.toList 48).toArray⟩ : ByteArray).data.toList)) := fun h => good_frac' HW1.out HFD.out (fun e => absurd e (ne_of_empty hw1)) h
                generalize (⟨(Lib.trimRightB F0.data.toList 48).toArray⟩ : ByteArray) = F2 at *
                rcases Bool.eq_false_or_eq_true F2.toList.isEmpty with hf2 | hf2
                · go_wp2_with fail
                  refine (Any.strings_TrimRight_one Tryd.lays162 W1 48 (by decide) _ (by omega)).mono ?_
                  rintro e w6 ⟨rfl, rfl⟩
                  have HGW : Hid (GoodDigits ((⟨(Lib.trimRightB W1.data.toList 48).toArray⟩ : ByteArray).data.toList ++ F2.data.toList)) := good_whole' HW1.out hf2
                  have hW2b := right_facts W1
                  generalize (⟨(Lib.trimRightB W1.data.toList 48).toArray⟩ : ByteArray) = W2 at *
                  rcases Bool.eq_false_or_eq_true W2.toList.isEmpty with hw2 | hw2
                  · go_wp2_with fail
                    refine bodyPost_ret (v := .tuple #[.agg #[.bool false, .string ⟨#[]⟩, .string ⟨#[]⟩, .int .i64 0], .bool true]) (by simp [results, Tryd.results18, go_sem]) rfl ?_
                    exact ⟨parsed_zero HACC.out, below_al HBv3.out _ _⟩
                  · go_wp2_with fail
                    refine bodyPost_ret (v := .tuple #[.agg #[.bool false, .string W2, .string F2, .int .i64 _], .bool true]) (by simp [results, Tryd.results18, go_sem]; rfl) rfl ?_
                    exact ⟨parsed_yes HACC.out HG.out (ne_of_app hw2) HGW.out (by omega) (by omega), below_al HBv3.out _ _⟩
                · go_wp2_with fail
                  refine bodyPost_ret (v := .tuple #[.agg #[.bool false, .string W1, .string F2, .int .i64 _], .bool true]) (by simp [results, Tryd.results18, go_sem]; rfl) rfl ?_
                  exact ⟨parsed_yes HACC.out HG.out (ne_of_app' hf2) (HGF.out hf2) (by omega) (by omega), below_al HBv3.out _ _⟩
            · go_wp2_with fail
              refine bodyPost_ret (v := .tuple #[.agg #[.bool false, .string ⟨#[]⟩, .string ⟨#[]⟩, .int .i64 0], .bool false]) (by simp [results, Tryd.results18, go_sem]) rfl ?_
              exact ⟨parsed_no (exp_rest HT.out HTY.out (HRR.out (by trivial)) hre), below_al HBv3.out _ _⟩
          · have e101 : ((T[0].toNat : Int) == 101) = false := by rw [beq_eq_false_iff_ne]; omega
            have e69 : ((T[0].toNat : Int) == 69) = false := by rw [beq_eq_false_iff_ne]; omega
            go_wp2_with fail
            all_goals first
              | (refine bodyPost_ret (v := .tuple #[.agg #[.bool false, .string ⟨#[]⟩, .string ⟨#[]⟩, .int .i64 0], .bool false]) (by simp [results, Tryd.results18, go_sem]) rfl ?_; exact ⟨parsed_no (HT.out.trans (tail_no T hT (by omega))), below_al HBv2.out _ _⟩)
              | (exfalso; omega)
              | (exfalso; simp only [beq_iff_eq] at *; omega)
      · have hTe : T.toList.isEmpty = true := empty_yes T hT
        have HACC : Hid (numOk (unneg L) = true) := HT.out.trans (tail_nil T hT)
        clear HT
        go_wp2_with fail
        refine (Any.strings_TrimLeft_one Tryd.lays161 W0 48 (by decide) _).mono ?_
        rintro e w3 ⟨rfl, rfl⟩
        obtain ⟨hW1b, HW1⟩ := left_facts W0 HWD.out
        generalize (⟨(Lib.trimLeftB W0.data.toList 48).toArray⟩ : ByteArray) = W1 at *
        rcases Bool.eq_false_or_eq_true W1.toList.isEmpty with hw1 | hw1
        · go_wp2_with fail
          refine (Any.strings_TrimLeft_one Tryd.lays161 F0 48 (by decide) _).mono ?_
          rintro e w4 ⟨rfl, rfl⟩
          obtain ⟨hF1b, HF1⟩ := left_facts F0 HFD.out
          generalize (⟨(Lib.trimLeftB F0.data.toList 48).toArray⟩ : ByteArray) = F1 at *
          go_wp2_with fail
          refine (Any.strings_TrimRight_one Tryd.lays162 F1 48 (by decide) _ (by omega)).mono ?_
          rintro e w5 ⟨rfl, rfl⟩
          have HF2 := right_facts F1
          have HGF : Hid ((⟨(Lib.trimRightB F1.data.toList 48).toArray⟩ : ByteArray).toList.isEmpty = false → GoodDigits (W1.data.toList ++ (⟨(Lib.trimRightB F1.data.toList 48).toArray⟩ : ByteArray).data.toList)) := fun h => good_frac' HW1.out HF1.out.1 (fun _ => HF1.out.2) h
          generalize (⟨(Lib.trimRightB F1.data.toList 48).toArray⟩ : ByteArray) = F2 at *
          rcases Bool.eq_false_or_eq_true F2.toList.isEmpty with hf2 | hf2
          · go_wp2_with fail
            refine (Any.strings_TrimRight_one Tryd.lays162 W1 48 (by decide) _ (by omega)).mono ?_
            rintro e w6 ⟨rfl, rfl⟩
            have HGW : Hid (GoodDigits ((⟨(Lib.trimRightB W1.data.toList 48).toArray⟩ : ByteArray).data.toList ++ F2.data.toList)) := good_whole' HW1.out hf2
            have hW2b := right_facts W1
            generalize (⟨(Lib.trimRightB W1.data.toList 48).toArray⟩ : ByteArray) = W2 at *
            rcases Bool.eq_false_or_eq_true W2.toList.isEmpty with hw2 | hw2
            · go_wp2_with fail
              refine bodyPost_ret (v := .tuple #[.agg #[.bool false, .string ⟨#[]⟩, .string ⟨#[]⟩, .int .i64 0], .bool true]) (by simp [results, Tryd.results18, go_sem]) rfl ?_
              exact ⟨parsed_zero HACC.out, below_al HBv2.out _ _⟩
            · go_wp2_with fail
              refine bodyPost_ret (v := .tuple #[.agg #[.bool false, .string W2, .string F2, .int .i64 _], .bool true]) (by simp [results, Tryd.results18, go_sem]; rfl) rfl ?_
              exact ⟨parsed_yes HACC.out HG.out (ne_of_app hw2) HGW.out (by omega) (by omega), below_al HBv2.out _ _⟩
          · go_wp2_with fail
            refine bodyPost_ret (v := .tuple #[.agg #[.bool false, .string W1, .string F2, .int .i64 _], .bool true]) (by simp [results, Tryd.results18, go_sem]; rfl) rfl ?_
            exact ⟨parsed_yes HACC.out HG.out (ne_of_app' hf2) (HGF.out hf2) (by omega) (by omega), below_al HBv2.out _ _⟩
        · go_wp2_with fail
          refine (Any.strings_TrimRight_one Tryd.lays162 F0 48 (by decide) _ (by omega)).mono ?_
          rintro e w5 ⟨rfl, rfl⟩
          have HF2 := right_facts F0
          have HGF : Hid ((⟨(Lib.trimRightB F0.data.toList 48).toArray⟩ : ByteArray).toList.isEmpty = false → GoodDigits (W1.data.toList ++ (⟨(Lib.trimRightB F0.data.toList 48).toArray⟩ : ByteArray).data.toList)) := fun h => good_frac' HW1.out HFD.out (fun e => absurd e (ne_of_empty hw1)) h
          generalize (⟨(Lib.trimRightB F0.data.toList 48).toArray⟩ : ByteArray) = F2 at *
          rcases Bool.eq_false_or_eq_true F2.toList.isEmpty with hf2 | hf2
          · go_wp2_with fail
            refine (Any.strings_TrimRight_one Tryd.lays162 W1 48 (by decide) _ (by omega)).mono ?_
            rintro e w6 ⟨rfl, rfl⟩
            have HGW : Hid (GoodDigits ((⟨(Lib.trimRightB W1.data.toList 48).toArray⟩ : ByteArray).data.toList ++ F2.data.toList)) := good_whole' HW1.out hf2
            have hW2b := right_facts W1
            generalize (⟨(Lib.trimRightB W1.data.toList 48).toArray⟩ : ByteArray) = W2 at *
            rcases Bool.eq_false_or_eq_true W2.toList.isEmpty with hw2 | hw2
            · go_wp2_with fail
              refine bodyPost_ret (v := .tuple #[.agg #[.bool false, .string ⟨#[]⟩, .string ⟨#[]⟩, .int .i64 0], .bool true]) (by simp [results, Tryd.results18, go_sem]) rfl ?_
              exact ⟨parsed_zero HACC.out, below_al HBv2.out _ _⟩
            · go_wp2_with fail
              refine bodyPost_ret (v := .tuple #[.agg #[.bool false, .string W2, .string F2, .int .i64 _], .bool true]) (by simp [results, Tryd.results18, go_sem]; rfl) rfl ?_
              exact ⟨parsed_yes HACC.out HG.out (ne_of_app hw2) HGW.out (by omega) (by omega), below_al HBv2.out _ _⟩
          · go_wp2_with fail
            refine bodyPost_ret (v := .tuple #[.agg #[.bool false, .string W1, .string F2, .int .i64 _], .bool true]) (by simp [results, Tryd.results18, go_sem]; rfl) rfl ?_
            exact ⟨parsed_yes HACC.out HG.out (ne_of_app' hf2) (HGF.out hf2) (by omega) (by omega), below_al HBv2.out _ _⟩
    · have HT : Hid (numOk (unneg L) = tailOk Y.data.toList) := HNUM.out.trans (frac_no Y hY h46)
      have HFD : Hid ((⟨#[]⟩ : ByteArray).data.toList.all isDig = true) := rfl
      have hFb0 : (⟨#[]⟩ : ByteArray).size ≤ 1048576 := by decide
      clear HNUM
      have hTe : Y.toList.isEmpty = false := empty_no Y hY
      by_cases h101 : Y[0].toNat = 101
      · go_wp2_with fail
        refine (exp_any (Y.extract 1 Y.size) _ (by simp; omega)).mono ?_
        rintro e w2 ⟨⟨y, r, ok, rfl, hok, hr, hy0, hy1⟩, q2, rfl⟩
        have HOK : Hid (ok = !((unsign (Y.extract 1 Y.size).data.toList).takeWhile isDig).isEmpty) := hok
        have HRR : Hid (ok = true → r.data.toList = (unsign (Y.extract 1 Y.size).data.toList).dropWhile isDig) := hr
        have HTY : Hid (tailOk Y.data.toList = expOk (Y.extract 1 Y.size).data.toList) := tail_yes Y hY (by omega)
        clear hok hr
        have HBv3 : Hid (Below w.heap.size w (v1.drewN q2)) := below_drewN HBv1.out q2
        have hz : v1.heap.size = (v1.drewN q2).heap.size := rfl
        rw [drew2, hz]
        clear hz HBv1
        generalize v1.drewN q2 = v3 at *
        cases ok
        · go_wp2_with fail
          refine bodyPost_ret (v := .tuple #[.agg #[.bool false, .string ⟨#[]⟩, .string ⟨#[]⟩, .int .i64 0], .bool false]) (by simp [results, Tryd.results18, go_sem]) rfl ?_
          exact ⟨parsed_no (exp_no HT.out HTY.out HOK.out), below_al HBv3.out _ _⟩
        rcases Bool.eq_false_or_eq_true r.toList.isEmpty with hre | hre
        · have HACC : Hid (numOk (unneg L) = true) := exp_yes HT.out HTY.out HOK.out (HRR.out (by trivial)) hre
          clear HOK HRR HTY HT
          go_wp2_with fail
          refine (Any.strings_TrimLeft_one Tryd.lays161 W0 48 (by decide) _).mono ?_
          rintro e w3 ⟨rfl, rfl⟩
          obtain ⟨hW1b, HW1⟩ := left_facts W0 HWD.out
          generalize (⟨(Lib.trimLeftB W0.data.toList 48).toArray⟩ : ByteArray) = W1 at *
          rcases Bool.eq_false_or_eq_true W1.toList.isEmpty with hw1 | hw1
          · go_wp2_with fail
            refine (Any.strings_TrimLeft_one Tryd.lays161 (⟨#[]⟩ : ByteArray) 48 (by decide) _).mono ?_
            rintro e w4 ⟨rfl, rfl⟩
            obtain ⟨hF1b, HF1⟩ := left_facts (⟨#[]⟩ : ByteArray) HFD.out
            generalize (⟨(Lib.trimLeftB (⟨#[]⟩ : ByteArray).data.toList 48).toArray⟩ : ByteArray) = F1 at *
            go_wp2_with fail
            refine (Any.strings_TrimRight_one Tryd.lays162 F1 48 (by decide) _ (by omega)).mono ?_
            rintro e w5 ⟨rfl, rfl⟩
            have HF2 := right_facts F1
            have HGF : Hid ((⟨(Lib.trimRightB F1.data.toList 48).toArray⟩ : ByteArray).toList.isEmpty = false → GoodDigits (W1.data.toList ++ (⟨(Lib.trimRightB F1.data.toList 48).toArray⟩ : ByteArray).data.toList)) := fun h => good_frac' HW1.out HF1.out.1 (fun _ => HF1.out.2) h
            generalize (⟨(Lib.trimRightB F1.data.toList 48).toArray⟩ : ByteArray) = F2 at *
            rcases Bool.eq_false_or_eq_true F2.toList.isEmpty with hf2 | hf2
            · go_wp2_with fail
              refine (Any.strings_TrimRight_one Tryd.lays162 W1 48 (by decide) _ (by omega)).mono ?_
              rintro e w6 ⟨rfl, rfl⟩
              have HGW : Hid (GoodDigits ((⟨(Lib.trimRightB W1.data.toList 48).toArray⟩ : ByteArray).data.toList ++ F2.data.toList)) := good_whole' HW1.out hf2
              have hW2b := right_facts W1
              generalize (⟨(Lib.trimRightB W1.data.toList 48).toArray⟩ : ByteArray) = W2 at *
              rcases Bool.eq_false_or_eq_true W2.toList.isEmpty with hw2 | hw2
              · go_wp2_with fail
                refine bodyPost_ret (v := .tuple #[.agg #[.bool false, .string ⟨#[]⟩, .string ⟨#[]⟩, .int .i64 0], .bool true]) (by simp [results, Tryd.results18, go_sem]) rfl ?_
                exact ⟨parsed_zero HACC.out, below_al HBv3.out _ _⟩
              · go_wp2_with fail
                refine bodyPost_ret (v := .tuple #[.agg #[.bool false, .string W2, .string F2, .int .i64 _], .bool true]) (by simp [results, Tryd.results18, go_sem]; rfl) rfl ?_
                exact ⟨parsed_yes HACC.out HG.out (ne_of_app hw2) HGW.out (by omega) (by omega), below_al HBv3.out _ _⟩
            · go_wp2_with fail
              refine bodyPost_ret (v := .tuple #[.agg #[.bool false, .string W1, .string F2, .int .i64 _], .bool true]) (by simp [results, Tryd.results18, go_sem]; rfl) rfl ?_
              exact ⟨parsed_yes HACC.out HG.out (ne_of_app' hf2) (HGF.out hf2) (by omega) (by omega), below_al HBv3.out _ _⟩
          · go_wp2_with fail
            refine (Any.strings_TrimRight_one Tryd.lays162 (⟨#[]⟩ : ByteArray) 48 (by decide) _ (by omega)).mono ?_
            rintro e w5 ⟨rfl, rfl⟩
            have HF2 := right_facts (⟨#[]⟩ : ByteArray)
            have HGF : Hid ((⟨(Lib.trimRightB (⟨#[]⟩ : ByteArray).data.toList 48).toArray⟩ : ByteArray).toList.isEmpty = false → GoodDigits (W1.data.toList ++ (⟨(Lib.trimRightB (⟨#[]⟩ : ByteArray).data.toList 48).toArray⟩ : ByteArray).data.toList)) := fun h => good_frac' HW1.out HFD.out (fun e => absurd e (ne_of_empty hw1)) h
            generalize (⟨(Lib.trimRightB (⟨#[]⟩ : ByteArray).data.toList 48).toArray⟩ : ByteArray) = F2 at *
            rcases Bool.eq_false_or_eq_true F2.toList.isEmpty with hf2 | hf2
            · go_wp2_with fail
              refine (Any.strings_TrimRight_one Tryd.lays162 W1 48 (by decide) _ (by omega)).mono ?_
              rintro e w6 ⟨rfl, rfl⟩
              have HGW : Hid (GoodDigits ((⟨(Lib.trimRightB W1.data.toList 48).toArray⟩ : ByteArray).data.toList ++ F2.data.toList)) := good_whole' HW1.out hf2
              have hW2b := right_facts W1
              generalize (⟨(Lib.trimRightB W1.data.toList 48).toArray⟩ : ByteArray) = W2 at *
              rcases Bool.eq_false_or_eq_true W2.toList.isEmpty with hw2 | hw2
              · go_wp2_with fail
                refine bodyPost_ret (v := .tuple #[.agg #[.bool false, .string ⟨#[]⟩, .string ⟨#[]⟩, .int .i64 0], .bool true]) (by simp [results, Tryd.results18, go_sem]) rfl ?_
                exact ⟨parsed_zero HACC.out, below_al HBv3.out _ _⟩
              · go_wp2_with fail
                refine bodyPost_ret (v := .tuple #[.agg #[.bool false, .string W2, .string F2, .int .i64 _], .bool true]) (by simp [results, Tryd.results18, go_sem]; rfl) rfl ?_
                exact ⟨parsed_yes HACC.out HG.out (ne_of_app hw2) HGW.out (by omega) (by omega), below_al HBv3.out _ _⟩
            · go_wp2_with fail
              refine bodyPost_ret (v := .tuple #[.agg #[.bool false, .string W1, .string F2, .int .i64 _], .bool true]) (by simp [results, Tryd.results18, go_sem]; rfl) rfl ?_
              exact ⟨parsed_yes HACC.out HG.out (ne_of_app' hf2) (HGF.out hf2) (by omega) (by omega), below_al HBv3.out _ _⟩
        · go_wp2_with fail
          refine bodyPost_ret (v := .tuple #[.agg #[.bool false, .string ⟨#[]⟩, .string ⟨#[]⟩, .int .i64 0], .bool false]) (by simp [results, Tryd.results18, go_sem]) rfl ?_
          exact ⟨parsed_no (exp_rest HT.out HTY.out (HRR.out (by trivial)) hre), below_al HBv3.out _ _⟩
      by_cases h69 : Y[0].toNat = 69
      · go_wp2_with fail
        refine (exp_any (Y.extract 1 Y.size) _ (by simp; omega)).mono ?_
        rintro e w2 ⟨⟨y, r, ok, rfl, hok, hr, hy0, hy1⟩, q2, rfl⟩
        have HOK : Hid (ok = !((unsign (Y.extract 1 Y.size).data.toList).takeWhile isDig).isEmpty) := hok
        have HRR : Hid (ok = true → r.data.toList = (unsign (Y.extract 1 Y.size).data.toList).dropWhile isDig) := hr
        have HTY : Hid (tailOk Y.data.toList = expOk (Y.extract 1 Y.size).data.toList) := tail_yes Y hY (by omega)
        clear hok hr
        have HBv3 : Hid (Below w.heap.size w (v1.drewN q2)) := below_drewN HBv1.out q2
        have hz : v1.heap.size = (v1.drewN q2).heap.size := rfl
        rw [drew2, hz]
        clear hz HBv1
        generalize v1.drewN q2 = v3 at *
        cases ok
        · go_wp2_with fail
          refine bodyPost_ret (v := .tuple #[.agg #[.bool false, .string ⟨#[]⟩, .string ⟨#[]⟩, .int .i64 0], .bool false]) (by simp [results, Tryd.results18, go_sem]) rfl ?_
          exact ⟨parsed_no (exp_no HT.out HTY.out HOK.out), below_al HBv3.out _ _⟩
        rcases Bool.eq_false_or_eq_true r.toList.isEmpty with hre | hre
        · have HACC : Hid (numOk (unneg L) = true) := exp_yes HT.out HTY.out HOK.out (HRR.out (by trivial)) hre
          clear HOK HRR HTY HT
          go_wp2_with fail
          refine (Any.strings_TrimLeft_one Tryd.lays161 W0 48 (by decide) _).mono ?_
          rintro e w3 ⟨rfl, rfl⟩
          obtain ⟨hW1b, HW1⟩ := left_facts W0 HWD.out
          generalize (⟨(Lib.trimLeftB W0.data.toList 48).toArray⟩ : ByteArray) = W1 at *
          rcases Bool.eq_false_or_eq_true W1.toList.isEmpty with hw1 | hw1
          · go_wp2_with fail
            refine (Any.strings_TrimLeft_one Tryd.lays161 (⟨#[]⟩ : ByteArray) 48 (by decide) _).mono ?_
            rintro e w4 ⟨rfl, rfl⟩
            obtain ⟨hF1b, HF1⟩ := left_facts (⟨#[]⟩ : ByteArray) HFD.out
            generalize (⟨(Lib.trimLeftB (⟨#[]⟩ : ByteArray).data.toList 48).toArray⟩ : ByteArray) = F1 at *
            go_wp2_with fail
            refine (Any.strings_TrimRight_one Tryd.lays162 F1 48 (by decide) _ (by omega)).mono ?_
            rintro e w5 ⟨rfl, rfl⟩
            have HF2 := right_facts F1
            have HGF : Hid ((⟨(Lib.trimRightB F1.data.toList 48).toArray⟩ : ByteArray).toList.isEmpty = false → GoodDigits (W1.data.toList ++ (⟨(Lib.trimRightB F1.data.toList 48).toArray⟩ : ByteArray).data.toList)) := fun h => good_frac' HW1.out HF1.out.1 (fun _ => HF1.out.2) h
            generalize (⟨(Lib.trimRightB F1.data.toList 48).toArray⟩ : ByteArray) = F2 at *
            rcases Bool.eq_false_or_eq_true F2.toList.isEmpty with hf2 | hf2
            · go_wp2_with fail
              refine (Any.strings_TrimRight_one Tryd.lays162 W1 48 (by decide) _ (by omega)).mono ?_
              rintro e w6 ⟨rfl, rfl⟩
              have HGW : Hid (GoodDigits ((⟨(Lib.trimRightB W1.data.toList 48).toArray⟩ : ByteArray).data.toList ++ F2.data.toList)) := good_whole' HW1.out hf2
              have hW2b := right_facts W1
              generalize (⟨(Lib.trimRightB W1.data.toList 48).toArray⟩ : ByteArray) = W2 at *
              rcases Bool.eq_false_or_eq_true W2.toList.isEmpty with hw2 | hw2
              · go_wp2_with fail
                refine bodyPost_ret (v := .tuple #[.agg #[.bool false, .string ⟨#[]⟩, .string ⟨#[]⟩, .int .i64 0], .bool true]) (by simp [results, Tryd.results18, go_sem]) rfl ?_
                exact ⟨parsed_zero HACC.out, below_al HBv3.out _ _⟩
              · go_wp2_with fail
                refine bodyPost_ret (v := .tuple #[.agg #[.bool false, .string W2, .string F2, .int .i64 _], .bool true]) (by simp [results, Tryd.results18, go_sem]; rfl) rfl ?_
                exact ⟨parsed_yes HACC.out HG.out (ne_of_app hw2) HGW.out (by omega) (by omega), below_al HBv3.out _ _⟩
            · go_wp2_with fail
              refine bodyPost_ret (v := .tuple #[.agg #[.bool false, .string W1, .string F2, .int .i64 _], .bool true]) (by simp [results, Tryd.results18, go_sem]; rfl) rfl ?_
              exact ⟨parsed_yes HACC.out HG.out (ne_of_app' hf2) (HGF.out hf2) (by omega) (by omega), below_al HBv3.out _ _⟩
          · go_wp2_with fail
            refine (Any.strings_TrimRight_one Tryd.lays162 (⟨#[]⟩ : ByteArray) 48 (by decide) _ (by omega)).mono ?_
            rintro e w5 ⟨rfl, rfl⟩
            have HF2 := right_facts (⟨#[]⟩ : ByteArray)
            have HGF : Hid ((⟨(Lib.trimRightB (⟨#[]⟩ : ByteArray).data.toList 48).toArray⟩ : ByteArray).toList.isEmpty = false → GoodDigits (W1.data.toList ++ (⟨(Lib.trimRightB (⟨#[]⟩ : ByteArray).data.toList 48).toArray⟩ : ByteArray).data.toList)) := fun h => good_frac' HW1.out HFD.out (fun e => absurd e (ne_of_empty hw1)) h
            generalize (⟨(Lib.trimRightB (⟨#[]⟩ : ByteArray).data.toList 48).toArray⟩ : ByteArray) = F2 at *
            rcases Bool.eq_false_or_eq_true F2.toList.isEmpty with hf2 | hf2
            · go_wp2_with fail
              refine (Any.strings_TrimRight_one Tryd.lays162 W1 48 (by decide) _ (by omega)).mono ?_
              rintro e w6 ⟨rfl, rfl⟩
              have HGW : Hid (GoodDigits ((⟨(Lib.trimRightB W1.data.toList 48).toArray⟩ : ByteArray).data.toList ++ F2.data.toList)) := good_whole' HW1.out hf2
              have hW2b := right_facts W1
              generalize (⟨(Lib.trimRightB W1.data.toList 48).toArray⟩ : ByteArray) = W2 at *
              rcases Bool.eq_false_or_eq_true W2.toList.isEmpty with hw2 | hw2
              · go_wp2_with fail
                refine bodyPost_ret (v := .tuple #[.agg #[.bool false, .string ⟨#[]⟩, .string ⟨#[]⟩, .int .i64 0], .bool true]) (by simp [results, Tryd.results18, go_sem]) rfl ?_
                exact ⟨parsed_zero HACC.out, below_al HBv3.out _ _⟩
              · go_wp2_with fail
                refine bodyPost_ret (v := .tuple #[.agg #[.bool false, .string W2, .string F2, .int .i64 _], .bool true]) (by simp [results, Tryd.results18, go_sem]; rfl) rfl ?_
                exact ⟨parsed_yes HACC.out HG.out (ne_of_app hw2) HGW.out (by omega) (by omega), below_al HBv3.out _ _⟩
            · go_wp2_with fail
              refine bodyPost_ret (v := .tuple #[.agg #[.bool false, .string W1, .string F2, .int .i64 _], .bool true]) (by simp [results, Tryd.results18, go_sem]; rfl) rfl ?_
              exact ⟨parsed_yes HACC.out HG.out (ne_of_app' hf2) (HGF.out hf2) (by omega) (by omega), below_al HBv3.out _ _⟩
        · go_wp2_with fail
          refine bodyPost_ret (v := .tuple #[.agg #[.bool false, .string ⟨#[]⟩, .string ⟨#[]⟩, .int .i64 0], .bool false]) (by simp [results, Tryd.results18, go_sem]) rfl ?_
          exact ⟨parsed_no (exp_rest HT.out HTY.out (HRR.out (by trivial)) hre), below_al HBv3.out _ _⟩
      have e101 : ((Y[0].toNat : Int) == 101) = false := by rw [beq_eq_false_iff_ne]; omega
      have e69 : ((Y[0].toNat : Int) == 69) = false := by rw [beq_eq_false_iff_ne]; omega
      go_wp2_with fail
      all_goals first
        | (refine bodyPost_ret (v := .tuple #[.agg #[.bool false, .string ⟨#[]⟩, .string ⟨#[]⟩, .int .i64 0], .bool false]) (by simp [results, Tryd.results18, go_sem]) rfl ?_; exact ⟨parsed_no (HT.out.trans (tail_no Y hY (by omega))), below_al HBv1.out _ _⟩)
        | (exfalso; omega)
        | (exfalso; simp only [beq_iff_eq] at *; omega)
  · have HT : Hid (numOk (unneg L) = tailOk Y.data.toList) := HNUM.out.trans (frac_nil Y hY)
    have HFD : Hid ((⟨#[]⟩ : ByteArray).data.toList.all isDig = true) := rfl
    have hFb0 : (⟨#[]⟩ : ByteArray).size ≤ 1048576 := by decide
    clear HNUM
    have hTe : Y.toList.isEmpty = true := empty_yes Y hY
    have HACC : Hid (numOk (unneg L) = true) := HT.out.trans (tail_nil Y hY)
    clear HT
    go_wp2_with fail
    refine (Any.strings_TrimLeft_one Tryd.lays161 W0 48 (by decide) _).mono ?_
    rintro e w3 ⟨rfl, rfl⟩
    obtain ⟨hW1b, HW1⟩ := left_facts W0 HWD.out
    generalize (⟨(Lib.trimLeftB W0.data.toList 48).toArray⟩ : ByteArray) = W1 at *
    rcases Bool.eq_false_or_eq_true W1.toList.isEmpty with hw1 | hw1
    · go_wp2_with fail
      refine (Any.strings_TrimLeft_one Tryd.lays161 (⟨#[]⟩ : ByteArray) 48 (by decide) _).mono ?_
      rintro e w4 ⟨rfl, rfl⟩
      obtain ⟨hF1b, HF1⟩ := left_facts (⟨#[]⟩ : ByteArray) HFD.out
      generalize (⟨(Lib.trimLeftB (⟨#[]⟩ : ByteArray).data.toList 48).toArray⟩ : ByteArray) = F1 at *
      go_wp2_with fail
      refine (Any.strings_TrimRight_one Tryd.lays162 F1 48 (by decide) _ (by omega)).mono ?_
      rintro e w5 ⟨rfl, rfl⟩
      have HF2 := right_facts F1
      have HGF : Hid ((⟨(Lib.trimRightB F1.data.toList 48).toArray⟩ : ByteArray).toList.isEmpty = false → GoodDigits (W1.data.toList ++ (⟨(Lib.trimRightB F1.data.toList 48).toArray⟩ : ByteArray).data.toList)) := fun h => good_frac' HW1.out HF1.out.1 (fun _ => HF1.out.2) h
      generalize (⟨(Lib.trimRightB F1.data.toList 48).toArray⟩ : ByteArray) = F2 at *
      rcases Bool.eq_false_or_eq_true F2.toList.isEmpty with hf2 | hf2
      · go_wp2_with fail
        refine (Any.strings_TrimRight_one Tryd.lays162 W1 48 (by decide) _ (by omega)).mono ?_
        rintro e w6 ⟨rfl, rfl⟩
        have HGW : Hid (GoodDigits ((⟨(Lib.trimRightB W1.data.toList 48).toArray⟩ : ByteArray).data.toList ++ F2.data.toList)) := good_whole' HW1.out hf2
        have hW2b := right_facts W1
        generalize (⟨(Lib.trimRightB W1.data.toList 48).toArray⟩ : ByteArray) = W2 at *
        rcases Bool.eq_false_or_eq_true W2.toList.isEmpty with hw2 | hw2
        · go_wp2_with fail
          refine bodyPost_ret (v := .tuple #[.agg #[.bool false, .string ⟨#[]⟩, .string ⟨#[]⟩, .int .i64 0], .bool true]) (by simp [results, Tryd.results18, go_sem]) rfl ?_
          exact ⟨parsed_zero HACC.out, below_al HBv1.out _ _⟩
        · go_wp2_with fail
          refine bodyPost_ret (v := .tuple #[.agg #[.bool false, .string W2, .string F2, .int .i64 _], .bool true]) (by simp [results, Tryd.results18, go_sem]; rfl) rfl ?_
          exact ⟨parsed_yes HACC.out HG.out (ne_of_app hw2) HGW.out (by omega) (by omega), below_al HBv1.out _ _⟩
      · go_wp2_with fail
        refine bodyPost_ret (v := .tuple #[.agg #[.bool false, .string W1, .string F2, .int .i64 _], .bool true]) (by simp [results, Tryd.results18, go_sem]; rfl) rfl ?_
        exact ⟨parsed_yes HACC.out HG.out (ne_of_app' hf2) (HGF.out hf2) (by omega) (by omega), below_al HBv1.out _ _⟩
    · go_wp2_with fail
      refine (Any.strings_TrimRight_one Tryd.lays162 (⟨#[]⟩ : ByteArray) 48 (by decide) _ (by omega)).mono ?_
      rintro e w5 ⟨rfl, rfl⟩
      have HF2 := right_facts (⟨#[]⟩ : ByteArray)
      have HGF : Hid ((⟨(Lib.trimRightB (⟨#[]⟩ : ByteArray).data.toList 48).toArray⟩ : ByteArray).toList.isEmpty = false → GoodDigits (W1.data.toList ++ (⟨(Lib.trimRightB (⟨#[]⟩ : ByteArray).data.toList 48).toArray⟩ : ByteArray).data.toList)) := fun h => good_frac' HW1.out HFD.out (fun e => absurd e (ne_of_empty hw1)) h
      generalize (⟨(Lib.trimRightB (⟨#[]⟩ : ByteArray).data.toList 48).toArray⟩ : ByteArray) = F2 at *
      rcases Bool.eq_false_or_eq_true F2.toList.isEmpty with hf2 | hf2
      · go_wp2_with fail
        refine (Any.strings_TrimRight_one Tryd.lays162 W1 48 (by decide) _ (by omega)).mono ?_
        rintro e w6 ⟨rfl, rfl⟩
        have HGW : Hid (GoodDigits ((⟨(Lib.trimRightB W1.data.toList 48).toArray⟩ : ByteArray).data.toList ++ F2.data.toList)) := good_whole' HW1.out hf2
        have hW2b := right_facts W1
        generalize (⟨(Lib.trimRightB W1.data.toList 48).toArray⟩ : ByteArray) = W2 at *
        rcases Bool.eq_false_or_eq_true W2.toList.isEmpty with hw2 | hw2
        · go_wp2_with fail
          refine bodyPost_ret (v := .tuple #[.agg #[.bool false, .string ⟨#[]⟩, .string ⟨#[]⟩, .int .i64 0], .bool true]) (by simp [results, Tryd.results18, go_sem]) rfl ?_
          exact ⟨parsed_zero HACC.out, below_al HBv1.out _ _⟩
        · go_wp2_with fail
          refine bodyPost_ret (v := .tuple #[.agg #[.bool false, .string W2, .string F2, .int .i64 _], .bool true]) (by simp [results, Tryd.results18, go_sem]; rfl) rfl ?_
          exact ⟨parsed_yes HACC.out HG.out (ne_of_app hw2) HGW.out (by omega) (by omega), below_al HBv1.out _ _⟩
      · go_wp2_with fail
        refine bodyPost_ret (v := .tuple #[.agg #[.bool false, .string W1, .string F2, .int .i64 _], .bool true]) (by simp [results, Tryd.results18, go_sem]; rfl) rfl ?_
        exact ⟨parsed_yes HACC.out HG.out (ne_of_app' hf2) (HGF.out hf2) (by omega) (by omega), below_al HBv1.out _ _⟩
end Go.Proofs.Qxb6003914aDoor
