/-
  parseDecimal (18), walked.
-/
import Derived.Test.Qxb6003914aDoorC
namespace Go.Proofs.Qxb6003914aDoor
open Go.RowKit

theorem unneg_yes (s : ByteArray) (h : 0 < s.size) (hc : s[0].toNat = 45) : (s.extract 1 s.size).data.toList = unneg s.data.toList ∧ isNeg s.data.toList = true := by
  rw [Lib.extract_to_end, list_cons s h]
  simp [unneg, isNeg, hc]
theorem unneg_no (s : ByteArray) (h : 0 < s.size) (hc : ¬ s[0].toNat = 45) : s.data.toList = unneg s.data.toList ∧ isNeg s.data.toList = false := by
  rw [list_cons s h]
  simp only [unneg, if_neg hc, isNeg]
  simp [hc]
theorem unneg_nil (s : ByteArray) (h : ¬ 0 < s.size) : s.data.toList = unneg s.data.toList ∧ isNeg s.data.toList = false := by
  rw [list_nil s h]
  exact ⟨rfl, rfl⟩
theorem takeW_take (l : List UInt8) : l.take (l.takeWhile isDig).length = l.takeWhile isDig := by
  have h : l.takeWhile isDig ++ l.dropWhile isDig = l := List.takeWhile_append_dropWhile
  have h2 : (l.takeWhile isDig ++ l.dropWhile isDig).take (l.takeWhile isDig).length = l.takeWhile isDig := List.take_left
  rwa [h] at h2
theorem below2 (w : World) (A B : Obj) (q : Nat) : Below w.heap.size w (((w.alloc A).alloc B).drewN q) := below_drewN (((Below.refl _ _).alloc (Nat.le_refl _) A).alloc (by simp) B) q
/-- The end of the reader. -/
def Parsed (L : List UInt8) (e : Ending) : Prop := ∃ (neg : Bool) (a b : ByteArray) (p : Int) (ok : Bool), e = .returned (.tuple #[.agg #[.bool neg, .string a, .string b, .int .i64 p], .bool ok]) ∧ ok = numOk (unneg L) ∧ (ok = true → GoodDec L neg a.data.toList b.data.toList p) ∧ a.size ≤ 1048576 ∧ b.size ≤ 1048576
theorem parsed_no {L : List UInt8} (h : numOk (unneg L) = false) : Parsed L (.returned (.tuple #[.agg #[.bool false, .string ⟨#[]⟩, .string ⟨#[]⟩, .int .i64 0], .bool false])) := ⟨false, ⟨#[]⟩, ⟨#[]⟩, 0, false, rfl, h.symm, (fun h => by cases h), by decide, by decide⟩

theorem drew2 (w : World) (A B : Obj) (q : Nat) : ((w.alloc A).alloc B).drewN q = ((w.drewN q).alloc A).alloc B := rfl
theorem below_al {w v : World} (hb : Below w.heap.size w v) (A B : Obj) : Below w.heap.size w ((v.alloc A).alloc B) := (hb.alloc hb.size A).alloc (by have := hb.size; simp; omega) B
theorem head_digits (X : ByteArray) : (X.extract 0 (X.data.toList.takeWhile isDig).length).data.toList.all isDig = true := by
  rw [Lib.extract_data]
  simp only [List.drop_zero, Nat.sub_zero, takeW_take]
  exact takeW_all _
theorem frac_yes (Y : ByteArray) (h : 0 < Y.size) (hc : Y[0].toNat = 46) : fracOk Y.data.toList = (!((Y.extract 1 Y.size).data.toList.takeWhile isDig).isEmpty && tailOk ((Y.extract 1 Y.size).data.toList.dropWhile isDig)) := by
  rw [Lib.extract_to_end]
  have e := list_cons Y h
  generalize Y.data.toList.drop 1 = R at *
  rw [e, fracOk, if_pos hc]
theorem frac_no (Y : ByteArray) (h : 0 < Y.size) (hc : ¬ Y[0].toNat = 46) : fracOk Y.data.toList = tailOk Y.data.toList := by
  rw [list_cons Y h, fracOk, if_neg hc]
theorem frac_nil (Y : ByteArray) (h : ¬ 0 < Y.size) : fracOk Y.data.toList = tailOk Y.data.toList := by
  rw [list_nil Y h]
  rfl
theorem tail_yes (T : ByteArray) (h : 0 < T.size) (hc : T[0].toNat = 101 ∨ T[0].toNat = 69) : tailOk T.data.toList = expOk (T.extract 1 T.size).data.toList := by
  rw [Lib.extract_to_end]
  have e := list_cons T h
  generalize T.data.toList.drop 1 = R at *
  rw [e, tailOk, if_pos hc]
theorem tail_no (T : ByteArray) (h : 0 < T.size) (hc : ¬ (T[0].toNat = 101 ∨ T[0].toNat = 69)) : tailOk T.data.toList = false := by
  rw [list_cons T h, tailOk, if_neg hc]
theorem tail_nil (T : ByteArray) (h : ¬ 0 < T.size) : tailOk T.data.toList = true := by
  rw [list_nil T h]
  rfl
theorem empty_no (T : ByteArray) (h : 0 < T.size) : T.toList.isEmpty = false := by
  rw [ByteArray.toList_eq, list_cons T h]
  rfl
theorem empty_yes (T : ByteArray) (h : ¬ 0 < T.size) : T.toList.isEmpty = true := by
  rw [ByteArray.toList_eq, list_nil T h]
  rfl
theorem exp_no {N : Bool} {T Z : List UInt8} (h1 : N = tailOk T) (h2 : tailOk T = expOk Z) (h3 : false = !((unsign Z).takeWhile isDig).isEmpty) : N = false := by
  rw [h1, h2, expOk, ← h3]
  rfl
theorem exp_yes {N : Bool} {T Z : List UInt8} {r : ByteArray} (h1 : N = tailOk T) (h2 : tailOk T = expOk Z) (h3 : true = !((unsign Z).takeWhile isDig).isEmpty) (h4 : r.data.toList = (unsign Z).dropWhile isDig) (h5 : r.toList.isEmpty = true) : N = true := by
  rw [ByteArray.toList_eq] at h5
  rw [h1, h2, expOk, ← h3, ← h4, h5]
  rfl
theorem exp_rest {N : Bool} {T Z : List UInt8} {r : ByteArray} (h1 : N = tailOk T) (h2 : tailOk T = expOk Z) (h4 : r.data.toList = (unsign Z).dropWhile isDig) (h5 : r.toList.isEmpty = false) : N = false := by
  rw [ByteArray.toList_eq] at h5
  rw [h1, h2, expOk, ← h4, h5, Bool.and_false]
theorem frac_cut (Y : ByteArray) (h : 0 < Y.size) : 1 + ((Y.extract 1 Y.size).data.toList.takeWhile isDig).length ≤ Y.size ∧
    Hid ((Y.extract 1 (1 + ((Y.extract 1 Y.size).data.toList.takeWhile isDig).length)).data.toList = (Y.extract 1 Y.size).data.toList.takeWhile isDig) ∧
    Hid ((Y.extract 1 Y.size).data.toList.dropWhile isDig = (Y.extract (1 + ((Y.extract 1 Y.size).data.toList.takeWhile isDig).length) Y.size).data.toList) := by
  have hle := takeW_le (Y.extract 1 Y.size)
  have hsz : (Y.extract 1 Y.size).size = Y.size - 1 := by simp
  refine ⟨by omega, ?_, ?_⟩
  · show _ = _
    rw [Lib.extract_data, Lib.extract_to_end, Nat.add_sub_cancel_left, takeW_take]
  · show _ = _
    rw [Lib.extract_to_end, Lib.extract_to_end, ← drop_takeW, List.drop_drop]
theorem left_facts (W : ByteArray) (h : W.data.toList.all isDig = true) : (⟨(Lib.trimLeftB W.data.toList 48).toArray⟩ : ByteArray).size ≤ W.size ∧
    Hid ((⟨(Lib.trimLeftB W.data.toList 48).toArray⟩ : ByteArray).data.toList.all isDig = true ∧ ∀ c, (⟨(Lib.trimLeftB W.data.toList 48).toArray⟩ : ByteArray).data.toList.head? = some c → c.toNat ≠ 48) := by
  refine ⟨?_, ?_⟩
  · have : (Lib.trimLeftB W.data.toList 48).length ≤ W.data.toList.length := (List.dropWhile_sublist _).length_le
    show (Lib.trimLeftB W.data.toList 48).toArray.size ≤ W.size
    simpa using this
  · show _ ∧ _
    exact ⟨all_left h, fun c hc => left_head hc⟩
theorem right_facts (F : ByteArray) : (⟨(Lib.trimRightB F.data.toList 48).toArray⟩ : ByteArray).size ≤ F.size := by
  have : (Lib.trimRightB F.data.toList 48).length ≤ F.data.toList.length := (right_prefix _).length_le
  show (Lib.trimRightB F.data.toList 48).toArray.size ≤ F.size
  simpa using this
theorem ne_of_empty {W : ByteArray} (h : W.toList.isEmpty = false) : W.data.toList ≠ [] := by
  rw [ByteArray.toList_eq] at h
  intro e
  rw [e] at h
  cases h
theorem good_frac' {W F : ByteArray} (hW : W.data.toList.all isDig = true ∧ ∀ c, W.data.toList.head? = some c → c.toNat ≠ 48) (hF : F.data.toList.all isDig = true) (h0 : W.data.toList = [] → ∀ c, F.data.toList.head? = some c → c.toNat ≠ 48) (hne : (⟨(Lib.trimRightB F.data.toList 48).toArray⟩ : ByteArray).toList.isEmpty = false) :
    GoodDigits (W.data.toList ++ (⟨(Lib.trimRightB F.data.toList 48).toArray⟩ : ByteArray).data.toList) := by
  have := ne_of_empty hne
  exact good_frac hW.1 hF hW.2 h0 this
theorem good_whole' {W F : ByteArray} (hW : W.data.toList.all isDig = true ∧ ∀ c, W.data.toList.head? = some c → c.toNat ≠ 48) (hf : F.toList.isEmpty = true) :
    GoodDigits ((⟨(Lib.trimRightB W.data.toList 48).toArray⟩ : ByteArray).data.toList ++ F.data.toList) := by
  rw [ByteArray.toList_eq, List.isEmpty_iff] at hf
  rw [hf]
  exact good_whole hW.1 hW.2
theorem ne_of_app {W F : ByteArray} (h : W.toList.isEmpty = false) : W.data.toList ++ F.data.toList ≠ [] := fun e => ne_of_empty h (List.append_eq_nil_iff.1 e).1
theorem ne_of_app' {W F : ByteArray} (h : F.toList.isEmpty = false) : W.data.toList ++ F.data.toList ≠ [] := fun e => ne_of_empty h (List.append_eq_nil_iff.1 e).2
theorem parsed_zero {L : List UInt8} (h : numOk (unneg L) = true) : Parsed L (.returned (.tuple #[.agg #[.bool false, .string ⟨#[]⟩, .string ⟨#[]⟩, .int .i64 0], .bool true])) :=
  ⟨false, ⟨#[]⟩, ⟨#[]⟩, 0, true, rfl, h.symm, fun _ => ⟨fun _ => ⟨rfl, rfl⟩, fun h => absurd rfl h⟩, by decide, by decide⟩
theorem parsed_yes {L : List UInt8} {neg : Bool} {a b : ByteArray} {p : Int} (h : numOk (unneg L) = true) (hn : isNeg L = neg) (hne : a.data.toList ++ b.data.toList ≠ []) (hg : GoodDigits (a.data.toList ++ b.data.toList)) (ha : a.size ≤ 1048576) (hb : b.size ≤ 1048576) :
    Parsed L (.returned (.tuple #[.agg #[.bool neg, .string a, .string b, .int .i64 p], .bool true])) :=
  ⟨neg, a, b, p, true, rfl, h.symm, fun _ => ⟨fun e => absurd e hne, fun _ => ⟨hn.symm, hg⟩⟩, ha, hb⟩

end Go.Proofs.Qxb6003914aDoor
