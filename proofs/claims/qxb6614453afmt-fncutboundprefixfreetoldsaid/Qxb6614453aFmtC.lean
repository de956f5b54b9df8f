/-
  The plain laws beneath cutBound: what CutSuffix, ParseInt and Trim say together is what zzMs says. No walk.
-/
import Derived.Test.Qxb6614453aFmtA
import Derived.Lib.ParseIntB
import Derived.Lib.SlTrimSet
namespace Go.Proofs.Qxb6614453aFmt

def digSet : List UInt8 := [48, 49, 50, 51, 52, 53, 54, 55, 56, 57]
theorem digSet_contains (c : UInt8) : digSet.contains c = isDig c := by
  rw [Bool.eq_iff_iff, List.contains_iff_mem]
  simp only [isDig, decide_eq_true_eq, digSet, List.mem_cons, List.not_mem_nil, or_false]
  constructor
  · rintro (rfl | rfl | rfl | rfl | rfl | rfl | rfl | rfl | rfl | rfl) <;> decide
  · rintro ⟨h1, h2⟩
    have : c.toNat = 48 ∨ c.toNat = 49 ∨ c.toNat = 50 ∨ c.toNat = 51 ∨ c.toNat = 52 ∨ c.toNat = 53 ∨ c.toNat = 54 ∨ c.toNat = 55 ∨ c.toNat = 56 ∨ c.toNat = 57 := by omega
    simp only [← UInt8.toNat_inj]
    exact this

theorem dropWhile_nil (p : UInt8 → Bool) : ∀ l : List UInt8, l.dropWhile p = [] ↔ l.all p = true
  | [] => by simp
  | c :: r => by
    rw [List.dropWhile_cons, List.all_cons]
    cases h : p c
    · simp
    · simp [dropWhile_nil p r]

theorem trimLeft_nil (l : List UInt8) : Lib.trimLeftS l digSet = [] ↔ l.all isDig = true := by
  unfold Lib.trimLeftS
  rw [dropWhile_nil]
  simp only [digSet_contains]
theorem trim_nil (l : List UInt8) : Lib.trimS l digSet = [] ↔ l.all isDig = true := by
  unfold Lib.trimS
  rw [trimLeft_nil]
  unfold Lib.trimRightS
  simp only [digSet_contains]
  rw [List.all_reverse]
  constructor
  · intro h
    have key : ∀ m : List UInt8, (m.dropWhile isDig).all isDig = true → m.all isDig = true := by
      intro m
      induction m with
      | nil => simp
      | cons c r ih =>
        rw [List.dropWhile_cons, List.all_cons]
        cases hc : isDig c
        · simp [hc]
        · simpa using ih
    have := key _ h
    rwa [List.all_reverse] at this
  · intro h
    rw [(dropWhile_nil isDig l.reverse).2 (by rw [List.all_reverse]; exact h)]
    rfl

def valFrom (acc : Nat) (l : List UInt8) : Nat := l.foldl (fun v c => v * 10 + (c.toNat - 48)) acc
theorem valFrom_cons (acc : Nat) (c : UInt8) (r : List UInt8) : valFrom acc (c :: r) = valFrom (acc * 10 + (c.toNat - 48)) r := by
  unfold valFrom
  rw [List.foldl_cons]
theorem valFrom_ge (l : List UInt8) : ∀ acc : Nat, acc ≤ valFrom acc l := by
  induction l with
  | nil => exact fun acc => Nat.le_refl acc
  | cons c r ih =>
    intro acc
    rw [valFrom_cons]
    have := ih (acc * 10 + (c.toNat - 48))
    omega
theorem parseUintM_ok (M : Nat) : ∀ (l : List UInt8) (acc u : Nat), Lib.parseUintM M acc l = .ok u → u = valFrom acc l
  | [], acc, u, h => by
    simp only [Lib.parseUintM] at h
    injection h with h
    exact h.symm
  | c :: r, acc, u, h => by
    simp only [Lib.parseUintM] at h
    split at h
    · split at h
      · cases h
      · split at h
        · cases h
        · exact parseUintM_ok M r _ u h
    · cases h
theorem parseUintM_dig : ∀ (l : List UInt8) (acc : Nat), l.all isDig = true → valFrom acc l < 9223372036854775808 → Lib.parseUintM (2 ^ 64 - 1) acc l = .ok (valFrom acc l)
  | [], acc, _, _ => rfl
  | c :: r, acc, hl, hv => by
    rw [List.all_cons, Bool.and_eq_true] at hl
    have hc : 48 ≤ c.toNat ∧ c.toNat ≤ 57 := by simpa [isDig] using hl.1
    rw [valFrom_cons] at hv ⊢
    have hg := valFrom_ge r (acc * 10 + (c.toNat - 48))
    simp only [Lib.parseUintM]
    rw [if_pos hc, if_neg (by omega), if_neg (by omega)]
    exact parseUintM_dig r _ hl.2 hv

theorem parseIntB_dig (c : UInt8) (r : List UInt8) (hc : 48 ≤ c.toNat ∧ c.toNat ≤ 57) :
    (∀ u, Lib.parseUintM (2 ^ 64 - 1) 0 (c :: r) = .ok u → Lib.parseIntB 64 (c :: r) = if 9223372036854775808 ≤ u then .range else .ok (u : Int)) ∧
    ((∀ u, Lib.parseUintM (2 ^ 64 - 1) 0 (c :: r) ≠ .ok u) → ∀ v, Lib.parseIntB 64 (c :: r) ≠ .ok v) := by
  have h45 : ¬ c.toNat = 45 := by omega
  have h43 : ¬ (c.toNat = 43 ∨ c.toNat = 45) := by omega
  unfold Lib.parseIntB Lib.parseUintB
  simp only [if_neg h43, if_neg (show ¬ (c :: r = []) by simp)]
  constructor
  · intro u hu
    rw [hu]
    simp [h45]
  · intro hu v h
    cases hx : Lib.parseUintM (2 ^ 64 - 1) 0 (c :: r) with
    | ok u => exact hu u hx
    | _ => rw [hx] at h; cases h

/-- ParseInt of digits alone. -/
theorem parseInt_dig (l : List UInt8) (hne : l ≠ []) (hl : l.all isDig = true) (v : Int) : Lib.parseIntB 64 l = .ok v ↔ (v = val l ∧ val l < 9223372036854775808) := by
  match l, hne, hl with
  | c :: r, _, hl =>
    have hl' := hl
    rw [List.all_cons, Bool.and_eq_true] at hl
    have hc : 48 ≤ c.toNat ∧ c.toNat ≤ 57 := by simpa [isDig] using hl.1
    obtain ⟨h1, h2⟩ := parseIntB_dig c r hc
    have ev : val (c :: r) = valFrom 0 (c :: r) := rfl
    rw [ev]
    constructor
    · intro h
      cases hx : Lib.parseUintM (2 ^ 64 - 1) 0 (c :: r) with
      | ok u =>
        have hu := parseUintM_ok _ _ _ _ hx
        rw [h1 u hx] at h
        by_cases hb : 9223372036854775808 ≤ u
        · rw [if_pos hb] at h; cases h
        · rw [if_neg hb] at h
          injection h with h
          omega
      | _ => exact absurd h (h2 (fun u e => by rw [hx] at e; cases e) v)
    · rintro ⟨rfl, hv⟩
      rw [h1 _ (parseUintM_dig _ 0 hl' hv), if_neg (by omega)]

def msL : List UInt8 := [109, 115]
/-- The text without its ms. -/
def digL (l : List UInt8) : List UInt8 := Lib.trimSuffix l msL
/-- WHAT cutBound ASKS OF THE LAST FIELD. -/
def CutIs (l : List UInt8) (v : Int) : Prop := Lib.hasSuffix l msL = true ∧ Lib.trimS (digL l) digSet = [] ∧ Lib.parseIntB 64 (digL l) = .ok v ∧ 1 ≤ v ∧ v ≤ 9223372036854

theorem suffix_ms (l : List UInt8) : Lib.hasSuffix l msL = true ↔ 2 ≤ l.length ∧ l.drop (l.length - 2) = msL := by
  unfold Lib.hasSuffix
  rw [List.isSuffixOf_iff_suffix, List.suffix_iff_eq_drop]
  constructor
  · intro h
    have hl := congrArg List.length h
    simp [msL] at hl
    exact ⟨by omega, h.symm⟩
  · exact fun h => h.2.symm

theorem msB_iff (s : ByteArray) : msB s = true ↔ ∃ v, CutIs s.data.toList v := by
  have hsz : s.data.toList.length = s.size := by simp
  simp only [msB, decide_eq_true_eq]
  constructor
  · rintro ⟨h3, hd, hall, h1, h2⟩
    have hs : Lib.hasSuffix s.data.toList msL = true := (suffix_ms _).2 ⟨by omega, by rw [hsz]; exact hd⟩
    have hdl : digL s.data.toList = s.data.toList.take (s.size - 2) := by
      unfold digL Lib.trimSuffix
      rw [if_pos hs, hsz]; rfl
    refine ⟨val (s.data.toList.take (s.size - 2)), hs, ?_, ?_, by omega, by omega⟩
    · rw [hdl]; exact (trim_nil _).2 hall
    · rw [hdl]
      refine (parseInt_dig _ ?_ hall _).2 ⟨rfl, by omega⟩
      intro e
      have := congrArg List.length e
      simp at this
      omega
  · rintro ⟨v, hs, ht, hp, h1, h2⟩
    obtain ⟨hl, hd⟩ := (suffix_ms _).1 hs
    have hdl : digL s.data.toList = s.data.toList.take (s.size - 2) := by
      unfold digL Lib.trimSuffix
      rw [if_pos hs, hsz]; rfl
    rw [hdl] at ht hp
    have hall := (trim_nil _).1 ht
    by_cases hne : s.data.toList.take (s.size - 2) = []
    · rw [hne] at hp; cases hp
    · have h3 : 3 ≤ s.size := by
        have : 0 < (s.data.toList.take (s.size - 2)).length := List.length_pos_iff.2 hne
        simp at this
        omega
      obtain ⟨rfl, hv⟩ := (parseInt_dig _ hne hall v).1 hp
      exact ⟨h3, by rw [← hsz]; exact hd, hall, by omega, by omega⟩

theorem msV_eq (s : ByteArray) (v : Int) (h : CutIs s.data.toList v) : msB s = true ∧ msV s = v := by
  have hb := (msB_iff s).2 ⟨v, h⟩
  refine ⟨hb, ?_⟩
  have hsz : s.data.toList.length = s.size := by simp
  obtain ⟨hs, ht, hp, h1, h2⟩ := h
  have hdl : digL s.data.toList = s.data.toList.take (s.size - 2) := by
    unfold digL Lib.trimSuffix
    rw [if_pos hs, hsz]; rfl
  rw [hdl] at ht hp
  by_cases hne : s.data.toList.take (s.size - 2) = []
  · rw [hne] at hp; cases hp
  · obtain ⟨rfl, hv⟩ := (parseInt_dig _ hne ((trim_nil _).1 ht) v).1 hp
    simp [msV, hb]

end Go.Proofs.Qxb6614453aFmt
