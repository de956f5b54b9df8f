/-
  The grammar: the automaton and the reader accept the same texts.
-/
import Derived.Test.Qxb6003914aDoorB
namespace Go.Proofs.Qxb6003914aDoor
open Go.RowKit

def expOk (r : List UInt8) : Bool := !((unsign r).takeWhile isDig).isEmpty && ((unsign r).dropWhile isDig).isEmpty
def tailOk : List UInt8 → Bool
  | [] => true
  | c :: r => if c.toNat = 101 ∨ c.toNat = 69 then expOk r else false
def fracOk : List UInt8 → Bool
  | [] => true
  | c :: r => if c.toNat = 46 then !(r.takeWhile isDig).isEmpty && tailOk (r.dropWhile isDig) else tailOk (c :: r)
def numOk (l : List UInt8) : Bool := !(l.takeWhile isDig).isEmpty && fracOk (l.dropWhile isDig)
/-- The text without its minus. -/
def unneg : List UInt8 → List UInt8
  | [] => []
  | c :: r => if c.toNat = 45 then r else c :: r

theorem dig_range {c : UInt8} (h : isDig c = true) : 48 ≤ c.toNat ∧ c.toNat ≤ 57 := by simpa [isDig] using h
theorem run7 : ∀ l : List UInt8, run 7 l = (l.dropWhile isDig).isEmpty
  | [] => rfl
  | c :: r => by
    cases h : isDig c
    · rw [run_stop (by simp [step, h]), List.dropWhile_cons, h]
      rfl
    · rw [run_step (t := 7) (by simp [step, h]), List.dropWhile_cons, h, run7 r]
      rfl
theorem run6 (l : List UInt8) : run 6 l = (!(l.takeWhile isDig).isEmpty && (l.dropWhile isDig).isEmpty) := by
  cases l with
  | nil => rfl
  | cons c r =>
    cases h : isDig c
    · rw [run_stop (by simp [step, h]), List.takeWhile_cons, h]
      rfl
    · rw [run_step (t := 7) (by simp [step, h]), List.dropWhile_cons, List.takeWhile_cons, h, run7 r]
      rfl
theorem run5 (l : List UInt8) : run 5 l = expOk l := by
  cases l with
  | nil => rfl
  | cons c r =>
    unfold expOk
    by_cases hs : c.toNat = 43 ∨ c.toNat = 45
    · rw [run_step (t := 6) (by simp [step, hs]), run6, unsign, if_pos hs]
    · rw [unsign, if_neg hs]
      cases h : isDig c
      · rw [run_stop (by simp only [step, h]; simp [hs]), List.takeWhile_cons, h]
        rfl
      · rw [run_step (t := 7) (by simp only [step, h]; simp [hs]), List.dropWhile_cons, List.takeWhile_cons, h, run7 r]
        rfl
theorem run4 : ∀ l : List UInt8, run 4 l = tailOk (l.dropWhile isDig)
  | [] => rfl
  | c :: r => by
    cases h : isDig c
    · rw [List.dropWhile_cons, h]
      show _ = tailOk (c :: r)
      by_cases he : c.toNat = 101 ∨ c.toNat = 69
      · rw [run_step (t := 5) (by simp only [step, h]; simp [he]), tailOk, if_pos he, run5]
      · rw [run_stop (by simp only [step, h]; simp [he]), tailOk, if_neg he]
    · rw [run_step (t := 4) (by simp [step, h]), List.dropWhile_cons, h, run4 r]
      rfl
theorem run3 (l : List UInt8) : run 3 l = (!(l.takeWhile isDig).isEmpty && tailOk (l.dropWhile isDig)) := by
  cases l with
  | nil => rfl
  | cons c r =>
    cases h : isDig c
    · rw [run_stop (by simp [step, h]), List.takeWhile_cons, h]
      rfl
    · rw [run_step (t := 4) (by simp [step, h]), List.dropWhile_cons, List.takeWhile_cons, h, run4 r]
      rfl
theorem run2 : ∀ l : List UInt8, run 2 l = fracOk (l.dropWhile isDig)
  | [] => rfl
  | c :: r => by
    cases h : isDig c
    · rw [List.dropWhile_cons, h]
      show _ = fracOk (c :: r)
      by_cases hp : c.toNat = 46
      · rw [run_step (t := 3) (by simp only [step, h]; simp [hp]), fracOk, if_pos hp, run3]
      · rw [fracOk, if_neg hp]
        by_cases he : c.toNat = 101 ∨ c.toNat = 69
        · rw [run_step (t := 5) (step2_e h he), tailOk, if_pos he, run5]
        · rw [run_stop (step2_none h (by omega)), tailOk, if_neg he]
    · rw [run_step (t := 2) (by simp [step, h]), List.dropWhile_cons, h, run2 r]
      rfl
theorem run1 (l : List UInt8) : run 1 l = numOk l := by
  unfold numOk
  cases l with
  | nil => rfl
  | cons c r =>
    cases h : isDig c
    · rw [run_stop (by simp [step, h]), List.takeWhile_cons, h]
      rfl
    · rw [run_step (t := 2) (by simp [step, h]), List.dropWhile_cons, List.takeWhile_cons, h, run2 r]
      rfl
theorem run0 (l : List UInt8) : run 0 l = numOk (unneg l) := by
  cases l with
  | nil => rfl
  | cons c r =>
    by_cases hm : c.toNat = 45
    · rw [run_step (t := 1) (by simp [step, hm]), run1, unneg, if_pos hm]
    · rw [unneg, if_neg hm]
      unfold numOk
      cases h : isDig c
      · rw [run_stop (by simp only [step, h]; simp [hm]), List.takeWhile_cons, h]
        rfl
      · rw [run_step (t := 2) (by simp only [step, h]; simp [hm]), List.dropWhile_cons, List.takeWhile_cons, h, run2 r]
        rfl

/-- What the law asks of the digits that are kept. -/
def GoodDigits (d : List UInt8) : Prop := d.all isDig = true ∧ (∀ c, d.head? = some c → c.toNat ≠ 48) ∧ (∀ c, d.getLast? = some c → c.toNat ≠ 48)
def isNeg : List UInt8 → Bool
  | [] => false
  | c :: _ => decide (c.toNat = 45)
/-- What the reader hands back where it accepts. -/
def GoodDec (L : List UInt8) (neg : Bool) (a b : List UInt8) (p : Int) : Prop :=
  (a ++ b = [] → neg = false ∧ p = 0) ∧ (a ++ b ≠ [] → neg = isNeg L ∧ GoodDigits (a ++ b))

theorem dropW_head {p : UInt8 → Bool} : ∀ {l : List UInt8} {c : UInt8}, (l.dropWhile p).head? = some c → p c = false
  | [], _, h => by cases h
  | x :: r, c, h => by
    rw [List.dropWhile_cons] at h
    cases hx : p x
    · rw [hx] at h
      simp at h
      rw [← h]
      exact hx
    · rw [hx] at h
      exact dropW_head h
theorem left_head {l : List UInt8} {c : UInt8} (h : (Lib.trimLeftB l 48).head? = some c) : c.toNat ≠ 48 := by
  have := dropW_head h
  intro e
  have : c = 48 := by rw [← UInt8.toNat_inj]; exact e
  subst this
  simp at *
theorem right_last {l : List UInt8} {c : UInt8} (h : (Lib.trimRightB l 48).getLast? = some c) : c.toNat ≠ 48 := by
  unfold Lib.trimRightB at h
  rw [List.getLast?_reverse] at h
  have := dropW_head h
  intro e
  have : c = 48 := by rw [← UInt8.toNat_inj]; exact e
  subst this
  simp at *
theorem right_prefix (l : List UInt8) : Lib.trimRightB l 48 <+: l := by
  unfold Lib.trimRightB
  have h : (l.reverse.dropWhile (· == 48)) <:+ l.reverse := List.dropWhile_suffix _
  have := List.reverse_prefix.2 h
  simpa using this
theorem right_head {l : List UInt8} {c : UInt8} (h : (Lib.trimRightB l 48).head? = some c) : l.head? = some c := by
  obtain ⟨t, ht⟩ := right_prefix l
  rw [← ht]
  cases hx : Lib.trimRightB l 48 with
  | nil => rw [hx] at h; cases h
  | cons y r => rw [hx] at h; exact h
theorem all_sub {l m : List UInt8} (h : l.all isDig = true) (hs : ∀ c ∈ m, c ∈ l) : m.all isDig = true := by
  rw [List.all_eq_true] at h ⊢
  exact fun c hc => h c (hs c hc)
theorem all_left {l : List UInt8} (h : l.all isDig = true) : (Lib.trimLeftB l 48).all isDig = true := all_sub h (fun _ hc => (List.dropWhile_sublist _).subset hc)
theorem all_right {l : List UInt8} (h : l.all isDig = true) : (Lib.trimRightB l 48).all isDig = true := all_sub h (fun _ hc => (right_prefix l).subset hc)
/-- A point was kept behind the whole part's digits. -/
theorem good_frac {W F : List UInt8} (hW : W.all isDig = true) (hF : F.all isDig = true) (hw : ∀ c, W.head? = some c → c.toNat ≠ 48) (h0 : W = [] → ∀ c, F.head? = some c → c.toNat ≠ 48) (hne : Lib.trimRightB F 48 ≠ []) : GoodDigits (W ++ Lib.trimRightB F 48) := by
  refine ⟨by rw [List.all_append, hW, all_right hF]; rfl, fun c hc => ?_, fun c hc => ?_⟩
  · cases W with
    | nil => exact h0 rfl c (right_head hc)
    | cons x r => exact hw c hc
  · have : (W ++ Lib.trimRightB F 48).getLast? = (Lib.trimRightB F 48).getLast? := by
      rw [List.getLast?_append]
      cases hg : (Lib.trimRightB F 48).getLast? with
      | none => exact absurd (List.getLast?_eq_none_iff.1 hg) hne
      | some y => rfl
    rw [this] at hc
    exact right_last hc
/-- No fraction was kept. -/
theorem good_whole {W : List UInt8} (hW : W.all isDig = true) (hw : ∀ c, W.head? = some c → c.toNat ≠ 48) : GoodDigits (Lib.trimRightB W 48 ++ []) := by
  rw [List.append_nil]
  exact ⟨all_right hW, fun c hc => hw c (right_head hc), fun c hc => right_last hc⟩
theorem takeW_all (l : List UInt8) : (l.takeWhile isDig).all isDig = true := List.all_takeWhile
end Go.Proofs.Qxb6003914aDoor
