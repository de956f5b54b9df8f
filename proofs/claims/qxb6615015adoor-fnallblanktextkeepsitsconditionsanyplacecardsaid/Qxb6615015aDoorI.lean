/-
  Plain laws on the texts and the conditions at a cut; the data of a cut slice.
-/
import Derived.Test.Qxb6615015aDoorH
namespace Go.Proofs.Qxb6615015aDoor
open Go.RowKit

theorem IsCons.below {w w1 : World} {v : Value} {n : Nat} {D : Cons} (h : IsCons w v n D) (hb : Below w.heap.size w w1) : IsCons w1 v n D := by
  obtain ⟨a, c, rfl, h1, h2, hx⟩ := h
  refine ⟨a, c, rfl, h1, h2, fun j hj => ?_⟩
  obtain ⟨b, o, rfl, hcell⟩ := hx j hj
  refine ⟨b, o, rfl, fun i hi => ?_⟩
  obtain ⟨s1, s2, u, s3, s4⟩ := hcell i hi
  exact ⟨s1, cell_below hb s2, u, cell_below hb s3, s4.below hb⟩
theorem IsCstrs.below {w w1 : World} {v : Value} {n : Nat} {X : Nat → ByteArray} {CL : Nat → List ByteArray} (h : IsCstrs w v n X CL) (hb : Below w.heap.size w w1) : IsCstrs w1 v n X CL := by
  obtain ⟨a, c, rfl, h1, h2, hx⟩ := h
  refine ⟨a, c, rfl, h1, h2, fun j hj => ?_⟩
  obtain ⟨b, o, rfl, hcell⟩ := hx j hj
  refine ⟨b, o, rfl, fun i hi => ?_⟩
  obtain ⟨s1, s2, u, s3, s4⟩ := hcell i hi
  exact ⟨s1, cell_below hb s2, u, cell_below hb s3, s4.below hb⟩
theorem IsCons.take {w : World} {a : Option Addr} {c n k : Nat} {D : Cons} (h : IsCons w (.slice a n c) n D) (hk : k ≤ n) : IsCons w (.slice a k c) k D := by
  obtain ⟨a', c', he, h1, h2, hx⟩ := h
  cases he
  refine ⟨_, _, rfl, by omega, h2, fun j hj => ?_⟩
  obtain ⟨b, o, rfl, hcell⟩ := hx j (by omega)
  exact ⟨b, o, rfl, fun i hi => hcell i (by omega)⟩

/-- The data from the k-th constraint on. -/
def shift (D : Cons) (k : Nat) : Cons := ⟨fun i => D.X (k + i), fun i => D.N (k + i), fun i => D.V (k + i)⟩

theorem nbL_add (X : Nat → ByteArray) (k : Nat) : ∀ m, nbL X (k + m) = nbL X k ++ nbL (fun i => X (k + i)) m
  | 0 => by simp [nbL]
  | m + 1 => by
    have : k + (m + 1) = (k + m) + 1 := by omega
    rw [this, nbL, nbL_add X k m, nbL, List.append_assoc]
theorem catV_add (D : Cons) (k : Nat) : ∀ m, catV D (k + m) = catV D k ++ catV (shift D k) m
  | 0 => by simp [catV]
  | m + 1 => by
    have : k + (m + 1) = (k + m) + 1 := by omega
    rw [this, catV, catV_add D k m, catV, List.append_assoc]
    rfl
theorem wt_add (D : Cons) (k : Nat) : ∀ m, wt D (k + m) = wt D k + wt (shift D k) m
  | 0 => by simp [wt]
  | m + 1 => by
    have : k + (m + 1) = (k + m) + 1 := by omega
    rw [this, wt, wt_add D k m, wt]
    simp only [shift]
    omega
theorem catC_catV (D : Cons) : ∀ k, catC (versL D) k = catV D k
  | 0 => rfl
  | k + 1 => by rw [catC, catV, catC_catV D k]

/-- No text of the list is blanks alone. -/
def noBlank (l : List (List UInt8)) : Prop := ∀ x ∈ l, x.all isBlank = false
theorem nbL_noBlank (X : Nat → ByteArray) : ∀ k, noBlank (nbL X k)
  | 0 => fun x hx => by cases hx
  | k + 1 => by
    intro x hx
    rw [nbL, List.mem_append] at hx
    rcases hx with h | h
    · exact nbL_noBlank X k x h
    · cases hb : blanksB (X k)
      · rw [hb] at h
        simp at h
        subst h
        exact hb
      · rw [hb] at h
        simp at h
theorem joinNB_cons (x : List UInt8) (l : List (List UInt8)) (h : l ≠ []) : joinNB (x :: l) = x ++ ([44, 32] ++ joinNB l) := by
  cases l with
  | nil => exact absurd rfl h
  | cons y r =>
    unfold joinNB
    rw [Lib.join_cons, Lib.join_cons]
    simp [Lib.joinTail]
theorem joinNB_append : ∀ (l m : List (List UInt8)), l ≠ [] → m ≠ [] → joinNB (l ++ m) = joinNB l ++ ([44, 32] ++ joinNB m)
  | [], _, h, _ => absurd rfl h
  | [x], m, _, hm => by rw [List.singleton_append, joinNB_cons x m hm, joinNB_one]
  | x :: y :: r, m, _, hm => by
    have ih := joinNB_append (y :: r) m (by simp) hm
    rw [List.cons_append, joinNB_cons x _ (by simp), ih, joinNB_cons x _ (by simp)]
    simp [List.append_assoc]
theorem joinNB_blank : ∀ (l : List (List UInt8)), noBlank l → ((joinNB l).all isBlank = true ↔ l = [])
  | [], _ => by simp [joinNB_nil]
  | [x], h => by
    rw [joinNB_one]
    have := h x (by simp)
    simp [this]
  | x :: y :: r, h => by
    rw [joinNB_cons x _ (by simp)]
    have := h x (by simp)
    simp only [List.all_append, this, Bool.false_and, Bool.false_eq_true, false_iff]
    simp

/-- Two texts, each joined, joined anew. -/
def twoX (a b : ByteArray) : Nat → ByteArray := fun i => if i = 0 then a else b
def twoC (a b : List ByteArray) : Nat → List ByteArray := fun i => if i = 0 then a else b
theorem two_join (l m : List (List UInt8)) (hl : noBlank l) (hm : noBlank m) : joinNB (nbL (twoX ⟨(joinNB l).toArray⟩ ⟨(joinNB m).toArray⟩) 2) = joinNB (l ++ m) := by
  have b0 : blanksB (twoX ⟨(joinNB l).toArray⟩ ⟨(joinNB m).toArray⟩ 0) = decide (l = []) := by
    rw [Bool.eq_iff_iff, decide_eq_true_eq]
    exact joinNB_blank l hl
  have b1 : blanksB (twoX ⟨(joinNB l).toArray⟩ ⟨(joinNB m).toArray⟩ 1) = decide (m = []) := by
    rw [Bool.eq_iff_iff, decide_eq_true_eq]
    exact joinNB_blank m hm
  have e : nbL (twoX ⟨(joinNB l).toArray⟩ ⟨(joinNB m).toArray⟩) 2 = (if l = [] then [] else [joinNB l]) ++ (if m = [] then [] else [joinNB m]) := by
    simp only [nbL, b0, b1, decide_eq_true_eq, List.nil_append]
    rfl
  rw [e]
  by_cases h1 : l = []
  · by_cases h2 : m = []
    · simp [h1, h2]
    · simp [h1, h2, joinNB_one]
  · by_cases h2 : m = []
    · simp [h1, h2, joinNB_one]
    · rw [joinNB_append l m h1 h2, if_neg h1, if_neg h2, List.singleton_append, joinNB_cons _ _ (by simp), joinNB_one]
theorem two_cat (l m : List ByteArray) : catC (twoC l m) 2 = l ++ m := by simp [catC, twoC]
end Go.Proofs.Qxb6615015aDoor
