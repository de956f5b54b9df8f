/-
  A constraint inserted: data, cells, plain laws.
-/
import Derived.Test.Qxb6615015aDoorL
namespace Go.Proofs.Qxb6615015aDoor
open Go.RowKit

theorem info38 : (Tryd.prog.info? 38).map (fun i => (i.zero, i.size, i.bytes)) = some (some (.agg #[.string ⟨#[]⟩, .slice none 0 0]), 2, 40) := by kernel_rfl

theorem IsCons.cells {w : World} {a : Option Addr} {n c : Nat} {D : Cons} (h : IsCons w (.slice a n c) n D) :
    ∃ CV : Nat → Value, (∀ i, i < n → IsStrs w (CV i) (D.N i) (D.V i)) ∧ ∀ j x, (cstrC D.X CV n)[j]? = some x → ∃ b o, a = some ⟨b, o, none⟩ ∧ w.cell? ⟨b, o + j, none⟩ = some x := by
  obtain ⟨a', c', he, h1, h2, hx⟩ := h
  cases he
  have each : ∀ i, ∃ u : Value, i < n → IsStrs w u (D.N i) (D.V i) ∧ ∃ b o, a = some ⟨b, o, none⟩ ∧ w.cell? ⟨b, o + i * 2, none⟩ = some (.string (D.X i)) ∧ w.cell? ⟨b, o + i * 2 + 1, none⟩ = some u := by
    intro i
    by_cases hi : i < n
    · obtain ⟨b, o, rfl, hcell⟩ := hx i hi
      obtain ⟨-, h3, u, h4, h5⟩ := hcell i hi
      exact ⟨u, fun _ => ⟨h5, b, o, rfl, h3, h4⟩⟩
    · exact ⟨.nilFunc, fun h => absurd h hi⟩
  obtain ⟨CV, hCV⟩ := Classical.axiomOfChoice each
  refine ⟨CV, fun i hi => (hCV i hi).1, fun j x hj => ?_⟩
  have hlt : j < n * 2 := by
    have := (List.getElem?_eq_some_iff.1 hj).1
    rwa [cstrC_len] at this
  obtain ⟨-, b, o, rfl, h3, h4⟩ := hCV (j / 2) (by omega)
  have hg := cstrC_get D.X CV n (j / 2) (by omega)
  refine ⟨b, o, rfl, ?_⟩
  rcases Nat.mod_two_eq_zero_or_one j with he | he
  · have e : j = j / 2 * 2 := by omega
    rw [e, hg.1] at hj
    rw [e, h3]
    exact hj
  · have e : j = j / 2 * 2 + 1 := by omega
    rw [e, hg.2] at hj
    rw [e, ← Nat.add_assoc, h4]
    exact hj

theorem cstrC_one (X : Nat → ByteArray) (CV : Nat → Value) : ∀ k, (∀ i, i < k → ∃ a n c, CV i = .slice a n c) → ∀ u ∈ cstrC X CV k, u.oneCell' = true
  | 0, _, u, hu => by cases hu
  | k + 1, h, u, hu => by
    rw [cstrC, List.mem_append] at hu
    rcases hu with hu | hu
    · exact cstrC_one X CV k (fun i hi => h i (by omega)) u hu
    · simp at hu
      rcases hu with rfl | rfl
      · rfl
      · obtain ⟨a, n, c, e⟩ := h k (by omega)
        rw [e]
        rfl
theorem cstrC_add (X : Nat → ByteArray) (CV : Nat → Value) (k : Nat) : ∀ m, cstrC X CV (k + m) = cstrC X CV k ++ cstrC (fun i => X (k + i)) (fun i => CV (k + i)) m
  | 0 => by simp [cstrC]
  | m + 1 => by
    have : k + (m + 1) = (k + m) + 1 := by omega
    rw [this, cstrC, cstrC_add X CV k m, cstrC, List.append_assoc]
theorem cstrC_congr2 {X X' : Nat → ByteArray} {CV CV' : Nat → Value} : ∀ k, (∀ i, i < k → X i = X' i ∧ CV i = CV' i) → cstrC X CV k = cstrC X' CV' k
  | 0, _ => rfl
  | k + 1, h => by simp only [cstrC]; rw [cstrC_congr2 k (fun i hi => h i (by omega)), (h k (by omega)).1, (h k (by omega)).2]
theorem nbL_congr {X X' : Nat → ByteArray} : ∀ k, (∀ i, i < k → X i = X' i) → nbL X k = nbL X' k
  | 0, _ => rfl
  | k + 1, h => by simp only [nbL]; rw [nbL_congr k (fun i hi => h i (by omega)), h k (by omega)]
theorem wt_congr {D D' : Cons} : ∀ k, (∀ i, i < k → D.X i = D'.X i ∧ D.N i = D'.N i) → wt D k = wt D' k
  | 0, _ => rfl
  | k + 1, h => by simp only [wt]; rw [wt_congr k (fun i hi => h i (by omega)), (h k (by omega)).1, (h k (by omega)).2]

/-- y laid at the k-th place. -/
def insF {α : Type} (f : Nat → α) (k : Nat) (y : α) : Nat → α := fun i => if i < k then f i else if i = k then y else f (i - 1)
def insD (D : Cons) (k : Nat) (x : ByteArray) (N : Nat) (V : Nat → ByteArray) : Cons := ⟨insF D.X k x, insF D.N k N, insF D.V k V⟩
theorem insF_lt {α : Type} (f : Nat → α) (k : Nat) (y : α) {i : Nat} (h : i < k) : insF f k y i = f i := if_pos h
theorem insF_eq {α : Type} (f : Nat → α) (k : Nat) (y : α) : insF f k y k = y := by
  unfold insF
  rw [if_neg (by omega), if_pos rfl]
theorem insF_gt {α : Type} (f : Nat → α) (k : Nat) (y : α) (i : Nat) : insF f k y (k + 1 + i) = f (k + i) := by
  unfold insF
  rw [if_neg (by omega), if_neg (by omega)]
  congr 1
  omega
theorem cstrC_ins (X : Nat → ByteArray) (CV : Nat → Value) (k n : Nat) (hk : k ≤ n) (x : ByteArray) (u : Value) :
    cstrC (insF X k x) (insF CV k u) (n + 1) = (cstrC X CV k ++ [.string x, u]) ++ cstrC (fun i => X (k + i)) (fun i => CV (k + i)) (n - k) := by
  have e : n + 1 = (k + 1) + (n - k) := by omega
  rw [e, cstrC_add, cstrC, insF_eq, insF_eq, cstrC_congr2 (X' := X) (CV' := CV) k (fun i hi => ⟨insF_lt _ _ _ hi, insF_lt _ _ _ hi⟩)]
  congr 1
  exact cstrC_congr2 _ (fun i _ => ⟨insF_gt _ _ _ i, insF_gt _ _ _ i⟩)
theorem nbL_ins (X : Nat → ByteArray) (k n : Nat) (hk : k ≤ n) (x : ByteArray) (hx : blanksB x = true) : nbL (insF X k x) (n + 1) = nbL X n := by
  have e : n + 1 = (k + 1) + (n - k) := by omega
  rw [e, nbL_add, nbL, insF_eq, hx, nbL_congr (X' := X) k (fun i hi => insF_lt _ _ _ hi), nbL_congr (X' := fun i => X (k + i)) _ (fun i _ => insF_gt _ _ _ i)]
  have e2 : n = k + (n - k) := by omega
  rw [show nbL X n = nbL X (k + (n - k)) by rw [← e2], nbL_add]
  simp
theorem wt_ins (D : Cons) (k n : Nat) (hk : k ≤ n) (x : ByteArray) (N : Nat) (V : Nat → ByteArray) : wt (insD D k x N V) (n + 1) = wt D n + (40 + x.size + 16 * N) := by
  have e : n + 1 = (k + 1) + (n - k) := by omega
  have e2 : n = k + (n - k) := by omega
  have h1 : wt D n = wt D k + wt (shift D k) (n - k) := by rw [← wt_add, ← e2]
  have h2 : wt (insD D k x N V) k = wt D k := wt_congr k (fun i hi => ⟨insF_lt _ _ _ hi, insF_lt _ _ _ hi⟩)
  have h3 : wt (shift (insD D k x N V) (k + 1)) (n - k) = wt (shift D k) (n - k) := wt_congr _ (fun i _ => ⟨insF_gt _ _ _ i, insF_gt _ _ _ i⟩)
  rw [e, wt_add, wt, h2, h3, h1]
  have q1 : (insD D k x N V).X k = x := insF_eq _ _ _
  have q2 : (insD D k x N V).N k = N := insF_eq _ _ _
  rw [q1, q2]
  omega

theorem own_cons {w : World} {base g n cap : Nat} {D : Cons} {CV : Nat → Value} (h : w.ownsRow base 38 2 (.slice (some ⟨g, 0, none⟩) n cap) n (cstrC D.X CV n)) (hs : ∀ i, i < n → (D.X i).size ≤ maxLen) (hc : ∀ i, i < n → IsStrs w (CV i) (D.N i) (D.V i)) :
    IsCons w (.slice (some ⟨g, 0, none⟩) n cap) n D := by
  have hb : n ≤ cap ∧ cap ≤ maxLen := by
    rcases h.2 with ⟨h', _⟩ | ⟨g', cap', cur, h', _, _, h1, h2, _⟩
    · cases h'
    · cases h'
      exact ⟨h1, h2⟩
  refine ⟨_, _, rfl, hb.1, hb.2, fun j hj => ⟨g, 0, rfl, fun i hi => ?_⟩⟩
  have hg := cstrC_get D.X CV n i hi
  refine ⟨hs i hi, ?_, CV i, ?_, hc i hi⟩
  · rw [Nat.zero_add, World.ownsRow.cellAt h (i * 2) (by omega)]
    exact hg.1
  · rw [Nat.zero_add, World.ownsRow.cellAt h (i * 2 + 1) (by omega)]
    exact hg.2
/-- The inserted row, read as a slice of Con. -/
theorem own_ins {w : World} {base g n cap k : Nat} {D : Cons} {CV : Nat → Value} {x : ByteArray} {u : Value} {N : Nat} {V : Nat → ByteArray} (hk : k ≤ n)
    (h : w.ownsRow base 38 2 (.slice (some ⟨g, 0, none⟩) (n + 1) cap) (n + 1) ((cstrC D.X CV k ++ [.string x, u]) ++ cstrC (fun i => D.X (k + i)) (fun i => CV (k + i)) (n - k)))
    (hs : ∀ i, i < n → (D.X i).size ≤ maxLen) (hx : x.size ≤ maxLen) (hc : ∀ i, i < n → IsStrs w (CV i) (D.N i) (D.V i)) (hu : IsStrs w u N V) :
    IsCons w (.slice (some ⟨g, 0, none⟩) (n + 1) cap) (n + 1) (insD D k x N V) := by
  have part : ∀ i, i < n + 1 → i < k ∨ i = k ∨ ∃ j, i = k + 1 + j ∧ k + j < n := fun i hi => by
    rcases Nat.lt_trichotomy i k with h | h | h
    · exact Or.inl h
    · exact Or.inr (Or.inl h)
    · exact Or.inr (Or.inr ⟨i - (k + 1), by omega, by omega⟩)
  refine own_cons (base := base) (D := insD D k x N V) (CV := insF CV k u) ?_ (fun i hi => ?_) (fun i hi => ?_)
  · show w.ownsRow base 38 2 _ (n + 1) (cstrC (insF D.X k x) (insF CV k u) (n + 1))
    rw [cstrC_ins _ _ _ _ hk]
    exact h
  · show (insF D.X k x i).size ≤ maxLen
    rcases part i hi with h | rfl | ⟨j, rfl, hj⟩
    · rw [insF_lt _ _ _ h]; exact hs i (by omega)
    · rw [insF_eq]; exact hx
    · rw [insF_gt]; exact hs _ hj
  · show IsStrs w (insF CV k u i) (insF D.N k N i) (insF D.V k V i)
    rcases part i hi with h | rfl | ⟨j, rfl, hj⟩
    · rw [insF_lt _ _ _ h, insF_lt _ _ _ h, insF_lt _ _ _ h]; exact hc i (by omega)
    · rw [insF_eq, insF_eq, insF_eq]; exact hu
    · rw [insF_gt, insF_gt, insF_gt]; exact hc _ hj
theorem IsCons.szX {w : World} {v : Value} {n : Nat} {D : Cons} (h : IsCons w v n D) : ∀ i, i < n → (D.X i).size ≤ maxLen := by
  obtain ⟨a, c, rfl, -, -, hx⟩ := h
  intro i hi
  obtain ⟨b, o, rfl, hcell⟩ := hx i hi
  exact (hcell i hi).1
/-- The cells of the head and of the tail, at the address that the cut bears. -/
theorem head_cells {w : World} {a : Option Addr} {n : Nat} {X : Nat → ByteArray} {CV : Nat → Value} (h : ∀ j x, (cstrC X CV n)[j]? = some x → ∃ b o, a = some ⟨b, o, none⟩ ∧ w.cell? ⟨b, o + j, none⟩ = some x) {k : Nat} (hk : k ≤ n) :
    ∀ ad, a = some ad → ∀ j u, (cstrC X CV k)[j]? = some u → w.cell? (ad.add j) = some u := by
  intro ad ha j u hj
  have hlt : j < (cstrC X CV k).length := (List.getElem?_eq_some_iff.1 hj).1
  obtain ⟨b, o, e, hc⟩ := h j u (by
    have e : n = k + (n - k) := by omega
    rw [e, cstrC_add, List.getElem?_append_left hlt]
    exact hj)
  rw [ha] at e
  cases e
  rw [Go.WideShapes.add_plain]
  exact hc
theorem tail_cells {w : World} {a : Option Addr} {n : Nat} {X : Nat → ByteArray} {CV : Nat → Value} (h : ∀ j x, (cstrC X CV n)[j]? = some x → ∃ b o, a = some ⟨b, o, none⟩ ∧ w.cell? ⟨b, o + j, none⟩ = some x) {k : Nat} (hk : k ≤ n) :
    ∀ ad, Option.map (fun x => x.add (k * 2)) a = some ad → ∀ j u, (cstrC (fun i => X (k + i)) (fun i => CV (k + i)) (n - k))[j]? = some u → w.cell? (ad.add j) = some u := by
  intro ad ha j u hj
  obtain ⟨b, o, e, hc⟩ := h (k * 2 + j) u (by
    have e : n = k + (n - k) := by omega
    rw [e, cstrC_add, List.getElem?_append_right (by rw [cstrC_len]; omega), cstrC_len, Nat.add_sub_cancel_left]
    exact hj)
  subst e
  simp only [Option.map_some, Option.some.injEq] at ha
  subst ha
  rw [Go.WideShapes.add_plain, Go.WideShapes.add_plain, Nat.add_assoc]
  exact hc
end Go.Proofs.Qxb6615015aDoor
