/-
  Lists of strings in rows of the call's own; concatVersions (8).
-/
import Derived.Test.Qxb6615015aDoorB
import Derived.Laws.AppendOwnNone
namespace Go.Proofs.Qxb6615015aDoor
open Go.RowKit

theorem info9 : (Tryd.prog.info? 9).map (fun i => (i.zero, i.size, i.bytes)) = some (some (.string ⟨#[]⟩), 1, 16) := by kernel_rfl

/-- The versions of constraint i, and of the first k. -/
def versL (D : Cons) (i : Nat) : List ByteArray := (List.range (D.N i)).map (D.V i)
def catV (D : Cons) : Nat → List ByteArray
  | 0 => []
  | k + 1 => catV D k ++ versL D k
theorem versL_len (D : Cons) (i : Nat) : (versL D i).length = D.N i := by simp [versL]
theorem catV_len (D : Cons) : ∀ k, 16 * (catV D k).length ≤ wt D k
  | 0 => by simp [catV, wt]
  | k + 1 => by
    have := catV_len D k
    simp only [catV, wt, List.length_append, versL_len]
    omega
theorem wt_mono (D : Cons) {j k : Nat} (h : j ≤ k) : wt D j ≤ wt D k := by
  induction h with
  | refl => exact Nat.le_refl _
  | step _ ih => simp only [wt]; omega

/-- Strings as cells. -/
def strC (l : List ByteArray) : List Value := l.map Value.string
theorem strC_append (l m : List ByteArray) : strC (l ++ m) = strC l ++ strC m := by simp [strC]
theorem strC_len (l : List ByteArray) : (strC l).length = l.length := by simp [strC]
theorem strC_one (l : List ByteArray) : ∀ x ∈ strC l, x.oneCell' = true := by
  intro x hx
  simp [strC] at hx
  obtain ⟨s, -, rfl⟩ := hx
  rfl
theorem versC_get {D : Cons} {i j : Nat} {x : Value} (h : (strC (versL D i))[j]? = some x) : j < D.N i ∧ x = .string (D.V i j) := by
  unfold strC versL at h
  rw [List.map_map, List.getElem?_map] at h
  by_cases hj : j < D.N i
  · rw [List.getElem?_range hj] at h
    simp at h
    exact ⟨hj, h.symm⟩
  · rw [List.getElem?_eq_none (by simp; omega)] at h
    cases h

theorem own_block {w : World} {base : Nat} {e : TypeId} {size : Nat} {v : Value} {n : Nat} {xs : List Value} (h : w.ownsRow base e size v n xs) : ∀ k, v.ownBlock = some k → base ≤ k := by
  intro k hk
  rcases h.2 with ⟨rfl, -⟩ | ⟨g, cap, cur, rfl, hb, -⟩
  · cases hk
  · simp [Value.ownBlock] at hk
    omega

/-- A row of strings of the call's own, read as a slice of strings. -/
theorem own_strs {w : World} {base : Nat} {v : Value} {l : List ByteArray} (h : w.ownsRow base 9 1 v l.length (strC l)) (hs : ∀ x ∈ l, x.size ≤ maxLen) : IsStrs w v l.length (fun j => l.getD j ⟨#[]⟩) := by
  have hh := h
  rcases h.2 with ⟨rfl, h0⟩ | ⟨g, cap, cur, rfl, hb, hg, h1, h2, h3, h4⟩
  · refine ⟨none, 0, by rw [h0], by omega, Nat.zero_le _, fun _ => rfl, fun j hj => by omega, fun j hj => by omega⟩
  · refine ⟨some ⟨g, 0, none⟩, cap, rfl, h1, h2, (fun e => by cases e), fun j hj => ?_, fun j hj => ⟨g, 0, rfl, fun i hi => ?_⟩⟩
    · show (l.getD j ⟨#[]⟩).size ≤ maxLen
      rw [List.getD_eq_getElem?_getD, List.getElem?_eq_getElem hj]
      exact hs _ (List.getElem_mem hj)
    · rw [Nat.zero_add, World.ownsRow.cellAt hh i (by omega)]
      simp [strC, hi]

theorem cat_step {w : World} {base : Nat} {v : Value} {D : Cons} {k : Nat} (h : w.ownsRow base 9 1 v ((catV D k).length + D.N k) (strC (catV D k) ++ strC (versL D k))) : w.ownsRow base 9 1 v (catV D (k + 1)).length (strC (catV D (k + 1))) := by
  have e : (catV D (k + 1)).length = (catV D k).length + D.N k := by simp [catV, versL_len]
  rw [e, catV, strC_append]
  exact h
theorem cat_same {w : World} {base : Nat} {v : Value} {D : Cons} {k : Nat} (h0 : D.N k = 0) (h : w.ownsRow base 9 1 v (catV D k).length (strC (catV D k))) : w.ownsRow base 9 1 v (catV D (k + 1)).length (strC (catV D (k + 1))) := by
  have e : versL D k = [] := List.eq_nil_of_length_eq_zero (by rw [versL_len, h0])
  rw [catV, e, List.append_nil]
  exact h

set_option maxHeartbeats 1000000 in
theorem concat_any (v : Value) (n : Nat) (D : Cons) (w : World) (hv : IsCons w v n D) (hw : wt D n ≤ 1048576) :
    Calls Tryd.prog 8 #[v] w fun e w' => ∃ u, e = .returned u ∧ w'.ownsRow w.heap.size 9 1 u (catV D n).length (strC (catV D n)) ∧ Below w.heap.size w w' := by
  obtain ⟨a, c, rfl, hc, hm, hx⟩ := hv
  unfold maxLen at hm
  obtain ⟨i0, hi, hz0, hz1, hz2⟩ := info_parts info9
  have HX : Hid (∀ j, j < n → ∃ b o, a = some ⟨b, o, none⟩ ∧ ∀ i, i < n → (D.X i).size ≤ maxLen ∧ w.cell? ⟨b, o + i * 2, none⟩ = some (.string (D.X i)) ∧ ∃ u, w.cell? ⟨b, o + i * 2 + 1, none⟩ = some u ∧ IsStrs w u (D.N i) (D.V i)) := hx; clear hx
  go_enter Tryd.func8, Tryd.ntmps8
  go_wp2
  go_loopw [3, 8] (fun z i W => ∃ k : Nat, k ≤ n ∧ i = .int .i64 k ∧ W.ownsRow w.heap.size 9 1 z (catV D k).length (strC (catV D k)) ∧ Below w.heap.size w W) (fun _ i _ => n - (intOf i).toNat)
  case atStart => exact ⟨0, Nat.zero_le _, rfl, World.ownsRow_nil _ _ _ _, Below.refl _ _⟩
  case round =>
    obtain ⟨k, hk, rfl, hown, hbr⟩ := hrel
    by_cases hlt : k < n
    · obtain ⟨b', o, ha, hcell⟩ := HX.out k hlt
      subst ha
      obtain ⟨hsk, hc0, u, hc1, hu⟩ := hcell k hlt
      obtain ⟨a2, c2, e2, hle2, hcap2, hn2, hs2, hx2⟩ := hu
      subst e2
      have hc0' := cell_below hbr hc0
      have hc1' := cell_below hbr hc1
      have hlen : 16 * (catV D k).length + 16 * D.N k ≤ 1048576 := by
        have h1 := catV_len D k
        have h2 := wt_mono D (show k + 1 ≤ n by omega)
        simp only [wt] at h2
        omega
      clear hcell hc0 hc1
      cases a2 with
      | none =>
        have h0 : D.N k = 0 := by
          rcases Nat.eq_zero_or_pos (D.N k) with h | h
          · exact h
          · obtain ⟨b2, o2, e, -⟩ := hx2 0 h
            cases e
        obtain rfl := hn2 rfl
        rw [h0] at hc1'
        have H0 : Hid (D.N k = 0) := h0
        clear hx2 hs2 hn2 hle2 hlen h0
        go_wp2_with (first | (at_builtin; refine wpList_append_own_none rfl (.tmp 12) (.tmp 14) 26 rfl w.heap.size 9 i0 1 Tryd.underlying26 hi _ _ _ rfl (hown.alloc _) rfl ?_))
        exact ⟨⟨k + 1, by omega, by go_num, cat_same H0.out (hown.alloc _), hbr.alloc hbr.size _⟩, by simp [intOf]; omega⟩
      | some ad =>
        have HSRC : Hid (∀ O : Obj, ∀ j x, (strC (versL D k))[j]? = some x → (wr.alloc O).cell? (ad.add j) = some x) := by
          intro O j x hj
          obtain ⟨hjm, rfl⟩ := versC_get hj
          obtain ⟨b2, o2, hab, hcell2⟩ := hx2 j hjm
          cases hab
          rw [Go.WideShapes.add_plain]
          exact cell_below ((Below.refl _ _).alloc (Nat.le_refl _) O) (cell_below hbr (hcell2 j hjm))
        clear hx2 hs2 hn2
        go_wp2_with (first | (at_builtin; refine wpList_append_own _ rfl (.tmp 12) (.tmp 14) 26 rfl w.heap.size 9 i0 (.string ⟨#[]⟩) 1 16 Tryd.underlying26 hi hz0 hz1 hz2 rfl (by decide) _ _ _ rfl (hown.alloc _) ad (D.N k) c2 (strC (versL D k)) rfl (by rw [strC_len, versL_len, Nat.mul_one]) (HSRC.out _) (strC_one _) (by unfold maxLen; omega) (by omega) (by have := hbr.size; simp; omega) ?_; intro v2 w2 hown2 hgrow2 _))
        exact ⟨⟨k + 1, by omega, by go_num, cat_step hown2, (hbr.alloc hbr.size _).grown hgrow2 (by have := hbr.size; simp; omega) (own_block hown)⟩, by simp [intOf]; omega⟩
    · obtain rfl : k = n := by omega
      go_wp2
      go_ret
      exact ⟨_, rfl, hown, hbr⟩
end Go.Proofs.Qxb6615015aDoor
