/-
  ZZconstraintText (11), ZZconstraintVersions (13), build (10).
-/
import Derived.Test.Qxb6615015aDoorF
import Derived.Laws.EntriesVeiled
namespace Go.Proofs.Qxb6615015aDoor
open Go.RowKit

set_option maxHeartbeats 400000 in
theorem text_any (x : ByteArray) (a : Option Addr) (n c : Nat) (w : World) :
    Calls Tryd.prog 11 #[.agg #[.string x, .slice a n c]] w fun e w' => e = .returned (.string x) ∧ Below w.heap.size w w' := by
  go_enter Tryd.func11, Tryd.ntmps11
  go_wp2
  go_ret
  exact ⟨rfl, (Below.refl _ _).alloc (Nat.le_refl _) _⟩

theorem ownsRow_base {w : World} {base base' : Nat} {e : TypeId} {size : Nat} {v : Value} {n : Nat} {xs : List Value} (h : w.ownsRow base e size v n xs) (hb : base' ≤ base) : w.ownsRow base' e size v n xs := by
  refine ⟨h.1, ?_⟩
  rcases h.2 with h' | ⟨g, cap, cur, e1, h2, h3⟩
  · exact Or.inl h'
  · exact Or.inr ⟨g, cap, cur, e1, by omega, h3⟩
theorem strC_take_succ (l : List ByteArray) (k : Nat) (h : k < l.length) : strC (l.take (k + 1)) = strC (l.take k) ++ [.string (l.getD k ⟨#[]⟩)] := by
  rw [List.take_succ_eq_append_getElem h, strC_append]
  simp [strC, h]

set_option maxHeartbeats 1000000 in
theorem vers_any (x : ByteArray) (u : Value) (l : List ByteArray) (w : World) (b0 : Nat) (hu : HasConds w b0 u l) (hn : l.length ≤ 1048576) :
    Calls Tryd.prog 13 #[.agg #[.string x, u]] w fun e w' => ∃ v, e = .returned v ∧ w'.ownsRow w.heap.size 9 1 v l.length (strC l) ∧ Below w.heap.size w w' := by
  obtain ⟨a, c, rfl, hc, hm, -, hx⟩ := hu
  unfold maxLen at hm
  obtain ⟨i0, hi, hz0, hz1, hz2⟩ := info_parts info9
  have HX : Hid (0 < l.length → ∃ b o, a = some ⟨b, o, none⟩ ∧ b0 ≤ b ∧ ∀ j x, (condsC l)[j]? = some x → w.cell? ⟨b, o + j, none⟩ = some x) := hx; clear hx
  generalize hL : l.length = n at *
  have HL : Hid (l.length = n) := hL; clear hL
  go_enter Tryd.func13, Tryd.ntmps13
  go_wp2_with (first | (at_make; refine wpList_make_own _ rfl _ _ 26 rfl (w.heap.size + 1) 9 i0 (.string ⟨#[]⟩) 1 Tryd.underlying26 hi hz0 hz1 .i64 .i64 _ n rfl rfl rfl (by rw [hz2]; omega) (by unfold maxLen; omega) (by simp) ?_; intro w2 hown hgrow; have hbox : w2.heap[w.heap.size]? = some (.cells #[.string x, .slice a n c] 30 (0, 0)) := (hgrow.block _ (by simp) (by simp)).trans (heap_new _ _); have q1 : w2.cell? ⟨w.heap.size, 1, none⟩ = some (.slice a n c) := by simp [World.cell?, hbox]))
  have hb2 : Below w.heap.size w w2 := ((Below.refl _ _).alloc (Nat.le_refl _) _).grown hgrow (by simp) (fun _ h => by cases h)
  rw [World.size_alloc] at hown
  clear hgrow hbox q1
  go_loopw [3, 13] (fun v i wr => ∃ k : Nat, k ≤ n ∧ i = .int .i64 k ∧ v = .slice (some ⟨w.heap.size + 1, 0, none⟩) k n ∧ wr.ownsRow (w.heap.size + 1) 9 1 (.slice (some ⟨w.heap.size + 1, 0, none⟩) k n) k (strC (l.take k)) ∧ Below w.heap.size w wr)
    (fun _ i _ => n - (intOf i).toNat)
  case atStart => exact ⟨0, Nat.zero_le _, rfl, rfl, hown, hb2⟩
  case round =>
    clear hown hb2
    obtain ⟨k, hk, rfl, rfl, hown, hbr⟩ := hrel
    by_cases hlt : k < n
    · obtain ⟨b, o, ha, -, hcell⟩ := HX.out (by omega)
      subst ha
      have hkl : k < l.length := by have := HL.out; omega
      have g0 : wr.cell? ⟨b, o + k * 4, none⟩ = some (.string ⟨#[]⟩) := cell_below hbr (hcell (k * 4) _ ((condsC_get l k 0 hkl (by omega)).trans rfl))
      have g1 : wr.cell? ⟨b, o + k * 4 + 1, none⟩ = some .nilFunc := cell_below hbr (by have := hcell (k * 4 + 1) _ ((condsC_get l k 1 hkl (by omega)).trans rfl); rwa [← Nat.add_assoc] at this)
      have g2 : wr.cell? ⟨b, o + k * 4 + 2, none⟩ = some (.string (l.getD k ⟨#[]⟩)) := cell_below hbr (by have := hcell (k * 4 + 2) _ ((condsC_get l k 2 hkl (by omega)).trans rfl); rwa [← Nat.add_assoc] at this)
      have g3 : wr.cell? ⟨b, o + k * 4 + 3, none⟩ = some (.string ⟨#[]⟩) := cell_below hbr (by have := hcell (k * 4 + 3) _ ((condsC_get l k 3 hkl (by omega)).trans rfl); rwa [← Nat.add_assoc] at this)
      have HT : Hid (strC (l.take (k + 1)) = strC (l.take k) ++ [.string (l.getD k ⟨#[]⟩)]) := strC_take_succ l k hkl
      generalize l.getD k ⟨#[]⟩ = s at *
      have HONE : Hid (∀ B : Obj, ∀ j u, [Value.string s][j]? = some u → ((wr.alloc B).alloc (.cells #[.string s] 9)).cell? ((⟨wr.heap.size + 1, 0, none⟩ : Addr).add j) = some u) := fun B j u h => by
        have := cell_one_new (wr.alloc B) (.string s) 9 j u h
        rwa [World.size_alloc] at this
      clear hcell hkl
      go_wp2_with (first | (at_builtin; refine wpList_append_fits _ rfl (.tmp 17) (.tmp 21) 26 rfl (w.heap.size + 1) 9 i0 1 Tryd.underlying26 hi hz1 (w.heap.size + 1) k n (strC (l.take k)) rfl ((hown.alloc _).alloc _) ⟨wr.heap.size + 1, 0, none⟩ 1 1 [.string s] rfl rfl (HONE.out _) (fun u hu => by simp at hu; subst hu; rfl) (by omega) ?_; intro w5 hown5 hgrow5))
      exact ⟨⟨k + 1, by omega, by go_num, rfl, by rw [HT.out]; exact hown5, ((hbr.alloc hbr.size _).alloc (by have := hbr.size; simp; omega) _).grown hgrow5 (by have := hbr.size; simp; omega) (fun _ h => by cases h; exact Nat.le_succ _)⟩, by simp [intOf]; omega⟩
    · obtain rfl : k = n := by omega
      go_wp2
      go_ret
      refine ⟨_, rfl, ?_, hbr⟩
      have e : l.take k = l := List.take_of_length_le (Nat.le_of_eq HL.out)
      rw [e] at hown
      exact ownsRow_base hown (Nat.le_succ _)

/-- THE VALUE IS A SLICE OF n Constraint: text X i, conditions CL i. -/
def IsCstrs (w : World) (v : Value) (n : Nat) (X : Nat → ByteArray) (CL : Nat → List ByteArray) : Prop :=
  ∃ a c, v = .slice a n c ∧ n ≤ c ∧ c ≤ maxLen ∧
    (∀ j, j < n → ∃ b o, a = some ⟨b, o, none⟩ ∧ ∀ i, i < n → (X i).size ≤ maxLen ∧ w.cell? ⟨b, o + i * 2, none⟩ = some (.string (X i)) ∧ ∃ u, w.cell? ⟨b, o + i * 2 + 1, none⟩ = some u ∧ HasConds w 0 u (CL i))

/-- The first k constraints as cells. -/
def cstrC (X : Nat → ByteArray) (CV : Nat → Value) : Nat → List Value
  | 0 => []
  | k + 1 => cstrC X CV k ++ [.string (X k), CV k]
theorem cstrC_len (X : Nat → ByteArray) (CV : Nat → Value) : ∀ k, (cstrC X CV k).length = k * 2
  | 0 => rfl
  | k + 1 => by simp [cstrC, cstrC_len X CV k]; omega
theorem cstrC_get (X : Nat → ByteArray) (CV : Nat → Value) : ∀ k i, i < k → (cstrC X CV k)[i * 2]? = some (.string (X i)) ∧ (cstrC X CV k)[i * 2 + 1]? = some (CV i)
  | 0, i, h => by omega
  | k + 1, i, h => by
    rcases Nat.lt_succ_iff_lt_or_eq.1 h with h' | rfl
    · have ih := cstrC_get X CV k i h'
      simp only [cstrC]
      rw [List.getElem?_append_left (by rw [cstrC_len]; omega), List.getElem?_append_left (by rw [cstrC_len]; omega)]
      exact ih
    · simp only [cstrC]
      rw [List.getElem?_append_right (by rw [cstrC_len]; omega), List.getElem?_append_right (by rw [cstrC_len]; omega), cstrC_len]
      have e1 : i * 2 - i * 2 = 0 := by omega
      have e2 : i * 2 + 1 - i * 2 = 1 := by omega
      rw [e1, e2]
      exact ⟨rfl, rfl⟩
theorem cstrC_congr (X : Nat → ByteArray) {CV CV' : Nat → Value} : ∀ k, (∀ i, i < k → CV i = CV' i) → cstrC X CV k = cstrC X CV' k
  | 0, _ => rfl
  | k + 1, h => by simp only [cstrC]; rw [cstrC_congr X k (fun i hi => h i (by omega)), h k (by omega)]

theorem info30 : (Tryd.prog.info? 30).map (fun i => (i.zero, i.size, i.bytes)) = some (some (.agg #[.string ⟨#[]⟩, .slice none 0 0]), 2, 40) := by kernel_rfl

theorem own_cstrs {w : World} {base g n cap : Nat} {X : Nat → ByteArray} {CV : Nat → Value} {CL : Nat → List ByteArray} (h : w.ownsRow base 30 2 (.slice (some ⟨g, 0, none⟩) n cap) n (cstrC X CV n)) (hs : ∀ i, i < n → (X i).size ≤ maxLen) (hc : ∀ i, i < n → HasConds w 0 (CV i) (CL i)) :
    IsCstrs w (.slice (some ⟨g, 0, none⟩) n cap) n X CL := by
  have hb : n ≤ cap ∧ cap ≤ maxLen := by
    rcases h.2 with ⟨h', _⟩ | ⟨g', cap', cur, h', _, _, h1, h2, _⟩
    · cases h'
    · cases h'
      exact ⟨h1, h2⟩
  refine ⟨_, _, rfl, hb.1, hb.2, fun j hj => ⟨g, 0, rfl, fun i hi => ?_⟩⟩
  have hg := cstrC_get X CV n i hi
  refine ⟨hs i hi, ?_, CV i, ?_, hc i hi⟩
  · rw [Nat.zero_add, World.ownsRow.cellAt h (i * 2) (by omega)]
    exact hg.1
  · rw [Nat.zero_add, World.ownsRow.cellAt h (i * 2 + 1) (by omega)]
    exact hg.2

theorem own_below {w w1 : World} {base : Nat} {e : TypeId} {size : Nat} {v : Value} {n : Nat} {xs : List Value} (h : w.ownsRow base e size v n xs) (hb : Below w.heap.size w w1) : w1.ownsRow base e size v n xs := by
  refine ⟨h.1, ?_⟩
  rcases h.2 with h' | ⟨g, cap, cur, e1, h2, hg, h3⟩
  · exact Or.inl h'
  · exact Or.inr ⟨g, cap, cur, e1, h2, (hb.block g (Array.getElem?_eq_some_iff.1 hg).1).trans hg, h3⟩

set_option maxHeartbeats 1000000 in
theorem build_any (v : Value) (n : Nat) (D : Cons) (w : World) (hv : IsCons w v n D) (hw : wt D n ≤ 1048576) :
    Calls Tryd.prog 10 #[v] w fun e w' => ∃ u, e = .returned u ∧ IsCstrs w' u n D.X (versL D) ∧ Below w.heap.size w w' := by
  obtain ⟨a, c, rfl, hc, hm, hx⟩ := hv
  unfold maxLen at hm
  obtain ⟨i0, hi, hz0, hz1, hz2⟩ := info_parts info30
  have hn : 40 * n ≤ 1048576 := by
    have : ∀ k, 40 * k ≤ wt D k := fun k => by
      induction k with
      | zero => simp [wt]
      | succ k ih => simp only [wt]; omega
    have := this n
    omega
  have HX : Hid (∀ j, j < n → ∃ b o, a = some ⟨b, o, none⟩ ∧ ∀ i, i < n → (D.X i).size ≤ maxLen ∧ w.cell? ⟨b, o + i * 2, none⟩ = some (.string (D.X i)) ∧ ∃ u, w.cell? ⟨b, o + i * 2 + 1, none⟩ = some u ∧ IsStrs w u (D.N i) (D.V i)) := hx; clear hx
  go_enter Tryd.func10, Tryd.ntmps10
  go_wp2_with (first | (at_make; refine wpList_make_own _ rfl _ _ 32 rfl w.heap.size 30 i0 (.agg #[.string ⟨#[]⟩, .slice none 0 0]) 2 Tryd.underlying32 hi hz0 hz1 .i64 .i64 _ n rfl rfl rfl (by rw [hz2]; omega) (by unfold maxLen; omega) (Nat.le_refl _) ?_; intro w2 hown hgrow))
  have hb2 : Below w.heap.size w w2 := (Below.refl _ _).grown hgrow (Nat.le_refl _) (fun _ h => by cases h)
  clear hgrow
  go_loopw [3, 11] (fun v i wr => ∃ (k : Nat) (CV : Nat → Value), k ≤ n ∧ i = .int .i64 k ∧ v = .slice (some ⟨w.heap.size, 0, none⟩) k n ∧ wr.ownsRow w.heap.size 30 2 (.slice (some ⟨w.heap.size, 0, none⟩) k n) k (cstrC D.X CV k) ∧ Below w.heap.size w wr ∧ ∀ i, i < k → HasConds wr (w.heap.size + 1) (CV i) (versL D i))
    (fun _ i _ => n - (intOf i).toNat)
  case atStart => exact ⟨0, fun _ => .nilFunc, Nat.zero_le _, rfl, rfl, hown, hb2, fun i h => absurd h (Nat.not_lt_zero _)⟩
  case round =>
    clear hown hb2
    obtain ⟨k, CV, hk, rfl, rfl, hown, hbr, hconds⟩ := hrel
    have HCO : Hid (∀ i, i < k → HasConds wr (w.heap.size + 1) (CV i) (versL D i)) := hconds; clear hconds
    by_cases hlt : k < n
    · obtain ⟨b', o, ha, hcell⟩ := HX.out k hlt
      subst ha
      obtain ⟨hsk, hc0, u, hc1, hu⟩ := hcell k hlt
      obtain ⟨a2, c2, e2⟩ := hu.shape
      subst e2
      have hc0' := cell_below hbr hc0
      have hc1' := cell_below hbr hc1
      have HU : Hid (∀ O : Obj, IsStrs (wr.alloc O) (.slice a2 (D.N k) c2) (D.N k) (D.V k)) := fun O => (hu.below hbr).below ((Below.refl _ _).alloc (Nat.le_refl _) O)
      have hNk : D.N k ≤ 1048576 := by
        have h2 := wt_mono D (show k + 1 ≤ n by omega)
        simp only [wt] at h2
        omega
      have hsz : w.heap.size < wr.heap.size := own_lt hown _ rfl
      clear hcell hc0 hc1 hu
      go_wp2_with fail
      refine (newCon_any _ _ _ _ _ (HU.out _) hNk).mono ?_
      rintro e w3 ⟨u3, rfl, hu3, hb3⟩
      obtain ⟨a3, c3, e3⟩ := hu3.shape
      subst e3
      have hb3' : Below wr.heap.size wr w3 := below_trans ((Below.refl _ _).alloc (Nat.le_refl _) _) hb3
      have hown3 := own_below hown hb3'
      have hbw : Below w.heap.size w w3 := hbr.trans (hb3'.mono (by omega))
      have hs3 : wr.heap.size ≤ w3.heap.size := hb3'.size
      have hu3' : HasConds w3 (w.heap.size + 1) (.slice a3 (listOf (D.V k) (D.N k)).length c3) (versL D k) := hu3.base (by simp; omega)
      have HC3 : Hid (∀ i, i < k → HasConds w3 (w.heap.size + 1) (CV i) (versL D i)) := fun i hi' => (HCO.out i hi').below hb3'
      have HU3 : Hid (HasConds w3 (w.heap.size + 1) (.slice a3 (listOf (D.V k) (D.N k)).length c3) (versL D k)) := hu3'
      clear hu3 hu3' HCO hb3 hb3' HU hown hbr hc0' hc1'
      generalize hlv : (listOf (D.V k) (D.N k)).length = lv at *
      clear hlv
      have HNEW : Hid (∀ j u, [Value.string (D.X k), .slice a3 lv c3][j]? = some u → (w3.alloc (.cells #[.string (D.X k), .slice a3 lv c3] 30)).cell? ((⟨w3.heap.size, 0, none⟩ : Addr).add j) = some u) := cells_new w3 _ 30
      go_wp2_with (first | (at_builtin; refine wpList_append_fits _ rfl (.tmp 15) (.tmp 21) 32 rfl w.heap.size 30 i0 2 Tryd.underlying32 hi hz1 w.heap.size k n (cstrC D.X CV k) rfl (hown3.alloc _) ⟨w3.heap.size, 0, none⟩ 1 1 [.string (D.X k), .slice a3 lv c3] rfl rfl HNEW.out (fun u hu => by simp at hu; rcases hu with rfl | rfl <;> rfl) (by omega) ?_; intro w5 hown5 hgrow5))
      refine ⟨⟨k + 1, fun i => if i = k then .slice a3 lv c3 else CV i, by omega, by go_num, rfl, ?_, (hbw.alloc hbw.size _).grown hgrow5 (by simp; omega) (fun _ h => by cases h; exact Nat.le_refl _), fun i hi' => ?_⟩, by simp [intOf]; omega⟩
      · have e : cstrC D.X (fun i => if i = k then .slice a3 lv c3 else CV i) (k + 1) = cstrC D.X CV k ++ [.string (D.X k), .slice a3 lv c3] := by
          simp only [cstrC, if_true]
          rw [cstrC_congr D.X k (fun i hi' => if_neg (by omega))]
        rw [e]
        exact hown5
      · have hup : ∀ (v : Value) (l : List ByteArray), HasConds w3 (w.heap.size + 1) v l → HasConds w5 (w.heap.size + 1) v l := fun v l h =>
          (h.below ((Below.refl _ _).alloc (Nat.le_refl _) _)).grown hgrow5 (Nat.lt_succ_self _)
        by_cases he : i = k
        · subst he
          simp only [if_true]
          exact hup _ _ HU3.out
        · simp only [if_neg he]
          exact hup _ _ (HC3.out i (by omega))
    · obtain rfl : k = n := by omega
      go_wp2
      go_ret
      refine ⟨_, rfl, own_cstrs hown (fun i hi' => ?_) (fun i hi' => (HCO.out i hi').base (Nat.zero_le _)), hbr⟩
      obtain ⟨b', o, ha, hcell⟩ := HX.out i hi'
      exact (hcell i hi').1
end Go.Proofs.Qxb6615015aDoor
