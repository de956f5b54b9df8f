/-
  FnAllBlankTextKeepsItsConditionsAnyPlace (4), walked.
-/
import Derived.Test.Qxb6615015aDoorM
namespace Go.Proofs.Qxb6615015aDoor
open Go.RowKit

/-- What is carried behind the insertion. -/
def St4 (w0 : World) (v : Value) (n : Nat) (D : Cons) (iv : Value) (E : Cons) (W : World) : Prop := Below w0.heap.size w0 W ∧ IsCons W v n D ∧ IsCons W iv (n + 1) E
theorem St4.below {w0 W W1 : World} {v iv : Value} {n : Nat} {D E : Cons} (h : St4 w0 v n D iv E W) (hb : Below W.heap.size W W1) : St4 w0 v n D iv E W1 := ⟨below_trans h.1 hb, h.2.1.below hb, h.2.2.below hb⟩

/-- A constraint in a box. -/
def Box (W : World) (B : Nat) (T : ByteArray) (u : Value) (l : List ByteArray) : Prop := W.cell? ⟨B, 0, none⟩ = some (.string T) ∧ W.cell? ⟨B, 1, none⟩ = some u ∧ HasConds W 0 u l
theorem Box.below {W W1 : World} {B : Nat} {T : ByteArray} {u : Value} {l : List ByteArray} (h : Box W B T u l) (hb : Below W.heap.size W W1) : Box W1 B T u l := ⟨cell_below hb h.1, cell_below hb h.2.1, h.2.2.below hb⟩
theorem box_new (W : World) (T : ByteArray) (u : Value) (l : List ByteArray) (hu : HasConds W 0 u l) : Box (W.alloc (.cells #[.string T, u] 30)) W.heap.size T u l := ⟨by rw [World.cell?_alloc_new]; rfl, by rw [World.cell?_alloc_new]; rfl, hu.below (below_alloc _ _)⟩
theorem Box.lt {W : World} {B : Nat} {T : ByteArray} {u : Value} {l : List ByteArray} (h : Box W B T u l) : B < W.heap.size := World.block_lt_of_cell? _ _ h.1
theorem below_drewN' (w : World) (q : Nat) : Below w.heap.size w (w.drewN q) := below_drewN (Below.refl _ _) q

/-- The constraints' cells lie at the slice's address. -/
def CellsAt (w : World) (a : Option Addr) (X : Nat → ByteArray) (CV : Nat → Value) (n : Nat) : Prop := ∀ j x, (cstrC X CV n)[j]? = some x → ∃ b o, a = some ⟨b, o, none⟩ ∧ w.cell? ⟨b, o + j, none⟩ = some x
theorem CellsAt.below {w w1 : World} {a : Option Addr} {X : Nat → ByteArray} {CV : Nat → Value} {n : Nat} (h : CellsAt w a X CV n) (hb : Below w.heap.size w w1) : CellsAt w1 a X CV n := fun j x hj => by
  obtain ⟨b, o, e, h1⟩ := h j x hj
  exact ⟨b, o, e, cell_below hb h1⟩
theorem below_make {w w1 : World} (h : w.grownBy w1 none) : Below w.heap.size w w1 := (Below.refl _ _).grown h (Nat.le_refl _) (fun _ h => by cases h)
theorem below_app {w w1 w2 : World} (hb : Below w.heap.size w w1) (h : w1.grownBy w2 (some w.heap.size)) : Below w.heap.size w w2 := hb.grown h hb.size (fun _ h => by cases h; exact Nat.le_refl _)
theorem cons_one {w : World} {D : Cons} {CV : Nat → Value} {n : Nat} (h : ∀ i, i < n → IsStrs w (CV i) (D.N i) (D.V i)) : ∀ m, m ≤ n → ∀ u ∈ cstrC D.X CV m, u.oneCell' = true := fun m hm => cstrC_one _ _ _ (fun i hi => by
    obtain ⟨a', c', e⟩ := (h i (by omega)).shape
    exact ⟨a', _, c', e⟩)
theorem cons_one' {w : World} {D : Cons} {CV : Nat → Value} {n : Nat} (h : ∀ i, i < n → IsStrs w (CV i) (D.N i) (D.V i)) (k : Nat) (hk : k ≤ n) : ∀ u ∈ cstrC (fun i => D.X (k + i)) (fun i => CV (k + i)) (n - k), u.oneCell' = true := cstrC_one _ _ _ (fun i hi => by
    obtain ⟨a', c', e⟩ := (h (k + i) (by omega)).shape
    exact ⟨a', _, c', e⟩)
theorem own0 {w : World} {base g c k : Nat} {xs : List Value} (h : w.ownsRow base 38 2 (.slice (some ⟨g, 0, none⟩) (0 + k) c) (0 + k) ([] ++ xs)) : w.ownsRow base 38 2 (.slice (some ⟨g, 0, none⟩) k c) k xs := by
  rw [Nat.zero_add] at h
  exact h

/-- The address of the cut's tail, and its capacity. -/
theorem tail_none {a : Option Addr} {n c k : Nat} (_ : n ≤ c) (hk : k ≤ n) (hnil : a = none → c = 0) : (if c = k then a else Option.map (fun x => x.add (k * 2)) a) = none → n - k = 0 ∧ c - k = 0 := by
  intro h
  have : a = none := by
    split at h
    · exact h
    · simpa using h
  have := hnil this
  omega
theorem tail_at {w : World} {a : Option Addr} {n c k : Nat} {X : Nat → ByteArray} {CV : Nat → Value} (h : CellsAt w a X CV n) (hc : n ≤ c) (hk : k ≤ n) :
    ∀ ad, (if c = k then a else Option.map (fun x => x.add (k * 2)) a) = some ad → ∀ j u, (cstrC (fun i => X (k + i)) (fun i => CV (k + i)) (n - k))[j]? = some u → w.cell? (ad.add j) = some u := by
  intro ad ha j u hj
  by_cases e : c = k
  · rw [show n - k = 0 by omega] at hj
    simp [cstrC] at hj
  · rw [if_neg e] at ha
    exact tail_cells h hk ad ha j u hj

set_option maxHeartbeats 2000000 in
set_option maxRecDepth 100000 in
theorem blank_walk (a : Option Addr) (n c : Nat) (D : Cons) (x : ByteArray) (u : Value) (N : Nat) (V : Nat → ByteArray) (k : Int) (w : World) (hv : IsCons w (.slice a n c) n D) (hnil : a = none → c = 0) (hsx : x.size ≤ maxLen) (hu : IsStrs w u N V) :
    Calls Tryd.prog 4 #[.slice a n c, .agg #[.string x, u], .int .i64 k] w fun e w' => e = .returned (.bool true) ∧ Below w.heap.size w w' := by
  obtain ⟨au, cu, eu⟩ := hu.shape
  subst eu
  have hm : n ≤ c ∧ c ≤ maxLen := by obtain ⟨a', c', he, h1, h2, -⟩ := hv; cases he; exact ⟨h1, h2⟩
  obtain ⟨hc, hm⟩ := hm
  unfold maxLen at hm
  have hal := below_alloc w (.cells #[.string x, .slice au N cu] 38)
  have k0 : (w.alloc (.cells #[.string x, .slice au N cu] 38)).cell? ⟨w.heap.size, 0, none⟩ = some (.string x) := by rw [World.cell?_alloc_new]; rfl
  have k1 : (w.alloc (.cells #[.string x, .slice au N cu] 38)).cell? ⟨w.heap.size, 1, none⟩ = some (.slice au N cu) := by rw [World.cell?_alloc_new]; rfl
  have HV0 : Hid (IsCons (w.alloc (.cells #[.string x, .slice au N cu] 38)) (.slice a n c) n D) := hv.below hal
  have HU0 : Hid (IsStrs (w.alloc (.cells #[.string x, .slice au N cu] 38)) (.slice au N cu) N V) := hu.below hal
  clear hv hu
  go_enter Tryd.func4, Tryd.ntmps4
  go_wp2_with fail
  generalize (w.alloc (.cells #[.string x, .slice au N cu] 38)) = w0 at *
  refine (bytes14 _ _ _ _ _ _ _ _ _ HV0.out hsx HU0.out).mono ?_
  rintro e w1 ⟨⟨r, rfl⟩, hb1⟩
  have hB1 := below_trans hal hb1
  have HV1 : Hid (IsCons w1 (.slice a n c) n D) := HV0.out.below hb1
  have HU1 : Hid (IsStrs w1 (.slice au N cu) N V) := HU0.out.below hb1
  replace k0 := cell_below hb1 k0
  replace k1 := cell_below hb1 k1
  clear HV0 HU0 hal hb1
  cases r
  · go_wp2_with fail
    go_ret
    exact ⟨rfl, hB1⟩
  go_wp2_with fail
  · go_ret
    exact ⟨rfl, hB1⟩
  refine (conBytes_any _ _ _ _ _ HV1.out (by omega) (by omega)).mono ?_
  rintro e w2 ⟨⟨r, rfl, hr1, hr2⟩, hb2⟩
  have hB2 := below_trans hB1 hb2
  by_cases hr : r < 0
  · go_wp2_with fail
    go_ret
    exact ⟨rfl, hB2⟩
  have hwt : r + wt D n ≤ 1048576 := hr2 (by omega)
  have HV2 : Hid (IsCons w2 (.slice a n c) n D) := HV1.out.below hb2
  have HU2 : Hid (IsStrs w2 (.slice au N cu) N V) := HU1.out.below hb2
  replace k0 := cell_below hb2 k0
  replace k1 := cell_below hb2 k1
  clear hr2 HV1 HU1 hB1 hb2
  go_wp2_with fail
  refine (conOne_any _ _ _ _ _ _ hsx HU2.out (by omega) (by omega)).mono ?_
  rintro e w3 ⟨⟨r3, rfl, hr31, hr32⟩, hb3⟩
  have hB3 := below_trans hB2 hb3
  by_cases hr3 : r3 < 0
  · go_wp2_with fail
    go_ret
    exact ⟨rfl, hB3⟩
  have hwi : wt D n + (40 + x.size + 16 * N) ≤ 1048576 := by have := hr32 (by omega); omega
  have HV3 : Hid (IsCons w3 (.slice a n c) n D) := HV2.out.below hb3
  have HU3 : Hid (IsStrs w3 (.slice au N cu) N V) := HU2.out.below hb3
  replace k0 := cell_below hb3 k0
  replace k1 := cell_below hb3 k1
  clear hr32 HV2 HU2 hB2 hb3
  by_cases hk0 : k < 0
  · go_wp2_with fail
    go_ret
    exact ⟨rfl, hB3⟩
  by_cases hkn : (n : Int) < k
  · go_wp2_with fail
    go_ret
    exact ⟨rfl, hB3⟩
  obtain ⟨kk, rfl⟩ := Int.eq_ofNat_of_zero_le (show 0 ≤ k by omega)
  have hkk : kk ≤ n := by omega
  go_wp2_with fail
  clear hk0 hkn hr hr1 hr3 hr31
  refine (isBlanks_any _ _ hsx).mono ?_
  rintro e w4 ⟨rfl, hw4⟩
  subst hw4
  cases hbl : blanksB x
  · go_wp2_with fail
    go_ret
    exact ⟨rfl, hB3⟩
  obtain ⟨i0, hi, hz0, hz1, hz2⟩ := info_parts info38
  have hn40 : 40 * n ≤ 1048576 := by have := wt_ge D n; omega
  obtain ⟨CV, hCV, hcells⟩ := HV3.out.cells
  have HCV : Hid (∀ i, i < n → IsStrs w4 (CV i) (D.N i) (D.V i)) := hCV
  have HC4 : Hid (CellsAt w4 a D.X CV n) := hcells
  have hnil' : a = none → kk = 0 ∧ c = 0 := fun h => ⟨by have := hnil h; omega, hnil h⟩
  have HW4 : Hid (w.heap.size < w4.heap.size) := World.block_lt_of_cell? _ _ k0
  clear hCV hcells
  go_wp2_with (first
    | (at_make; refine wpList_make_own _ rfl _ _ 22 rfl w4.heap.size 38 i0 (.agg #[.string ⟨#[]⟩, .slice none 0 0]) 2 Tryd.underlying22 hi hz0 hz1 .i64 .i64 _ (n + 1) rfl rfl (by first | rfl | omega | go_num) (by rw [hz2]; omega) (by unfold maxLen; omega) (Nat.le_refl _) ?_; intro w5 hown hgrow; have HB5 : Hid (Below w4.heap.size w4 w5) := below_make hgrow)
    | (at_builtin; refine wpList_append_fits_any _ rfl (.tmp 44) (.tmp 47) 22 rfl w4.heap.size 38 i0 2 Tryd.underlying22 hi hz1 w4.heap.size 0 (n + 1) [] rfl hown a kk c (cstrC D.X CV kk) rfl (cstrC_len _ _ _) hnil' (head_cells (HC4.out.below HB5.out) hkk) (cons_one HCV.out _ hkk) (by omega) ?_; intro w6 hown6' hgrow6; have hown6 := own0 hown6'; have HB6 : Hid (Below w4.heap.size w4 w6) := below_app HB5.out hgrow6; have q0 := cell_below HB6.out k0; have q1 := cell_below HB6.out k1; clear hown hown6' hgrow hgrow6)
    | (at_builtin; refine wpList_append_fits _ rfl (.tmp 49) (.tmp 51) 22 rfl w4.heap.size 38 i0 2 Tryd.underlying22 hi hz1 w4.heap.size kk (n + 1) (cstrC D.X CV kk) rfl (hown6.alloc _) ⟨w6.heap.size, 0, none⟩ 1 1 [.string x, .slice au N cu] rfl rfl (cells_new w6 _ 38) (fun u hu => by simp at hu; rcases hu with rfl | rfl <;> rfl) (by omega) ?_; intro w7 hown7 hgrow7; have HB7 : Hid (Below w4.heap.size w4 w7) := below_app (below_trans HB6.out (below_alloc _ _)) hgrow7; clear hown6 hgrow7 q0 q1)
    | (at_builtin; refine wpList_append_fits_any _ rfl (.tmp 53) (.tmp 56) 22 rfl w4.heap.size 38 i0 2 Tryd.underlying22 hi hz1 w4.heap.size (kk + 1) (n + 1) _ rfl hown7 _ (n - kk) _ (cstrC (fun i => D.X (kk + i)) (fun i => CV (kk + i)) (n - kk)) rfl (cstrC_len _ _ _) (tail_none hc hkk hnil) (tail_at (HC4.out.below HB7.out) hc hkk) (cons_one' HCV.out _ hkk) (by omega) ?_; intro w8 hown8 hgrow8; have HB8 : Hid (Below w4.heap.size w4 w8) := below_app HB7.out hgrow8; clear hown7 hgrow8))
  all_goals
    first | (have hck : c = kk := (by assumption); replace hck := hck.symm; subst hck) | skip
    generalize hnn : kk + 1 + (n - kk) = nn at *
    obtain rfl : nn = n + 1 := by omega
    have hi8 := own_ins (D := D) hkk hown8 HV3.out.szX hsx (fun i hi' => (HCV.out i hi').below HB8.out) (HU3.out.below HB8.out)
    have HS8 : Hid (St4 w _ n D (.slice (some ⟨w4.heap.size, 0, none⟩) (n + 1) (n + 1)) (insD D kk x N V) w8) := ⟨below_trans hB3 HB8.out, HV3.out.below HB8.out, hi8⟩
    have HWE : Hid (wt (insD D kk x N V) (n + 1) ≤ 1048576) := by show _ ≤ _; rw [wt_ins _ _ _ hkk]; exact hwi
    have HTX : Hid (joinNB (nbL (insD D kk x N V).X (n + 1)) = joinNB (nbL D.X n)) := congrArg joinNB (nbL_ins D.X kk n hkk x hbl)
    clear hown8 hi8 HB5 HB6 HB7 HB8 HV3 HU3 HCV HC4 hnil' hnil HW4 k0 k1 hB3 hnn hi hz0 hz1 hz2
    generalize hE : insD D kk x N V = E at *
    clear hE hbl hsx
    have hwD : wt D n ≤ 1048576 := by omega
    refine (joinNon_any _ _ _ _ HS8.out.2.1 hwD).mono ?_
    rintro e w9 ⟨rfl, hb9⟩
    -- MARK1
    have HS9 : Hid (St4 w _ n D _ E w9) := HS8.out.below hb9
    clear HS8 hb9
    -- MARK2
    go_wp2_with fail
    refine (build_any _ _ _ _ HS9.out.2.2 HWE.out).mono ?_
    rintro e w10 ⟨bv10, rfl, hcs, hb10⟩
    have HS10 : Hid (St4 w _ n D _ E w10) := HS9.out.below hb10
    clear HS9 hb10
    have hjn : (joinNB (nbL D.X n)).length ≤ 1048576 := Nat.le_trans (joinNB_len D n) hwD
    go_wp2_with fail
    refine (all_any _ _ _ _ _ hcs (catC_bd E HWE.out) (by omega) (by rw [HTX.out]; omega)).mono ?_
    rintro e w11 ⟨u11, rfl, hu11, hb11⟩
    rw [catC_catV] at hu11
    rw [HTX.out]
    obtain ⟨a11, c11, e11⟩ := hu11.shape
    subst e11
    have HS11 : Hid (St4 w _ n D _ E w11) := HS10.out.below hb11
    clear HS10 hcs hb11
    go_wp2_with fail
    generalize hJT : (⟨(joinNB (nbL D.X n)).toArray⟩ : ByteArray) = JT at *
    have HB12 : Hid (Box (w11.alloc (.cells #[.string JT, .slice a11 (catV E (n + 1)).length c11] 30)) w11.heap.size JT _ (catV E (n + 1))) := box_new w11 JT _ _ hu11
    have HS12 : Hid (St4 w _ n D _ E (w11.alloc (.cells #[.string JT, .slice a11 (catV E (n + 1)).length c11] 30))) := HS11.out.below (below_alloc _ _)
    generalize (w11.alloc (.cells #[.string JT, .slice a11 (catV E (n + 1)).length c11] 30)) = w12 at *
    clear HS11 hu11 HTX
    refine (build_any _ _ _ _ HS12.out.2.1 hwD).mono ?_
    rintro e w13 ⟨bv13, rfl, hcs, hb13⟩
    have HS13 : Hid (St4 w _ n D _ E w13) := HS12.out.below hb13
    have HB13 : Hid (Box w13 _ _ _ _) := HB12.out.below hb13
    clear HS12 HB12 hb13
    go_wp2_with fail
    refine (all_any _ _ _ _ _ hcs (catC_bd D hwD) (by omega) (by omega)).mono ?_
    rintro e w14 ⟨u14, rfl, hu14, hb14⟩
    rw [catC_catV] at hu14
    rw [hJT]
    obtain ⟨a14, c14, e14⟩ := hu14.shape
    subst e14
    have HS14 : Hid (St4 w _ n D _ E w14) := HS13.out.below hb14
    have HB14 : Hid (Box w14 _ _ _ _) := HB13.out.below hb14
    have b1 := HB14.out.1
    have b2 := HB14.out.2.1
    have l5 := HB14.out.lt
    clear HS13 HB13 hb14 hcs
    go_wp2_with fail
    have HC15 : Hid (Box (w14.alloc (.cells #[.string JT, .slice a14 (catV D n).length c14] 30)) w14.heap.size JT _ (catV D n)) := box_new w14 JT _ _ hu14
    have HB15 : Hid (Box (w14.alloc (.cells #[.string JT, .slice a14 (catV D n).length c14] 30)) _ _ _ _) := HB14.out.below (below_alloc _ _)
    have HS15 : Hid (St4 w _ n D _ E (w14.alloc (.cells #[.string JT, .slice a14 (catV D n).length c14] 30))) := HS14.out.below (below_alloc _ _)
    generalize (w14.alloc (.cells #[.string JT, .slice a14 (catV D n).length c14] 30)) = w15 at *
    clear HS14 HB14 hu14 b1 b2 l5
    refine (text_any _ _ _ _ _).mono ?_
    rintro e w16 ⟨rfl, hb16⟩
    have HS16 : Hid (St4 w _ n D _ E w16) := HS15.out.below hb16
    have HB16 : Hid (Box w16 _ _ _ _) := HB15.out.below hb16
    have HC16 : Hid (Box w16 _ _ _ _) := HC15.out.below hb16
    have b1 := HC16.out.1
    have b2 := HC16.out.2.1
    clear HS15 HB15 HC15 hb16
    go_wp2_with fail
    refine (text_any _ _ _ _ _).mono ?_
    rintro e w17 ⟨rfl, hb17⟩
    have HS17 : Hid (St4 w _ n D _ E w17) := HS16.out.below hb17
    have HB17 : Hid (Box w17 _ _ _ _) := HB16.out.below hb17
    have HC17 : Hid (Box w17 _ _ _ _) := HC16.out.below hb17
    clear b1 b2 HS16 HB16 HC16 hb17
    have b1 := HB17.out.1
    have b2 := HB17.out.2.1
    go_wp2_with fail
    have hcvE : (catV E (n + 1)).length ≤ 1048576 := by have := catV_len E (n + 1); have := HWE.out; omega
    have hcvD : (catV D n).length ≤ 1048576 := by have := catV_len D n; omega
    refine (vers_any _ _ _ _ 0 HB17.out.2.2 hcvE).mono ?_
    rintro e w18 ⟨v18, rfl, ho18, hb18⟩
    have HS18 : Hid (St4 w _ n D _ E w18) := HS17.out.below hb18
    have HC18 : Hid (Box w18 _ _ _ _) := HC17.out.below hb18
    have HV18 : Hid (IsStrs w18 v18 _ _) := own_strs ho18 (catV_sz HS18.out.2.2.sz _ (Nat.le_refl _))
    clear b1 b2 HS17 HB17 HC17 hb18 ho18
    go_wp2_with fail
    refine (concat_any _ _ _ _ HS18.out.2.2 HWE.out).mono ?_
    rintro e w19 ⟨v19, rfl, ho19, hb19⟩
    have HS19 : Hid (St4 w _ n D _ E w19) := HS18.out.below hb19
    have HC19 : Hid (Box w19 _ _ _ _) := HC18.out.below hb19
    have HV19 : Hid (IsStrs w19 v18 _ _) := HV18.out.below hb19
    clear HS18 HC18 HV18 hb19
    go_wp2_with fail
    refine (same_any _ _ _ _ _ _ _ HV19.out (own_strs ho19 (catV_sz HS19.out.2.2.sz _ (Nat.le_refl _)))).mono ?_
    rintro e w20 ⟨rfl, q, rfl⟩
    rw [sameB_yes (fun _ _ => rfl)]
    have HS20 : Hid (St4 w _ n D _ E (w19.drewN q)) := HS19.out.below (below_drewN' _ _)
    have HC20 : Hid (Box (w19.drewN q) _ _ _ _) := HC19.out.below (below_drewN' _ _)
    generalize w19.drewN q = w20 at *
    have b1 := HC20.out.1
    have b2 := HC20.out.2.1
    clear HS19 HC19 HV19 ho19
    go_wp2_with fail
    refine (vers_any _ _ _ _ 0 HC20.out.2.2 hcvD).mono ?_
    rintro e w21 ⟨v21, rfl, ho21, hb21⟩
    have HS21 : Hid (St4 w _ n D _ E w21) := HS20.out.below hb21
    have HV21 : Hid (IsStrs w21 v21 _ _) := own_strs ho21 (catV_sz HS21.out.2.1.sz _ (Nat.le_refl _))
    clear b1 b2 HS20 HC20 hb21 ho21
    go_wp2_with fail
    refine (concat_any _ _ _ _ HS21.out.2.1 hwD).mono ?_
    rintro e w22 ⟨v22, rfl, ho22, hb22⟩
    have HS22 : Hid (St4 w _ n D _ E w22) := HS21.out.below hb22
    have HV22 : Hid (IsStrs w22 v21 _ _) := HV21.out.below hb22
    clear HS21 HV21 hb22
    go_wp2_with fail
    refine (same_any _ _ _ _ _ _ _ HV22.out (own_strs ho22 (catV_sz HS22.out.2.1.sz _ (Nat.le_refl _)))).mono ?_
    rintro e w23 ⟨rfl, q, rfl⟩
    rw [sameB_yes (fun _ _ => rfl)]
    have hend := below_trans HS22.out.1 (below_drewN' w22 q)
    clear HS22 HV22 ho22
    go_wp2_with fail
    go_ret
    exact ⟨rfl, hend⟩
end Go.Proofs.Qxb6615015aDoor
