/-
  FnAllFlattensAtAnyCut (3), walked.
-/
import Derived.Test.Qxb6615015aDoorI
namespace Go.Proofs.Qxb6615015aDoor
open Go.RowKit

theorem wt_ge (D : Cons) : ∀ k, 40 * k ≤ wt D k
  | 0 => by simp [wt]
  | k + 1 => by have := wt_ge D k; simp only [wt]; omega
theorem catV_sz {D : Cons} {n : Nat} (h : ∀ i, i < n → ∀ j, j < D.N i → (D.V i j).size ≤ maxLen) : ∀ k, k ≤ n → ∀ x ∈ catV D k, x.size ≤ maxLen := by
  intro k
  induction k with
  | zero => intro _ x hx; cases hx
  | succ k ih =>
    intro hk x hx
    rw [catV, List.mem_append] at hx
    rcases hx with hx | hx
    · exact ih (by omega) x hx
    · simp only [versL, List.mem_map, List.mem_range] at hx
      obtain ⟨j, hj, rfl⟩ := hx
      exact h k (by omega) j hj
theorem IsCons.sz {w : World} {v : Value} {n : Nat} {D : Cons} (h : IsCons w v n D) : ∀ i, i < n → ∀ j, j < D.N i → (D.V i j).size ≤ maxLen := by
  obtain ⟨a, c, rfl, -, -, hx⟩ := h
  intro i hi j hj
  obtain ⟨b, o, rfl, hcell⟩ := hx i hi
  obtain ⟨-, -, u, -, hu⟩ := hcell i hi
  obtain ⟨-, -, -, -, -, -, hs, -⟩ := hu
  exact hs j hj
/-- What build and All ask of a bounded list. -/
theorem catC_bd (D : Cons) {n : Nat} (h : wt D n ≤ 1048576) : ∀ k, k ≤ n → (catC (versL D) k).length ≤ 1048576 := by
  intro k hk
  rw [catC_catV]
  have := catV_len D k
  have := wt_mono D hk
  omega

/-- What is carried from the first All on: the argument, the wanted versions, the first result in its box. -/
def St (w0 : World) (v uv : Value) (n : Nat) (D : Cons) (T : ByteArray) (u5 : Value) (B1 : Nat) (W : World) : Prop :=
  Below w0.heap.size w0 W ∧ IsCons W v n D ∧ IsStrs W uv (catV D n).length (fun j => (catV D n).getD j ⟨#[]⟩) ∧ HasConds W 0 u5 (catV D n) ∧ W.cell? ⟨B1, 0, none⟩ = some (.string T) ∧ W.cell? ⟨B1, 1, none⟩ = some u5
theorem St.below {w0 W W1 : World} {v uv : Value} {n : Nat} {D : Cons} {T : ByteArray} {u5 : Value} {B1 : Nat} (h : St w0 v uv n D T u5 B1 W) (hb : Below W.heap.size W W1) : St w0 v uv n D T u5 B1 W1 := by
  obtain ⟨h1, h2, h3, h4, h5, h6⟩ := h
  exact ⟨below_trans h1 hb, h2.below hb, h3.below hb, h4.below hb, cell_below hb h5, cell_below hb h6⟩
theorem below_alloc (w : World) (o : Obj) : Below w.heap.size w (w.alloc o) := (Below.refl _ _).alloc (Nat.le_refl _) o

theorem shift_cons {w : World} {a : Option Addr} {c n kk : Nat} {D : Cons} (h : IsCons w (.slice a n c) n D) (hk : kk ≤ n) : IsCons w (.slice (Option.map (fun x => x.add (kk * 2)) a) (n - kk) (c - kk)) (n - kk) (shift D kk) := by
  obtain ⟨a', c', he, h1, h2, hx⟩ := h
  cases he
  refine ⟨_, _, rfl, by omega, by omega, fun j hj => ?_⟩
  obtain ⟨b, o, rfl, hcell⟩ := hx (kk + j) (by omega)
  refine ⟨b, o + kk * 2, by simp [Go.WideShapes.add_plain], fun i hi => ?_⟩
  have := hcell (kk + i) (by omega)
  have e1 : o + kk * 2 + i * 2 = o + (kk + i) * 2 := by omega
  rw [e1]
  exact this
theorem shift_end {w : World} {a : Option Addr} {n c kk : Nat} {D : Cons} (h : IsCons w (.slice a n c) n D) (hk : kk ≤ n) (hc : c = kk) : IsCons w (.slice a (n - kk) 0) (n - kk) (shift D kk) := by
  obtain ⟨a', c', he, h1, h2, hx⟩ := h
  cases he
  exact ⟨_, _, rfl, by omega, Nat.zero_le _, fun j hj => by omega⟩
theorem text_sz {D : Cons} {n : Nat} (h : wt D n ≤ 1048576) : (⟨(joinNB (nbL D.X n)).toArray⟩ : ByteArray).size ≤ maxLen := by
  have := joinNB_len D n
  show (joinNB (nbL D.X n)).toArray.size ≤ maxLen
  simp only [List.size_toArray, maxLen]
  omega
/-- Two constraints laid side by side. -/
theorem two_cstrs (w : World) (x y : ByteArray) (u v : Value) (l m : List ByteArray) (hx : x.size ≤ maxLen) (hy : y.size ≤ maxLen) (hu : HasConds w 0 u l) (hv : HasConds w 0 v m) :
    IsCstrs (w.alloc (.cells #[.string x, u, .string y, v] 30)) (.slice (some ⟨w.heap.size, 0, none⟩) 2 2) 2 (twoX x y) (twoC l m) := by
  have hal := below_alloc w (.cells #[.string x, u, .string y, v] 30)
  refine ⟨_, _, rfl, Nat.le_refl _, by decide, fun j _ => ⟨w.heap.size, 0, rfl, fun i hi => ?_⟩⟩
  match i, hi with
  | 0, _ => exact ⟨hx, by rw [World.cell?_alloc_new]; rfl, u, by rw [World.cell?_alloc_new]; rfl, hu.below hal⟩
  | 1, _ => exact ⟨hy, by rw [World.cell?_alloc_new]; rfl, v, by rw [World.cell?_alloc_new]; rfl, hv.below hal⟩

set_option maxHeartbeats 2000000 in
set_option maxRecDepth 100000 in
theorem flat_walk (v : Value) (n : Nat) (D : Cons) (k : Int) (w : World) (hv : IsCons w v n D) :
    Calls Tryd.prog 3 #[v, .int .i64 k] w fun e w' => e = .returned (.bool true) ∧ Below w.heap.size w w' := by
  have hbytes := bytes5 v n D k w hv
  have HV : Hid (IsCons w v n D) := hv
  obtain ⟨a, c, rfl, hc, hm, -⟩ := hv
  unfold maxLen at hm
  go_enter Tryd.func3, Tryd.ntmps3
  go_wp2_with fail
  refine hbytes.mono ?_
  rintro e w' ⟨⟨r, rfl⟩, hw⟩
  subst hw
  clear hbytes
  cases r
  · go_wp2_with fail
    go_ret
    exact ⟨rfl, Below.refl _ _⟩
  go_wp2_with fail
  · go_ret
    exact ⟨rfl, Below.refl _ _⟩
  refine (conBytes_any _ _ _ _ _ HV.out (by omega) (by omega)).mono ?_
  rintro e w1 ⟨⟨r, rfl, hr1, hr2⟩, hb1⟩
  by_cases hr : r < 0
  · go_wp2_with fail
    go_ret
    exact ⟨rfl, hb1⟩
  have hwt : wt D n ≤ 1048576 := by have := hr2 (by omega); omega
  clear hr2
  by_cases hk0 : k < 0
  · go_wp2_with fail
    go_ret
    exact ⟨rfl, hb1⟩
  by_cases hkn : (n : Int) < k
  · go_wp2_with fail
    go_ret
    exact ⟨rfl, hb1⟩
  obtain ⟨kk, rfl⟩ := Int.eq_ofNat_of_zero_le (show 0 ≤ k by omega)
  have hkk : kk ≤ n := by omega
  go_wp2_with fail
  clear hk0 hkn hr hr1
  have HV1 : Hid (IsCons w1 (.slice a n c) n D) := HV.out.below hb1
  refine (joinNon_any _ _ _ _ HV1.out hwt).mono ?_
  rintro e w2 ⟨rfl, hb2⟩
  have HV2 : Hid (IsCons w2 (.slice a n c) n D) := HV1.out.below hb2
  have HB2 : Hid (Below w'.heap.size w' w2) := below_trans hb1 hb2
  clear HV1 hb1 hb2
  go_wp2_with fail
  refine (concat_any _ _ _ _ HV2.out hwt).mono ?_
  rintro e w3 ⟨uv, rfl, hov, hb3⟩
  have HV3 : Hid (IsCons w3 (.slice a n c) n D) := HV2.out.below hb3
  have HB3 : Hid (Below w'.heap.size w' w3) := below_trans HB2.out hb3
  have HW3 : Hid (IsStrs w3 uv (catV D n).length (fun j => (catV D n).getD j ⟨#[]⟩)) := own_strs hov (catV_sz HV.out.sz n (Nat.le_refl _))
  clear HV2 HB2 hb3 hov
  go_wp2_with fail
  refine (build_any _ _ _ _ HV3.out hwt).mono ?_
  rintro e w4 ⟨bv, rfl, hcs, hb4⟩
  have hjn : (joinNB (nbL D.X n)).length ≤ 1048576 := Nat.le_trans (joinNB_len D n) hwt
  have hn20 : n ≤ 1048576 := by have := wt_ge D n; omega
  go_wp2_with fail
  refine (all_any _ _ _ _ _ hcs (catC_bd D hwt) hn20 (by omega)).mono ?_
  rintro e w5 ⟨u5, rfl, hu5, hb5⟩
  rw [catC_catV] at hu5
  obtain ⟨a5, c5, e5⟩ := hu5.shape
  subst e5
  go_wp2_with fail
  have hb35 := below_trans hb4 hb5
  have HS6 : Hid (St w' (.slice a n c) uv n D ⟨(joinNB (nbL D.X n)).toArray⟩ (.slice a5 (catV D n).length c5) w5.heap.size (w5.alloc (.cells #[.string ⟨(joinNB (nbL D.X n)).toArray⟩, .slice a5 (catV D n).length c5] 30))) := by
    have hal := below_alloc w5 (.cells #[.string ⟨(joinNB (nbL D.X n)).toArray⟩, .slice a5 (catV D n).length c5] 30)
    exact ⟨below_trans (below_trans HB3.out hb35) hal, (HV3.out.below hb35).below hal, (HW3.out.below hb35).below hal, hu5.below hal, by rw [World.cell?_alloc_new]; rfl, by rw [World.cell?_alloc_new]; rfl⟩
  clear HV HB3 HV3 HW3 hcs hb4 hb5 hb35 hu5
  have hwk : wt D kk ≤ 1048576 := Nat.le_trans (wt_mono D hkk) hwt
  refine (build_any _ _ _ _ (HS6.out.2.1.take hkk) hwk).mono ?_
  rintro e w7 ⟨bv7, rfl, hcs, hb7⟩
  have hjk : (joinNB (nbL D.X kk)).length ≤ 1048576 := Nat.le_trans (joinNB_len D kk) hwk
  have HS7 : Hid (St w' (.slice a n c) uv n D _ _ _ w7) := HS6.out.below hb7
  clear HS6 hb7
  go_wp2_with fail
  refine (all_any _ _ _ _ _ hcs (catC_bd D hwk) (by omega) (by omega)).mono ?_
  rintro e w8 ⟨u8, rfl, hu8, hb8⟩
  rw [catC_catV] at hu8
  obtain ⟨a8, c8, e8⟩ := hu8.shape
  subst e8
  have HS8 : Hid (St w' (.slice a n c) uv n D _ _ _ w8) := HS7.out.below hb8
  clear HS7 hb8 hcs
  have hwr : wt (shift D kk) (n - kk) ≤ 1048576 := by
    have := wt_add D kk (n - kk)
    rw [show kk + (n - kk) = n by omega] at this
    omega
  have hjr : (joinNB (nbL (shift D kk).X (n - kk))).length ≤ 1048576 := Nat.le_trans (joinNB_len (shift D kk) (n - kk)) hwr
  have HTX : Hid (joinNB (nbL (twoX ⟨(joinNB (nbL D.X kk)).toArray⟩ ⟨(joinNB (nbL (shift D kk).X (n - kk))).toArray⟩) 2) = joinNB (nbL D.X n)) := by
    have := nbL_add D.X kk (n - kk)
    rw [show kk + (n - kk) = n by omega] at this
    show _ = _
    rw [two_join _ _ (nbL_noBlank _ _) (nbL_noBlank _ _), this]
    rfl
  have HCX : Hid (catC (twoC (catV D kk) (catV (shift D kk) (n - kk))) 2 = catV D n) := by
    have := catV_add D kk (n - kk)
    rw [show kk + (n - kk) = n by omega] at this
    show _ = _
    rw [two_cat, this]
  have HSZ : Hid ((⟨(joinNB (nbL D.X kk)).toArray⟩ : ByteArray).size ≤ maxLen ∧ (⟨(joinNB (nbL (shift D kk).X (n - kk))).toArray⟩ : ByteArray).size ≤ maxLen) := ⟨text_sz hwk, text_sz hwr⟩
  have hcvn : (catV D n).length ≤ 1048576 := by have := catV_len D n; omega
  have hcvk : (catV D kk).length ≤ (catV D n).length := by
    rw [← HCX.out, two_cat, List.length_append]
    omega
  go_wp2_with fail
  all_goals
    refine (build_any _ (n - kk) (shift D kk) _ (by first | exact shift_cons (HS8.out.2.1.below (below_alloc _ _)) hkk | exact shift_end (HS8.out.2.1.below (below_alloc _ _)) hkk (by assumption)) hwr).mono ?_
    rintro e w9 ⟨bv9, rfl, hcs, hb9⟩
    have HS9 : Hid (St w' _ uv n D _ _ _ w9) := (HS8.out.below (below_alloc _ _)).below hb9
    have HU9 : Hid (HasConds w9 0 (.slice a8 (catV D kk).length c8) (catV D kk)) := (hu8.below (below_alloc _ _)).below hb9
    have k20 : w9.cell? ⟨w8.heap.size, 0, none⟩ = some (.string ⟨(joinNB (nbL D.X kk)).toArray⟩) := cell_below hb9 (by rw [World.cell?_alloc_new]; rfl)
    have k21 : w9.cell? ⟨w8.heap.size, 1, none⟩ = some (.slice a8 (catV D kk).length c8) := cell_below hb9 (by rw [World.cell?_alloc_new]; rfl)
    clear HS8 hu8 hb9
    go_wp2_with fail
    refine (all_any _ _ _ _ _ hcs (catC_bd (shift D kk) hwr) (by omega) (by omega)).mono ?_
    rintro e w10 ⟨u10, rfl, hu10, hb10⟩
    rw [catC_catV] at hu10
    obtain ⟨a10, c10, e10⟩ := hu10.shape
    subst e10
    have HS10 : Hid (St w' _ uv n D _ _ _ w10) := HS9.out.below hb10
    have HU10 : Hid (HasConds w10 0 (.slice a8 (catV D kk).length c8) (catV D kk)) := HU9.out.below hb10
    have m20 := cell_below hb10 k20
    have m21 := cell_below hb10 k21
    have l8 : w8.heap.size < w10.heap.size := World.block_lt_of_cell? _ _ m20
    clear HS9 HU9 k20 k21 hb10 hcs
    generalize (⟨(joinNB (nbL D.X kk)).toArray⟩ : ByteArray) = LT at *
    generalize (⟨(joinNB (nbL (shift D kk).X (n - kk))).toArray⟩ : ByteArray) = RT at *
    have hts := two_cstrs (w10.alloc (.cells #[.string RT, .slice a10 (catV (shift D kk) (n - kk)).length c10] 30)) LT RT _ _ _ _ HSZ.out.1 HSZ.out.2 (HU10.out.below (below_alloc _ _)) (hu10.below (below_alloc _ _))
    rw [World.size_alloc] at hts
    have HTS : Hid (IsCstrs _ _ 2 (twoX LT RT) (twoC (catV D kk) (catV (shift D kk) (n - kk)))) := hts
    clear hts
    go_wp2_with fail
    refine (all_any _ _ _ _ _ HTS.out (fun i hi' => ?_) (by omega) (by rw [HTX.out]; omega)).mono ?_
    · match i, hi' with
      | 0, _ => exact Nat.zero_le _
      | 1, _ => simp only [catC, twoC, List.nil_append, if_true]; omega
      | 2, _ => rw [HCX.out]; exact hcvn
    rintro e w12 ⟨u12, rfl, hu12, hb12⟩
    rw [HCX.out] at hu12
    rw [HTX.out]
    obtain ⟨a12, c12, e12⟩ := hu12.shape
    subst e12
    have HS12 : Hid (St w' _ uv n D _ _ _ w12) := ((HS10.out.below (below_alloc _ _)).below (below_alloc _ _)).below hb12
    clear HS10 HU10 m20 m21 l8 hu10 hb12 HTS HTX HCX HSZ
    generalize (⟨(joinNB (nbL D.X n)).toArray⟩ : ByteArray) = JT at *
    have b1 : w12.cell? ⟨w5.heap.size, 0, none⟩ = some (.string JT) := HS12.out.2.2.2.2.1
    have b2 : w12.cell? ⟨w5.heap.size, 1, none⟩ = some (.slice a5 (catV D n).length c5) := HS12.out.2.2.2.2.2
    have l5 : w5.heap.size < w12.heap.size := World.block_lt_of_cell? _ _ b1
    go_wp2_with fail
    have HS13 : Hid (St w' _ uv n D _ _ _ (w12.alloc (.cells #[.string JT, .slice a12 (catV D n).length c12] 30))) := HS12.out.below (below_alloc _ _)
    have k0 : (w12.alloc (.cells #[.string JT, .slice a12 (catV D n).length c12] 30)).cell? ⟨w12.heap.size, 0, none⟩ = some (.string JT) := by rw [World.cell?_alloc_new]; rfl
    have k1 : (w12.alloc (.cells #[.string JT, .slice a12 (catV D n).length c12] 30)).cell? ⟨w12.heap.size, 1, none⟩ = some (.slice a12 (catV D n).length c12) := by rw [World.cell?_alloc_new]; rfl
    have hu13 := hu12.below (below_alloc w12 (.cells #[.string JT, .slice a12 (catV D n).length c12] 30))
    generalize (w12.alloc (.cells #[.string JT, .slice a12 (catV D n).length c12] 30)) = w13 at *
    clear b1 b2 l5 HS12 hu12
    refine (text_any _ _ _ _ _).mono ?_
    rintro e w14 ⟨rfl, hb14⟩
    have HS14 : Hid (St w' _ uv n D _ _ _ w14) := HS13.out.below hb14
    have hu14 := hu13.below hb14
    have m0 := cell_below hb14 k0
    have m1 := cell_below hb14 k1
    have b1 : w14.cell? ⟨w5.heap.size, 0, none⟩ = some (.string JT) := HS14.out.2.2.2.2.1
    have b2 : w14.cell? ⟨w5.heap.size, 1, none⟩ = some (.slice a5 (catV D n).length c5) := HS14.out.2.2.2.2.2
    clear HS13 hu13 k0 k1 hb14
    go_wp2_with fail
    have hsz : ∀ x ∈ catV D n, x.size ≤ maxLen := catV_sz HS14.out.2.1.sz n (Nat.le_refl _)
    refine (vers_any _ _ _ _ 0 HS14.out.2.2.2.1 hcvn).mono ?_
    rintro e w15 ⟨v15, rfl, ho15, hb15⟩
    have HS15 : Hid (St w' _ uv n D _ _ _ w15) := HS14.out.below hb15
    have hu15 := hu14.below hb15
    have n0 := cell_below hb15 m0
    have n1 := cell_below hb15 m1
    clear HS14 hu14 m0 m1 hb15 b1 b2
    go_wp2_with fail
    refine (same_any _ _ _ _ _ _ _ (own_strs ho15 hsz) HS15.out.2.2.1).mono ?_
    rintro e w16 ⟨rfl, q, rfl⟩
    rw [sameB_yes (fun _ _ => rfl)]
    have HS16 : Hid (St w' _ uv n D _ _ _ (w15.drewN q)) := HS15.out.below (below_drewN (Below.refl w15.heap.size w15) q)
    have hu16 : HasConds (w15.drewN q) 0 _ (catV D n) := hu15.below (below_drewN (Below.refl w15.heap.size w15) q)
    replace n0 := cell_below (below_drewN (Below.refl w15.heap.size w15) q) n0
    replace n1 := cell_below (below_drewN (Below.refl w15.heap.size w15) q) n1
    generalize w15.drewN q = w16 at *
    clear HS15 hu15 ho15
    go_wp2_with fail
    refine (text_any _ _ _ _ _).mono ?_
    rintro e w17 ⟨rfl, hb17⟩
    have HS17 : Hid (St w' _ uv n D _ _ _ w17) := HS16.out.below hb17
    have hu17 := hu16.below hb17
    replace n0 := cell_below hb17 n0
    replace n1 := cell_below hb17 n1
    clear HS16 hu16 hb17
    go_wp2_with fail
    refine (vers_any _ _ _ _ 0 hu17 hcvn).mono ?_
    rintro e w18 ⟨v18, rfl, ho18, hb18⟩
    have HS18 : Hid (St w' _ uv n D _ _ _ w18) := HS17.out.below hb18
    clear HS17 hu17 n0 n1 hb18
    go_wp2_with fail
    refine (same_any _ _ _ _ _ _ _ (own_strs ho18 hsz) HS18.out.2.2.1).mono ?_
    rintro e w19 ⟨rfl, q, rfl⟩
    rw [sameB_yes (fun _ _ => rfl)]
    have hend := below_trans HS18.out.1 (below_drewN (Below.refl w18.heap.size w18) q)
    clear HS18 ho18
    go_wp2_with fail
    go_ret
    exact ⟨rfl, hend⟩
end Go.Proofs.Qxb6615015aDoor
