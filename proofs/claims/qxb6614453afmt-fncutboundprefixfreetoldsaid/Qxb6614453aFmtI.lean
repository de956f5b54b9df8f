/-
  FnCutBoundPrefixFree, walked.
-/
import Derived.Test.Qxb6614453aFmtH
namespace Go.Proofs.Qxb6614453aFmt
open Go.RowKit Go.Extern.Stop Go.Stop Go.Extern

theorem splice_all {α : Type} (L cs : List α) (h : cs.length = L.length) : splice L 0 cs = cs := by
  simp [splice, h]
theorem own_of_row {w : World} {base g n : Nat} {xs : List Value} (hb : base ≤ g) (hx : xs.length = n) (hn : n ≤ maxLen) (h : w.heap[g]? = some (.cells xs.toArray 9 (0, 0))) :
    w.ownsRow base 9 1 (.slice (some ⟨g, 0, none⟩) n n) n xs :=
  ⟨by omega, Or.inr ⟨g, n, xs.toArray, rfl, hb, h, Nat.le_refl _, hn, by simp [hx], by simp [← hx]⟩⟩
theorem row_of_own {w : World} {base g n cap : Nat} {xs : List Value} (h : w.ownsRow base 9 1 (.slice (some ⟨g, 0, none⟩) n cap) n xs) : ∃ cur : List Value, w.heap[g]? = some (.cells cur.toArray 9 (0, 0)) ∧ cur.length = cap := by
  rcases h.2 with ⟨h', _⟩ | ⟨g', cap', cur, h', _, hh, _, _, hs, _⟩
  · cases h'
  · cases h'
    exact ⟨cur.toList, by simpa using hh, by simpa using hs⟩
theorem strsV_len (S : Nat → ByteArray) (k : Nat) : (strsV S k).length = k := by simp [strsV]
theorem strsV_get (S : Nat → ByteArray) (k j : Nat) (x : Value) (h : (strsV S k)[j]? = some x) : j < k ∧ x = .string (S j) := by
  unfold strsV at h
  rw [List.getElem?_map] at h
  by_cases hj : j < k
  · rw [List.getElem?_range hj] at h
    simp at h
    exact ⟨hj, h.symm⟩
  · rw [List.getElem?_eq_none (by simp; omega)] at h
    cases h
theorem strsV_one (S : Nat → ByteArray) (k : Nat) : ∀ x ∈ strsV S k, x.oneCell' = true := by
  intro x hx
  simp [strsV] at hx
  obtain ⟨j, -, rfl⟩ := hx
  rfl

/-- THE COPY OF THE ARGUMENT INTO A ROW OF THE CALL's OWN. -/
theorem copy_run (w0 w : World) (g m c2 : Nat) (ad : Addr) (T : Nat → ByteArray) (cur : List Value) (hb : Below w0.heap.size w0 w) (hg : w0.heap.size ≤ g) (hrow : w.heap[g]? = some (.cells cur.toArray 9 (0, 0))) (hcur : cur.length = m)
    (hu : IsStrs w0 (.slice (some ad) m c2) m T) :
    ∃ w3, (Builtin.copy_ #[26, 26] 3 #[.slice (some ⟨g, 0, none⟩) m m, .slice (some ad) m c2]).run Tryf.prog w = .ok (goInt m) w3 ∧ w3.heap[g]? = some (.cells (strsV T m).toArray 9 (0, 0)) ∧ Below w0.heap.size w0 w3 := by
  by_cases hm : m = 0
  · subst hm
    refine ⟨w, run_copy_none (P := Tryf.prog) w 26 26 3 9 _ _ _ _ _ _ Tryf.underlying26 (by kernel_rfl) rfl, ?_, hb⟩
    rw [hrow, List.eq_nil_of_length_eq_zero hcur]
    rfl
  · obtain ⟨a', c', he, -, -, -, hx⟩ := hu
    cases he
    obtain ⟨b, o, hab, hcell⟩ := hx 0 (by omega)
    cases hab
    refine ⟨_, (run_copy_row (P := Tryf.prog) w 26 26 3 9 g 0 m m ⟨b, o, none⟩ m c2 cur.toArray 9 (strsV T m) Tryf.underlying26 (by kernel_rfl) hrow (by rw [strsV_len]; exact (Nat.min_self m).symm) (fun j x hj => ?_) (by simp [strsV_len, hcur]) (strsV_one T m)).trans (by rw [strsV_len]), ?_, below_setRow hb hg _⟩
    · obtain ⟨hjm, rfl⟩ := strsV_get T m j x hj
      rw [Go.WideShapes.add_plain]
      exact cell_below hb (hcell j hjm)
    · rw [setRow_heap w g _ _ 9 _ hrow]
      simp [hcur]

set_option maxHeartbeats 1000000 in
set_option maxRecDepth 100000 in
theorem prefix_nil (v : Value) (n c2 : Nat) (S T : Nat → ByteArray) (w : World) (hv : IsStrs w v n S) (hu : IsStrs w (.slice none 0 c2) 0 T) :
    Calls Tryf.prog 4 #[v, .slice none 0 c2] w fun e w' => e = .returned (.bool true) ∧ Below w.heap.size w w' := by
  have hbytes := bytes9 _ _ _ _ _ _ w hv hu
  obtain ⟨a, c, rfl, hc, hm, -, hx⟩ := hv
  unfold maxLen at hm
  have HX : Hid (∀ j, j < n → ∃ b o, a = some ⟨b, o, none⟩ ∧ ∀ i, i < n → w.cell? ⟨b, o + i, none⟩ = some (.string (S i))) := hx; clear hx
  clear hu
  go_enter Tryf.func4, Tryf.ntmps4
  go_wp2_with fail
  refine hbytes.mono ?_
  rintro e w' ⟨⟨r, rfl, hr⟩, hw⟩
  subst hw
  clear hbytes
  cases r
  · go_wp2_with fail
    go_ret
    exact ⟨rfl, Below.refl _ _⟩
  obtain ⟨hn, -, hsz, -⟩ := hr rfl
  have HS : Hid (∀ j, j < n → (S j).size ≤ 1048576) := hsz; clear hsz hr
  go_wp2_with fail
  go_loop [6, 7] (fun z i => ∃ (y : Int) (k : Nat), k ≤ n ∧ z = .int .i64 y ∧ i = .int .i64 k ∧ 0 ≤ y ∧ y ≤ 1048576) (fun _ i => n - (intOf i).toNat)
  case atStart => exact ⟨0, 0, Nat.zero_le _, rfl, rfl, by omega, by omega⟩
  case round =>
    obtain ⟨y, k, hk, rfl, rfl, hy1, hy2⟩ := hrel
    by_cases hlt : k < n
    · obtain ⟨b, o, ha, hcell⟩ := HX.out k hlt
      subst ha
      have hck := hcell k hlt
      have hsk := HS.out k hlt
      clear hcell
      go_wp2_with fail
      · go_ret
        exact ⟨rfl, Below.refl _ _⟩
      · exact ⟨⟨_, k + 1, by omega, rfl, by go_num, by omega, by omega⟩, by simp [intOf]; omega⟩
    · go_wp2_with fail
      refine wp_loop_rounds 1 ?_
      rw [rounds_succ]
      go_wp2
      go_ret
      exact ⟨rfl, Below.refl _ _⟩

set_option maxHeartbeats 2000000 in
set_option maxRecDepth 100000 in
theorem prefix_some (F : Interp) (v : Value) (n m c2 : Nat) (ad : Addr) (S T : Nat → ByteArray) (w : World) (hF : F.answers w.tape) (hv : IsStrs w v n S) (hu : IsStrs w (.slice (some ad) m c2) m T)
    (t0 t1 : TypeId) (p0 p1 : Value) (h0 : w.cell? ⟨0, 0, none⟩ = some (.iface t0 p0)) (h1 : w.cell? ⟨1, 0, none⟩ = some (.iface t1 p1)) :
    Calls Tryf.prog 4 #[v, .slice (some ad) m c2] w fun e w' => e = .returned (.bool true) ∧ Below w.heap.size w w' := by
  have hbytes := bytes9 _ _ _ _ _ _ w hv hu
  obtain ⟨i0, hi, hz0, hz1, hz2⟩ := info_parts info9
  have HV : Hid (IsStrs w v n S) := hv
  have HU : Hid (IsStrs w (.slice (some ad) m c2) m T) := hu
  obtain ⟨a, c, rfl, hc, hm, -, hx⟩ := hv
  clear hx
  have hm2 : m ≤ c2 ∧ c2 ≤ maxLen := by
    obtain ⟨a', c', he, h1, h2, -, -⟩ := hu
    cases he
    exact ⟨h1, h2⟩
  clear hu
  unfold maxLen at hm hm2
  go_enter Tryf.func4, Tryf.ntmps4
  go_wp2_with fail
  refine hbytes.mono ?_
  rintro e w' ⟨⟨r, rfl, hr⟩, hw⟩
  subst hw
  clear hbytes
  cases r
  · go_wp2_with fail
    go_ret
    exact ⟨rfl, Below.refl _ _⟩
  obtain ⟨hn, hmm, hsz, hsz2⟩ := hr rfl
  have HS : Hid (∀ j, j < n → (S j).size ≤ 1048576) := hsz
  have HS2 : Hid (∀ j, j < m → (T j).size ≤ 1048576) := hsz2
  clear hsz hsz2 hr
  go_wp2_with (first | (at_make; refine wpList_make_full _ rfl _ _ 26 rfl w'.heap.size 9 i0 (.string ⟨#[]⟩) 1 Tryf.underlying26 hi hz0 hz1 .i64 .i64 _ _ m rfl rfl rfl rfl (by rw [hz2]; omega) (by unfold maxLen; omega) (Nat.le_refl _) ?_; intro w2 hown hgrow; have hb2 : Below w'.heap.size w' w2 := (Below.refl _ _).grown hgrow (Nat.le_refl _) (fun _ h => by cases h); obtain ⟨cur, hrow, hcur⟩ := row_of_own hown; obtain ⟨w3, hrun, hrow3, hb3⟩ := copy_run w' w2 w'.heap.size m c2 ad T cur hb2 (Nat.le_refl _) hrow hcur HU.out; have HROW : Hid (w3.heap[w'.heap.size]? = some (.cells (strsV T m).toArray 9 (0, 0))) := hrow3; clear hgrow hown hrow hrow3))
  clear hrun hb2 hcur
  have HT : Hid (IsStrs w3 (.slice (some ⟨w'.heap.size, 0, none⟩) m m) m T) := own_strs (own_of_row (Nat.le_refl _) (strsV_len T m) (by unfold maxLen; omega) HROW.out) (fun j hj => Nat.le_trans (HS2.out j hj) (by decide))
  have HP : Hid (IsStrs w3 (.slice a n c) n S) := HV.out.below hb3
  have HX : Hid (∀ j, j < n → ∃ b o, a = some ⟨b, o, none⟩ ∧ ∀ i, i < n → w3.cell? ⟨b, o + i, none⟩ = some (.string (S i))) := by
    obtain ⟨a', c', he, -, -, -, hx⟩ := HP.out
    cases he
    exact hx
  have HX2 : Hid (∀ i, i < m → w3.cell? ⟨w'.heap.size, i, none⟩ = some (.string (T i))) := by
    intro i hi'
    obtain ⟨a', c', he, -, -, -, hx⟩ := HT.out
    cases he
    obtain ⟨b, o, hab, hcell⟩ := hx i hi'
    cases hab
    have := hcell i hi'
    rwa [Nat.zero_add] at this
  have hF3 : F.answers w3.tape := by rw [hb3.tape]; exact hF
  have k0 := cell_below hb3 h0
  have k1 := cell_below hb3 h1
  have HB3 : Hid (Below w'.heap.size w' w3) := hb3
  clear HROW HV HU hF h0 h1 hb3
  go_loop [6, 7] (fun z i => ∃ (y : Int) (k : Nat), k ≤ n ∧ z = .int .i64 y ∧ i = .int .i64 k ∧ 0 ≤ y ∧ y ≤ 1048576) (fun _ i => n - (intOf i).toNat)
  case atStart => exact ⟨0, 0, Nat.zero_le _, rfl, rfl, by omega, by omega⟩
  case round =>
    obtain ⟨y, k, hk, rfl, rfl, hy1, hy2⟩ := hrel
    by_cases hlt : k < n
    · obtain ⟨b, o, ha, hcell⟩ := HX.out k hlt
      subst ha
      have hck := hcell k hlt
      have hsk := HS.out k hlt
      clear hcell
      go_wp2_with fail
      · go_ret
        exact ⟨rfl, HB3.out⟩
      · exact ⟨⟨_, k + 1, by omega, rfl, by go_num, by omega, by omega⟩, by simp [intOf]; omega⟩
    go_wp2_with fail
    clear hlt hk
    go_loop [6, 8] (fun z i => ∃ (y : Int) (k : Nat), k ≤ m ∧ z = .int .i64 y ∧ i = .int .i64 k ∧ 0 ≤ y ∧ y ≤ 1048576) (fun _ i => m - (intOf i).toNat)
    case atStart => exact ⟨_, 0, Nat.zero_le _, rfl, rfl, by omega, by omega⟩
    case round =>
      obtain ⟨y2, k2, hk2, rfl, rfl, hy3, hy4⟩ := hrel
      by_cases hlt : k2 < m
      · have hck := HX2.out k2 hlt
        have hsk := HS2.out k2 hlt
        go_wp2_with fail
        · go_ret
          exact ⟨rfl, HB3.out⟩
        · exact ⟨⟨_, k2 + 1, by omega, rfl, by go_num, by omega, by omega⟩, by simp [intOf]; omega⟩
      by_cases hm1 : m < 2
      · go_wp2_with fail
        go_ret
        exact ⟨rfl, HB3.out⟩
      go_wp2_with (first | (at_make; refine wpList_make_own _ rfl _ _ 26 rfl w3.heap.size 9 i0 (.string ⟨#[]⟩) 1 Tryf.underlying26 hi hz0 hz1 .i64 .i64 _ (n + m) rfl rfl (by omega) (by rw [hz2]; omega) (by unfold maxLen; omega) (Nat.le_refl _) ?_; intro w4 hown hgrow))
      clear hlt hk2
      have hb4 : Below w3.heap.size w3 w4 := (Below.refl _ _).grown hgrow (Nat.le_refl _) (fun _ h => by cases h)
      clear hgrow
      go_loopw [9, 10] (fun v i wr => ∃ k : Nat, k ≤ n ∧ i = .int .i64 k ∧ v = .slice (some ⟨w3.heap.size, 0, none⟩) k (n + m) ∧ wr.ownsRow w3.heap.size 9 1 (.slice (some ⟨w3.heap.size, 0, none⟩) k (n + m)) k (strsV S k) ∧ Below w3.heap.size w3 wr)
        (fun _ i _ => n - (intOf i).toNat)
      case atStart => exact ⟨0, Nat.zero_le _, rfl, rfl, hown, hb4⟩
      case round =>
        clear hown hb4
        obtain ⟨k3, hk3, rfl, rfl, hown, hbr⟩ := hrel
        by_cases hlt3 : k3 < n
        · obtain ⟨b, o, ha, hcell⟩ := HX.out k3 hlt3
          subst ha
          have hck : wr.cell? ⟨b, o + k3, none⟩ = some (.string (S k3)) := cell_below hbr (hcell k3 hlt3)
          clear hcell
          go_wp2_with (first | (at_builtin; refine wpList_append_fits _ rfl (.tmp 81) (.tmp 86) 26 rfl w3.heap.size 9 i0 1 Tryf.underlying26 hi hz1 w3.heap.size k3 (n + m) (strsV S k3) rfl (hown.alloc _) ⟨wr.heap.size, 0, none⟩ 1 1 [.string (S k3)] rfl rfl (cell_one_new _ _ _) (fun u hu => by simp at hu; subst hu; rfl) (by omega) ?_; intro w5 hown5 hgrow5))
          exact ⟨⟨k3 + 1, by omega, by go_num, rfl, by rw [strsV_succ]; exact hown5, (hbr.alloc hbr.size _).grown hgrow5 (by have := hbr.size; simp; omega) (fun _ h => by cases h; exact Nat.le_refl _)⟩, by simp [intOf]; omega⟩
        obtain rfl : k3 = n := by omega
        go_wp2_with fail
        clear hlt3 hk3
        go_loopw [9, 11] (fun v i wr => ∃ k : Nat, k ≤ m ∧ i = .int .i64 k ∧ v = .slice (some ⟨w3.heap.size, 0, none⟩) (k3 + k) (k3 + m) ∧ wr.ownsRow w3.heap.size 9 1 (.slice (some ⟨w3.heap.size, 0, none⟩) (k3 + k) (k3 + m)) (k3 + k) (strsV S k3 ++ strsV T k) ∧ Below w3.heap.size w3 wr)
          (fun _ i _ => m - (intOf i).toNat)
        case atStart => exact ⟨0, Nat.zero_le _, rfl, rfl, by simpa [strsV] using hown, hbr⟩
        case round =>
          clear hown hbr
          obtain ⟨k4, hk4, rfl, rfl, hown, hbr⟩ := hrel
          by_cases hlt4 : k4 < m
          · have hck : wr.cell? ⟨w'.heap.size, k4, none⟩ = some (.string (T k4)) := cell_below hbr (HX2.out k4 hlt4)
            go_wp2_with (first | (at_builtin; refine wpList_append_fits _ rfl (.tmp 94) (.tmp 99) 26 rfl w3.heap.size 9 i0 1 Tryf.underlying26 hi hz1 w3.heap.size (k3 + k4) (k3 + m) (strsV S k3 ++ strsV T k4) rfl (hown.alloc _) ⟨wr.heap.size, 0, none⟩ 1 1 [.string (T k4)] rfl rfl (cell_one_new _ _ _) (fun u hu => by simp at hu; subst hu; rfl) (by omega) ?_; intro w5 hown5 hgrow5))
            exact ⟨⟨k4 + 1, by omega, by go_num, rfl, by rw [strsV_succ, ← List.append_assoc]; exact hown5, (hbr.alloc hbr.size _).grown hgrow5 (by have := hbr.size; simp; omega) (fun _ h => by cases h; exact Nat.le_refl _)⟩, by simp [intOf]; omega⟩
          obtain rfl : k4 = m := by omega
          clear hk4
          have hst : ∀ j, j < k3 + k4 → (joinP k3 S T j).size ≤ 1048576 := by
            intro j hj
            unfold joinP
            split
            · exact HS.out j (by assumption)
            · exact HS2.out _ (by omega)
          have hJ : IsStrs wr (.slice (some ⟨w3.heap.size, 0, none⟩) (k3 + k4) (k3 + k4)) (k3 + k4) (joinP k3 S T) :=
            own_strs (base := w3.heap.size) (by rw [joinP_v k3 k4 S T k4 (Nat.le_refl _)]; exact hown) fun j hj => Nat.le_trans (hst j hj) (by decide)
          have hF4 : F.answers wr.tape := by rw [hbr.tape]; exact hF3
          go_wp2_with fail
          clear hlt4
          refine (zzCut F _ _ _ _ (by exact hF4) hJ (fun j hj => Nat.le_trans (hst j hj) (by decide)) _ _ _ _ (cell_below hbr k0) (cell_below hbr k1)).mono ?_
          rintro e w5 ⟨r1, d1, x1, rfl, hb5, hcut1⟩
          rw [joinP_keep S T (by omega), joinP_end S T (k := 1) (by omega)] at hcut1
          have HC1 : Hid _ := hcut1
          have hF5 : F.answers w5.tape := by rw [hb5.tape]; exact hF4
          have hb5' : Below w3.heap.size w3 w5 := below_trans hbr hb5
          have HJ : Hid (IsStrs w5 (.slice (some ⟨w3.heap.size, 0, none⟩) (k3 + k4) (k3 + k4)) (k3 + k4) (joinP k3 S T)) := hJ.below hb5
          clear hcut1 hJ hst hown hbr hF4 hb5
          go_wp2_with fail
          refine (zzCut F _ _ _ _ (by exact hF5) (HT.out.below hb5') (fun j hj => Nat.le_trans (HS2.out j hj) (by decide)) _ _ _ _ (cell_below hb5' k0) (cell_below hb5' k1)).mono ?_
          rintro e w6 ⟨r2, d2, x2, rfl, hb6, hcut2⟩
          have HC2 : Hid _ := hcut2
          have HJ6 : Hid (IsStrs w6 (.slice (some ⟨w3.heap.size, 0, none⟩) (k3 + k4) (k3 + k4)) (k3 + k4) (joinP k3 S T)) := HJ.out.below hb6
          have HB6' : Hid (Below w3.heap.size w3 w6) := below_trans hb5' hb6
          have HT6 : Hid (IsStrs w6 (.slice (some ⟨w'.heap.size, 0, none⟩) k4 k4) k4 T) := HT.out.below HB6'.out
          have HP6 : Hid (IsStrs w6 (.slice a k3 c) k3 S) := HP.out.below HB6'.out
          have HB6 : Hid (Below w'.heap.size w' w6) := below_trans HB3.out HB6'.out
          have hc6 : ∀ i, i < k4 → w6.cell? ⟨w'.heap.size, i, none⟩ = some (.string (T i)) := fun i hi' => cell_below HB6'.out (HX2.out i hi')
          have HX6 : Hid (∀ i, i < k4 → w6.cell? ⟨w'.heap.size, i, none⟩ = some (.string (T i))) := hc6
          clear hcut2 HJ HT HP HB3 HX HX2 hb5' hb6 hF3 hF5 k0 k1 HB6' hc6
          obtain ⟨q, hq⟩ : ∃ q, k4 = q + 2 := ⟨k4 - 2, by omega⟩
          subst hq
          have hq0 := HX6.out q (by omega)
          have hq1 := HX6.out (q + 1) (by omega)
          have hsl := HS2.out (q + 1) (by omega)
          clear HX6 HS HS2
          rcases HC2.out with ⟨hk, rfl, rfl, rfl⟩ | ⟨hk, hms, -, hd2, rfl, a2, c3, hs2, rfl⟩ | ⟨hk, hms, rfl, rfl, pe, rfl⟩
          · have h1' : r1 = .slice (some ⟨w3.heap.size, 0, none⟩) (k3 + (q + 2)) (k3 + (q + 2)) ∧ d1 = 0 ∧ x1 = .nilIface := by
              rcases HC1.out with ⟨-, h⟩ | ⟨h, -⟩ | ⟨h, -⟩
              · exact h
              · rw [hk] at h; cases h
              · rw [hk] at h; cases h
            obtain ⟨rfl, rfl, rfl⟩ := h1'
            clear HC1 HC2
            by_cases ht : (T q).toList = [116, 105, 109, 101, 111, 117, 116]
            · have ht' : ((T q).toList == [116, 105, 109, 101, 111, 117, 116]) = true := beq_iff_eq.2 ht
              have hno : msB (T (q + 1)) = false := keep_not_ms (m := q + 2) (by omega) hk ht
              have HZ : Hid (∀ W, Calls Tryf.prog 13 #[.string (T (q + 1))] W fun e w' => e = .returned (.tuple #[.int .i64 (msV (T (q + 1))), .bool false]) ∧ w' = W) := fun W => by
                have := zzMs_any (T (q + 1)) W (Nat.le_trans hsl (by decide))
                rw [hno] at this
                exact this
              clear ht hk hno
              go_wp2_with fail
              go_quiet (fail)
              go_wp2_with (first | (go_at_call 11; refine (zzEqJoined_yes _ _ _ _ _ _ _ _ (HJ6.out.drewN _) (HP6.out.drewN _) (HT6.out.drewN _) (by omega)).mono ?_; rintro e w8 ⟨rfl, q8, rfl⟩) | (go_at_call 13; refine (HZ.out _).mono ?_; rintro e w8 ⟨rfl, hw8⟩; subst hw8))
              go_ret
              exact ⟨rfl, by first | exact below_drewN HB6.out _ | exact below_drewN (below_drewN HB6.out _) _ | exact below_drewN (below_drewN (below_drewN HB6.out _) _) _⟩
            · have ht' : ((T q).toList == [116, 105, 109, 101, 111, 117, 116]) = false := beq_eq_false_iff_ne.2 ht
              clear ht hk
              go_wp2_with fail
              go_quiet (fail)
              go_wp2_with (first | (go_at_call 11; refine (zzEqJoined_yes _ _ _ _ _ _ _ _ (HJ6.out.drewN _) (HP6.out.drewN _) (HT6.out.drewN _) (by omega)).mono ?_; rintro e w8 ⟨rfl, q8, rfl⟩) | (go_at_call 12; refine (zzEq_any _ _ _ _ _ _ _ (HT6.out.drewN _) (HT6.out.drewN _)).mono ?_; rw [sameB_refl]; rintro e w9 ⟨rfl, q9, rfl⟩))
              go_ret
              exact ⟨rfl, by first | exact below_drewN HB6.out _ | exact below_drewN (below_drewN HB6.out _) _ | exact below_drewN (below_drewN (below_drewN HB6.out _) _) _⟩
          · have h1' : r1 = .slice (some ⟨w3.heap.size, 0, none⟩) (k3 + q) (k3 + (q + 2)) ∧ d1 = msV (T (q + 1)) * 1000000 ∧ x1 = .nilIface := by
              rcases HC1.out with ⟨h, -⟩ | ⟨-, -, -, hd, hx, a', c', hs, hr⟩ | ⟨-, h, -⟩
              · rw [hk] at h; cases h
              · cases hs
                exact ⟨hr, hd, hx⟩
              · rw [hms] at h; cases h
            obtain ⟨rfl, rfl, rfl⟩ := h1'
            cases hs2
            subst hd2
            have ht' : ((T q).toList == [116, 105, 109, 101, 111, 117, 116]) = true := beq_iff_eq.2 (nokeep_timeout (m := q + 2) hk)
            have hms' : msB (T (q + 1)) = true := hms
            obtain ⟨hm3, hm4⟩ := msV_bd hms'
            have HZ : Hid (∀ W, Calls Tryf.prog 13 #[.string (T (q + 1))] W fun e w' => e = .returned (.tuple #[.int .i64 (msV (T (q + 1))), .bool true]) ∧ w' = W) := fun W => by
              have := zzMs_any (T (q + 1)) W (Nat.le_trans hsl (by decide))
              rw [hms'] at this
              exact this
            have HJ7 : Hid (IsStrs w6 (.slice (some ⟨w3.heap.size, 0, none⟩) (k3 + q) (k3 + (q + 2))) (k3 + q) (joinP k3 S T)) := HJ6.out.take (by omega)
            have HT7 : Hid (IsStrs w6 (.slice (some ⟨w'.heap.size, 0, none⟩) q (q + 2)) q T) := HT6.out.take (by omega)
            clear HC1 HC2 hk hms hms'
            rw [show q + 2 - 1 = q + 1 from rfl]
            generalize msV (T (q + 1)) = mv at *
            go_wp2_with fail
            go_quiet (fail)
            go_wp2_with (first | (go_at_call 11; refine (zzEqJoined_yes _ _ _ _ _ _ _ _ (HJ7.out.drewN _) (HP6.out.drewN _) (HT7.out.drewN _) (by omega)).mono ?_; rintro e w8 ⟨rfl, q8, rfl⟩) | (go_at_call 13; refine (HZ.out _).mono ?_; rintro e w8 ⟨rfl, hw8⟩; subst hw8) | (go_at_call 12; refine (zzEq_any _ _ _ _ _ _ _ (HT7.out.drewN _) (HT7.out.drewN _)).mono ?_; rw [sameB_refl]; rintro e w9 ⟨rfl, q9, rfl⟩))
            go_ret
            exact ⟨rfl, by first | exact below_drewN HB6.out _ | exact below_drewN (below_drewN HB6.out _) _ | exact below_drewN (below_drewN (below_drewN HB6.out _) _) _⟩
          · have h1' : r1 = .slice none 0 0 ∧ d1 = 0 ∧ ∃ p, x1 = .iface 63 p := by
              rcases HC1.out with ⟨h, -⟩ | ⟨-, h, -⟩ | ⟨-, -, h⟩
              · rw [hk] at h; cases h
              · rw [hms] at h; cases h
              · exact h
            obtain ⟨rfl, rfl, pf, rfl⟩ := h1'
            have ht' : ((T q).toList == [116, 105, 109, 101, 111, 117, 116]) = true := beq_iff_eq.2 (nokeep_timeout (m := q + 2) hk)
            have hms' : msB (T (q + 1)) = false := hms
            have HZ : Hid (∀ W, Calls Tryf.prog 13 #[.string (T (q + 1))] W fun e w' => e = .returned (.tuple #[.int .i64 (msV (T (q + 1))), .bool false]) ∧ w' = W) := fun W => by
              have := zzMs_any (T (q + 1)) W (Nat.le_trans hsl (by decide))
              rw [hms'] at this
              exact this
            clear HC1 HC2 hk hms hms'
            go_wp2_with fail
            go_quiet (fail)
            go_wp2_with (first | (go_at_call 13; refine (HZ.out _).mono ?_; rintro e w8 ⟨rfl, hw8⟩; subst hw8))
            go_ret
            exact ⟨rfl, by first | exact below_drewN HB6.out _ | exact below_drewN (below_drewN HB6.out _) _ | exact below_drewN (below_drewN (below_drewN HB6.out _) _) _⟩
end Go.Proofs.Qxb6614453aFmt
