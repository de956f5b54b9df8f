/-
  cutBound, walked: what it returns at every slice of strings.
-/
import Derived.Test.Qxb6614453aFmtB
import Derived.Test.Qxb6614453aFmtC
import Derived.Test.Qxb6614453aFmtShelf
import Derived.Lib.SmallJoins
namespace Go.Proofs.Qxb6614453aFmt
open Go.RowKit Go.Extern.Stop Go.Stop Go.Extern

theorem cutSuffix (s : ByteArray) (w : World) (hs : s.size ≤ 9223372036854775807) :
    Calls Tryf.prog 23 #[.string s, .string ⟨#[109, 115]⟩] w fun e w' => e = .returned (.tuple #[.string ⟨(digL s.data.toList).toArray⟩, .bool (Lib.hasSuffix s.data.toList msL)]) ∧ w' = w :=
  Any.strings_CutSuffix Tryf.lays104 s ⟨#[109, 115]⟩ w hs

theorem trimDigits (s : ByteArray) (w : World) (hs : s.size ≤ 9223372036854775807) :
    Calls Tryf.prog 25 #[.string s, .string ⟨#[48, 49, 50, 51, 52, 53, 54, 55, 56, 57]⟩] w fun e w' => e = .returned (.string ⟨(Lib.trimS s.data.toList digSet).toArray⟩) ∧ Below w.heap.size w w' :=
  Any.strings_Trim_laid Tryf.lays160 (by kernel_rfl) s ⟨#[48, 49, 50, 51, 52, 53, 54, 55, 56, 57]⟩ w hs (by decide) (ascii_of_all (by decide))

/-- WHAT ParseInt GIVES: the number and nil, or an error that is not nil. -/
def IsInt (l : List UInt8) (w : World) (e : Ending) (w' : World) : Prop :=
  ∃ n v, e = .returned (.tuple #[.int .i64 n, v]) ∧ ((Lib.parseIntB 64 l = .ok n ∧ v = .nilIface) ∨ ((∀ m, Lib.parseIntB 64 l ≠ .ok m) ∧ ∃ p, v = .iface 72 p)) ∧ Below w.heap.size w w'

theorem parseInt (s : ByteArray) (w : World) (hs : s.size ≤ 281474976710656) (t0 t1 : TypeId) (p0 p1 : Value) (h0 : w.cell? ⟨0, 0, none⟩ = some (.iface t0 p0)) (h1 : w.cell? ⟨1, 0, none⟩ = some (.iface t1 p1)) :
    Calls Tryf.prog 24 #[.string s, .int .i64 10, .int .i64 64] w fun e w' => IsInt s.data.toList w e w' := by
  cases h : Lib.parseIntB 64 s.data.toList with
  | ok v =>
    refine (Any.strconv_ParseInt_10_at64_ok Tryf.laysC174 s (by omega) v h w).mono ?_
    rintro e w' ⟨rfl, hw⟩
    refine ⟨v, _, rfl, Or.inl ⟨h, rfl⟩, ?_⟩
    rcases hw with rfl | ⟨t, rfl⟩
    · exact Below.refl _ _
    · exact Joins.below_bytesWorld _ _ _ _ (Nat.le_refl _)
  | range =>
    refine (Any.strconv_ParseInt_10_at64_range Tryf.laysC174 s hs h _ w h1 (Or.inr ⟨_, _, rfl⟩)).mono ?_
    rintro e w' ⟨N, rfl, -, -, hb⟩
    exact ⟨_, _, rfl, Or.inr ⟨fun m e => (by rw [h] at e; cases e), _, rfl⟩, hb⟩
  | _ =>
    refine (Any.strconv_ParseInt_10_at64_syntax Tryf.laysC174 s hs h _ w h0 (Or.inr ⟨_, _, rfl⟩)).mono ?_
    rintro e w' ⟨N, rfl, -, -, hb⟩
    exact ⟨_, _, rfl, Or.inr ⟨fun m e => (by rw [h] at e; cases e), _, rfl⟩, hb⟩

/-- Are all fields kept? -/
def keepB (n : Nat) (S : Nat → ByteArray) : Bool := decide (n < 2 ∨ (S (n - 2)).toList ≠ [116, 105, 109, 101, 111, 117, 116] ∨ lockB (S (n - 1)) = true ∨ durB (S (n - 1)) = true)

/-- WHAT cutBound GIVES. -/
def IsCut (v : Value) (n : Nat) (S : Nat → ByteArray) (w : World) (e : Ending) (w' : World) : Prop :=
  ∃ r d x, e = .returned (.tuple #[r, .int .i64 d, x]) ∧ Below w.heap.size w w' ∧
    ((keepB n S = true ∧ r = v ∧ d = 0 ∧ x = .nilIface) ∨
     (keepB n S = false ∧ msB (S (n - 1)) = true ∧ 2 ≤ n ∧ d = msV (S (n - 1)) * 1000000 ∧ x = .nilIface ∧ ∃ a c, v = .slice a n c ∧ r = .slice a (n - 2) c) ∨
     (keepB n S = false ∧ msB (S (n - 1)) = false ∧ r = .slice none 0 0 ∧ d = 0 ∧ ∃ p, x = .iface 63 p))

set_option maxHeartbeats 400000 in
theorem cut_short (v : Value) (n : Nat) (S : Nat → ByteArray) (w : World) (hv : IsStrs w v n S) (h2 : n < 2) :
    Calls Tryf.prog 18 #[v] w fun e w' => IsCut v n S w e w' := by
  obtain ⟨a, c, rfl, hc, hm, -, -⟩ := hv
  unfold maxLen at hm
  go_enter Tryf.func18, Tryf.ntmps18
  go_wp2
  go_ret3
  exact ⟨_, _, _, rfl, Below.refl _ _, Or.inl ⟨by simp [keepB, h2], rfl, rfl, rfl⟩⟩

set_option maxHeartbeats 400000 in
theorem cut_other (v : Value) (n : Nat) (S : Nat → ByteArray) (w : World) (hv : IsStrs w v n S) (h2 : 2 ≤ n) (ht : (S (n - 2)).toList ≠ [116, 105, 109, 101, 111, 117, 116]) :
    Calls Tryf.prog 18 #[v] w fun e w' => IsCut v n S w e w' := by
  have hk : keepB n S = true := by simp [keepB, ht]
  obtain ⟨m, rfl⟩ : ∃ m, n = m + 2 := ⟨n - 2, by omega⟩
  obtain ⟨a, c, rfl, hc, hm, -, hx⟩ := hv
  unfold maxLen at hm
  obtain ⟨b, o, rfl, hcell⟩ := hx m (by omega)
  have hc0 := hcell m (by omega)
  have ht' : ((S m).toList == [116, 105, 109, 101, 111, 117, 116]) = false := beq_eq_false_iff_ne.2 ht
  clear hcell hx ht
  go_enter Tryf.func18, Tryf.ntmps18
  go_wp2
  go_ret3
  exact ⟨_, _, _, rfl, Below.refl _ _, Or.inl ⟨hk, rfl, rfl, rfl⟩⟩

theorem cell_below {W w1 : World} (hb : Below W.heap.size W w1) {a : Addr} {x : Value} (h : W.cell? a = some x) : w1.cell? a = some x := by
  rw [hb.cell (World.block_lt_of_cell? _ _ h)]; exact h

set_option maxHeartbeats 800000 in
theorem cut_main (F : Interp) (v : Value) (n : Nat) (S : Nat → ByteArray) (w : World) (hF : F.answers w.tape) (hv : IsStrs w v n S) (h2 : 2 ≤ n) (ht : (S (n - 2)).toList = [116, 105, 109, 101, 111, 117, 116])
    (hs : (S (n - 1)).size ≤ 281474976710656) (t0 t1 : TypeId) (p0 p1 : Value) (h0 : w.cell? ⟨0, 0, none⟩ = some (.iface t0 p0)) (h1 : w.cell? ⟨1, 0, none⟩ = some (.iface t1 p1)) :
    Calls Tryf.prog 18 #[v] w fun e w' => IsCut v n S w e w' := by
  have HK : Hid (keepB n S = (lockB (S (n - 1)) || durB (S (n - 1)))) := by
    show keepB n S = _
    rw [Bool.eq_iff_iff]
    simp only [keepB, decide_eq_true_eq, Bool.or_eq_true]
    constructor
    · rintro (h | h | h)
      · omega
      · exact absurd ht h
      · exact h
    · exact fun h => Or.inr (Or.inr h)
  obtain ⟨m, rfl⟩ : ∃ m, n = m + 2 := ⟨n - 2, by omega⟩
  obtain ⟨a, c, rfl, hc, hm, -, hx⟩ := hv
  unfold maxLen at hm
  obtain ⟨b, o, rfl, hcell⟩ := hx m (by omega)
  have hc0 := hcell m (by omega)
  have hc1 := hcell (m + 1) (by omega)
  have ht' : ((S m).toList == [116, 105, 109, 101, 111, 117, 116]) = true := beq_iff_eq.2 ht
  clear hcell hx ht
  go_enter Tryf.func18, Tryf.ntmps18
  go_wp2_with fail
  refine (parseLock F _ _ (by exact hF)).mono ?_
  rintro e w1 ⟨t, x, rfl, hx, hb1⟩
  have hF1 : F.answers w1.tape := by rw [hb1.tape]; exact hF
  have k0 := cell_below hb1 h0
  have k1 := cell_below hb1 h1
  clear h0 h1 hc0 hc1
  go_wp2_with fail
  refine (parseDur F _ _ (by exact hF1)).mono ?_
  rintro e w2 ⟨u, y, rfl, hy, hb2⟩
  have hF2 : F.answers w2.tape := by rw [hb2.tape]; exact hF1
  have k0' := cell_below hb2 k0
  have k1' := cell_below hb2 k1
  clear k0 k1
  have hb : Below w.heap.size w w2 := hb1.trans (hb2.mono hb1.size)
  have HB : Hid (Below w.heap.size w w2) := hb
  clear hF hF1 hb hb1 hb2
  rcases hx with ⟨hl, rfl⟩ | ⟨hl, p, rfl⟩
  · go_wp2_with fail
    go_ret3
    exact ⟨_, _, _, rfl, HB.out, Or.inl ⟨by rw [HK.out]; simp [hl], rfl, rfl, rfl⟩⟩
  rcases hy with ⟨hd, rfl⟩ | ⟨hd, q, rfl⟩
  · go_wp2_with fail
    go_ret3
    exact ⟨_, _, _, rfl, HB.out, Or.inl ⟨by rw [HK.out]; simp [hd], rfl, rfl, rfl⟩⟩
  have HN : Hid (keepB (m + 2) S = false) := by show keepB (m + 2) S = false; rw [HK.out]; simp [hl, hd]
  clear HK hl hd ht'
  rw [show m + 2 - 1 = m + 1 from rfl] at hs
  have HL : Hid (∀ (n : Int), CutIs (S (m + 1)).data.toList n → msB (S (m + 1)) = true ∧ msV (S (m + 1)) = n) := fun n h => msV_eq _ n h
  have HM : Hid ((∀ n, ¬ CutIs (S (m + 1)).data.toList n) → msB (S (m + 1)) = false) := fun h => by
    rw [Bool.eq_false_iff]
    exact fun e => let ⟨n, hn⟩ := (msB_iff _).1 e; h n hn
  generalize hlast : S (m + 1) = last at *
  have HQ : Hid (S (m + 1) = last) := hlast; clear hlast
  go_wp2_with fail
  refine (cutSuffix _ _ (by omega)).mono ?_
  rintro e w3 ⟨rfl, rfl⟩
  have hdl : digL last.data.toList = (⟨(digL last.data.toList).toArray⟩ : ByteArray).data.toList := rfl
  have hdz : (⟨(digL last.data.toList).toArray⟩ : ByteArray).size ≤ last.size := by
    show (digL last.data.toList).toArray.size ≤ _
    simp only [List.size_toArray, digL, Lib.trimSuffix]
    split
    · simp
    · simp
  generalize (⟨(digL last.data.toList).toArray⟩ : ByteArray) = d at *
  have HD : Hid (digL last.data.toList = d.data.toList) := hdl; clear hdl
  generalize hsf : Lib.hasSuffix last.data.toList msL = found at *
  have HS : Hid (Lib.hasSuffix last.data.toList msL = found) := hsf; clear hsf
  go_wp2_with fail
  refine (parseInt _ _ (by omega) _ _ _ _ k0' k1').mono ?_
  rintro e w4 ⟨k, z, rfl, hz, hb4⟩
  have hF4 : F.answers w4.tape := by rw [hb4.tape]; exact hF2
  have hb : Below w.heap.size w w4 := HB.out.trans (hb4.mono HB.out.size)
  clear HB hb4 hF2 k0' k1'
  have HB : Hid (Below w.heap.size w w4) := hb; clear hb
  cases found
  · have hno : msB last = false := HM.out fun n h => by have := h.1; rw [HS.out] at this; cases this
    clear HM HL HS HD
    have HZ : Hid _ := hz; clear hz
    go_wp2_with fail
    refine (errorf_want F last _ 9223372036854 _ (by exact hF4) (by go_simp) (by go_simp)).mono ?_
    rintro e w6 ⟨p6, rfl, hb6⟩
    go_wp2_with fail
    go_ret3
    exact ⟨_, _, _, rfl, (HB.out.trans (((Below.refl _ _).alloc (Nat.le_refl _) _).mono HB.out.size)).trans (hb6.mono (by have := HB.out.size; simp; omega)), Or.inr (Or.inr ⟨HN.out, (congrArg msB HQ.out).trans hno, rfl, rfl, _, rfl⟩)⟩
  go_wp2_with fail
  refine (trimDigits _ _ (by omega)).mono ?_
  rintro e w5 ⟨rfl, hb5⟩
  have hF5 : F.answers w5.tape := by rw [hb5.tape]; exact hF4
  have hb : Below w.heap.size w w5 := HB.out.trans (hb5.mono HB.out.size)
  clear HB hb5 hF4
  have HB : Hid (Below w.heap.size w w5) := hb; clear hb
  have htl : (⟨(Lib.trimS d.data.toList digSet).toArray⟩ : ByteArray).toList = Lib.trimS d.data.toList digSet := by rw [ByteArray.toList_eq]
  generalize (⟨(Lib.trimS d.data.toList digSet).toArray⟩ : ByteArray) = T at *
  have HT : Hid (T.toList = Lib.trimS d.data.toList digSet) := htl; clear htl
  by_cases hte : T.toList = []
  · have hte' : T.toList.isEmpty = true := by rw [hte]; rfl
    have HE : Hid (Lib.trimS d.data.toList digSet = []) := HT.out.symm.trans hte
    clear hte HT
    rcases hz with ⟨hok, rfl⟩ | ⟨hbad, q, rfl⟩
    · have HO : Hid (Lib.parseIntB 64 d.data.toList = .ok k) := hok; clear hok
      by_cases hr : 1 ≤ k ∧ k ≤ 9223372036854
      · obtain ⟨hy1, hy2⟩ := HL.out k ⟨HS.out, by rw [HD.out]; exact HE.out, by rw [HD.out]; exact HO.out, hr.1, hr.2⟩
        obtain ⟨hr1, hr2⟩ := hr
        have HY : Hid (msB last = true ∧ msV last = k) := ⟨hy1, hy2⟩
        clear hy1 hy2 HL HM HS HD HO HE
        go_wp2_with fail
        go_ret3
        exact ⟨_, _, _, rfl, HB.out, Or.inr (Or.inl ⟨HN.out, (congrArg msB HQ.out).trans HY.out.1, by omega, congrArg (· * 1000000) ((congrArg msV HQ.out).trans HY.out.2).symm, rfl, _, _, rfl, rfl⟩)⟩
      · have hno : msB last = false := HM.out fun n h => by
          have := h.2.2.1
          rw [HD.out, HO.out] at this
          injection this with this
          exact hr ⟨by have := h.2.2.2.1; omega, by have := h.2.2.2.2; omega⟩
        clear HM HL HS HD HO HE
        by_cases hr1 : k < 1
        · clear hr
          go_wp2_with fail
          refine (errorf_want F last _ 9223372036854 _ (by exact hF5) (by go_simp) (by go_simp)).mono ?_
          rintro e w6 ⟨p6, rfl, hb6⟩
          go_wp2_with fail
          go_ret3
          exact ⟨_, _, _, rfl, (HB.out.trans (((Below.refl _ _).alloc (Nat.le_refl _) _).mono HB.out.size)).trans (hb6.mono (by have := HB.out.size; simp; omega)), Or.inr (Or.inr ⟨HN.out, (congrArg msB HQ.out).trans hno, rfl, rfl, _, rfl⟩)⟩
        · have hr2 : 9223372036854 < k := by omega
          clear hr
          go_wp2_with fail
          refine (errorf_want F last _ 9223372036854 _ (by exact hF5) (by go_simp) (by go_simp)).mono ?_
          rintro e w6 ⟨p6, rfl, hb6⟩
          go_wp2_with fail
          go_ret3
          exact ⟨_, _, _, rfl, (HB.out.trans (((Below.refl _ _).alloc (Nat.le_refl _) _).mono HB.out.size)).trans (hb6.mono (by have := HB.out.size; simp; omega)), Or.inr (Or.inr ⟨HN.out, (congrArg msB HQ.out).trans hno, rfl, rfl, _, rfl⟩)⟩
    · have hno : msB last = false := HM.out fun n h => by
        have := h.2.2.1
        rw [HD.out] at this
        exact hbad n this
      clear HM HL HS HD HE hbad
      go_wp2_with fail
      refine (errorf_want F last _ 9223372036854 _ (by exact hF5) (by go_simp) (by go_simp)).mono ?_
      rintro e w6 ⟨p6, rfl, hb6⟩
      go_wp2_with fail
      go_ret3
      exact ⟨_, _, _, rfl, (HB.out.trans (((Below.refl _ _).alloc (Nat.le_refl _) _).mono HB.out.size)).trans (hb6.mono (by have := HB.out.size; simp; omega)), Or.inr (Or.inr ⟨HN.out, (congrArg msB HQ.out).trans hno, rfl, rfl, _, rfl⟩)⟩
  · have hte' : T.toList.isEmpty = false := by cases h : T.toList with
      | nil => exact absurd h hte
      | cons _ _ => rfl
    have hno : msB last = false := HM.out fun n h => by
      have := h.2.1
      rw [HD.out, ← HT.out] at this
      exact hte this
    have HZ : Hid _ := hz
    clear HM HL HS HD HT hz hte
    go_wp2_with fail
    refine (errorf_want F last _ 9223372036854 _ (by exact hF5) (by go_simp) (by go_simp)).mono ?_
    rintro e w6 ⟨p6, rfl, hb6⟩
    go_wp2_with fail
    go_ret3
    exact ⟨_, _, _, rfl, (HB.out.trans (((Below.refl _ _).alloc (Nat.le_refl _) _).mono HB.out.size)).trans (hb6.mono (by have := HB.out.size; simp; omega)), Or.inr (Or.inr ⟨HN.out, (congrArg msB HQ.out).trans hno, rfl, rfl, _, rfl⟩)⟩

theorem cut_any (F : Interp) (v : Value) (n : Nat) (S : Nat → ByteArray) (w : World) (hF : F.answers w.tape) (hv : IsStrs w v n S)
    (hs : ∀ j, j < n → (S j).size ≤ 281474976710656) (t0 t1 : TypeId) (p0 p1 : Value) (h0 : w.cell? ⟨0, 0, none⟩ = some (.iface t0 p0)) (h1 : w.cell? ⟨1, 0, none⟩ = some (.iface t1 p1)) :
    Calls Tryf.prog 18 #[v] w fun e w' => IsCut v n S w e w' := by
  by_cases h2 : n < 2
  · exact cut_short v n S w hv h2
  · by_cases ht : (S (n - 2)).toList = [116, 105, 109, 101, 111, 117, 116]
    · exact cut_main F v n S w hF hv (by omega) ht (hs _ (by omega)) t0 t1 p0 p1 h0 h1
    · exact cut_other v n S w hv (by omega) ht

set_option maxHeartbeats 400000 in
theorem zzCut (F : Interp) (v : Value) (n : Nat) (S : Nat → ByteArray) (w : World) (hF : F.answers w.tape) (hv : IsStrs w v n S)
    (hs : ∀ j, j < n → (S j).size ≤ 281474976710656) (t0 t1 : TypeId) (p0 p1 : Value) (h0 : w.cell? ⟨0, 0, none⟩ = some (.iface t0 p0)) (h1 : w.cell? ⟨1, 0, none⟩ = some (.iface t1 p1)) :
    Calls Tryf.prog 10 #[v] w fun e w' => IsCut v n S w e w' := by
  go_enter Tryf.func10, Tryf.ntmps10
  go_wp2_with fail
  refine (cut_any F v n S w hF hv hs t0 t1 p0 p1 h0 h1).mono ?_
  rintro e w' ⟨r, d, x, rfl, hr⟩
  go_wp2_with fail
  go_ret3
  exact ⟨r, d, x, rfl, hr⟩

end Go.Proofs.Qxb6614453aFmt
