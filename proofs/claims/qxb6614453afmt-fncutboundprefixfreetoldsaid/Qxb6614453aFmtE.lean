/-
  FnCutBoundLastField, walked.
-/
import Derived.Test.Qxb6614453aFmtD
namespace Go.Proofs.Qxb6614453aFmt
open Go.RowKit Go.Extern.Stop Go.Stop Go.Extern

theorem IsStrs.below {w w1 : World} {v : Value} {n : Nat} {S : Nat → ByteArray} (h : IsStrs w v n S) (hb : Below w.heap.size w w1) : IsStrs w1 v n S := by
  obtain ⟨a, c, rfl, hc, hm, hs, hx⟩ := h
  refine ⟨a, c, rfl, hc, hm, hs, fun j hj => ?_⟩
  obtain ⟨b, o, rfl, hcell⟩ := hx j hj
  exact ⟨b, o, rfl, fun i hi => cell_below hb (hcell i hi)⟩

theorem IsStrs.drewN {w : World} {v : Value} {n : Nat} {S : Nat → ByteArray} (h : IsStrs w v n S) (q : Nat) : IsStrs (w.drewN q) v n S := h

theorem info9 : (Tryf.prog.info? 9).map (fun i => (i.zero, i.size, i.bytes)) = some (some (.string ⟨#[]⟩), 1, 16) := by kernel_rfl

/-- The first k strings as cells. -/
def strsV (S : Nat → ByteArray) (k : Nat) : List Value := (List.range k).map fun j => .string (S j)
theorem strsV_succ (S : Nat → ByteArray) (k : Nat) : strsV S (k + 1) = strsV S k ++ [.string (S k)] := by simp [strsV, List.range_succ]

theorem strsV_congr {S T : Nat → ByteArray} {k : Nat} (h : ∀ j, j < k → S j = T j) : strsV S k = strsV T k := by
  unfold strsV
  exact List.map_congr_left fun j hj => by rw [h j (List.mem_range.1 hj)]
theorem own_strs {w : World} {base g n cap : Nat} {S : Nat → ByteArray} (h : w.ownsRow base 9 1 (.slice (some ⟨g, 0, none⟩) n cap) n (strsV S n)) (hs : ∀ j, j < n → (S j).size ≤ maxLen) :
    IsStrs w (.slice (some ⟨g, 0, none⟩) n cap) n S := by
  have hcell := fun j hj => World.ownsRow.cellAt h j hj
  have hb : n ≤ cap ∧ cap ≤ maxLen := by
    rcases h.2 with ⟨h', _⟩ | ⟨g', cap', cur, h', _, _, h1, h2, _⟩
    · cases h'
    · cases h'
      exact ⟨h1, h2⟩
  refine ⟨_, _, rfl, hb.1, hb.2, hs, fun j hj => ⟨g, 0, rfl, fun i hi => ?_⟩⟩
  rw [Nat.zero_add, hcell i (by omega)]
  simp [strsV, hi]

/-- The fields, then timeout, then the last. -/
def joinLast (n : Nat) (S : Nat → ByteArray) (last : ByteArray) : Nat → ByteArray := fun j => if j < n then S j else if j = n then ⟨#[116, 105, 109, 101, 111, 117, 116]⟩ else last
theorem joinLast_v (n : Nat) (S : Nat → ByteArray) (last : ByteArray) : strsV (joinLast n S last) (n + 2) = strsV S n ++ [.string ⟨#[116, 105, 109, 101, 111, 117, 116]⟩] ++ [.string last] := by
  rw [strsV_succ, strsV_succ, strsV_congr (T := S) (fun j hj => by simp [joinLast, hj])]
  have h1 : ¬ (n + 1 < n) := by omega
  simp [joinLast, h1]
theorem joinLast_last (n : Nat) (S : Nat → ByteArray) (last : ByteArray) : joinLast n S last (n + 2 - 1) = last := by
  have h1 : ¬ (n + 1 < n) := by omega
  simp [joinLast, h1]
theorem joinLast_keep (n : Nat) (S : Nat → ByteArray) (last : ByteArray) : keepB (n + 2) (joinLast n S last) = (lockB last || durB last) := by
  have ht : (joinLast n S last (n + 2 - 2)).toList = [116, 105, 109, 101, 111, 117, 116] := by
    have : joinLast n S last n = ⟨#[116, 105, 109, 101, 111, 117, 116]⟩ := by simp [joinLast]
    rw [show n + 2 - 2 = n from rfl, this, ByteArray.toList_eq]
  rw [Bool.eq_iff_iff]
  simp only [keepB, decide_eq_true_eq, Bool.or_eq_true, joinLast_last]
  constructor
  · rintro (h | h | h)
    · omega
    · exact absurd ht h
    · exact h
  · exact fun h => Or.inr (Or.inr h)
theorem IsStrs.take {w : World} {a : Option Addr} {c n m : Nat} {S : Nat → ByteArray} (h : IsStrs w (.slice a n c) n S) (hm : m ≤ n) : IsStrs w (.slice a m c) m S := by
  obtain ⟨a', c', he, hc, hc', hs, hx⟩ := h
  cases he
  refine ⟨_, _, rfl, by omega, hc', fun j hj => hs j (by omega), fun j hj => ?_⟩
  obtain ⟨b, o, rfl, hcell⟩ := hx j (by omega)
  exact ⟨b, o, rfl, fun i hi => hcell i (by omega)⟩
theorem msV_bd {s : ByteArray} (h : msB s = true) : 1 ≤ msV s ∧ msV s ≤ 9223372036854 := by
  have h' := h
  simp only [msB, decide_eq_true_eq] at h'
  simp only [msV, h, if_true]
  omega
theorem sameB_refl (n : Nat) (S : Nat → ByteArray) : sameB n n S S = true := sameB_yes fun _ _ => rfl
theorem below_trans {w w1 w2 : World} (h : Below w.heap.size w w1) (h' : Below w1.heap.size w1 w2) : Below w.heap.size w w2 := h.trans (h'.mono h.size)

set_option maxHeartbeats 1000000 in
set_option maxRecDepth 100000 in
theorem last_walk (F : Interp) (v : Value) (n : Nat) (S : Nat → ByteArray) (last : ByteArray) (w : World) (hF : F.answers w.tape) (hv : IsStrs w v n S) (hl : last.size ≤ maxLen)
    (t0 t1 : TypeId) (p0 p1 : Value) (h0 : w.cell? ⟨0, 0, none⟩ = some (.iface t0 p0)) (h1 : w.cell? ⟨1, 0, none⟩ = some (.iface t1 p1)) :
    Calls Tryf.prog 5 #[v, .string last] w fun e w' => e = .returned (.bool true) ∧ Below w.heap.size w w' := by
  have hbytes := bytes14 v n S last w hv hl
  have hv0 := hv
  obtain ⟨a, c, rfl, hc, hm, -, hx⟩ := hv
  unfold maxLen at hm hl
  obtain ⟨i0, hi, hz0, hz1, hz2⟩ := info_parts info9
  have HX : Hid (∀ j, j < n → ∃ b o, a = some ⟨b, o, none⟩ ∧ ∀ i, i < n → w.cell? ⟨b, o + i, none⟩ = some (.string (S i))) := hx; clear hx
  have HV : Hid (IsStrs w (.slice a n c) n S) := hv0; clear hv0
  go_enter Tryf.func5, Tryf.ntmps5
  go_wp2_with fail
  refine hbytes.mono ?_
  rintro e w' ⟨⟨r, rfl, hr⟩, hw⟩
  subst hw
  clear hbytes
  cases r
  · go_wp2_with fail
    go_ret
    exact ⟨rfl, Below.refl _ _⟩
  obtain ⟨hn, hsz⟩ := hr rfl
  have HS : Hid (∀ j, j < n → (S j).size ≤ 1048576) := hsz; clear hsz hr
  go_wp2_with fail
  · go_ret
    exact ⟨rfl, Below.refl _ _⟩
  go_loop [5, 6] (fun z i => ∃ (y : Int) (k : Nat), k ≤ n ∧ z = .int .i64 y ∧ i = .int .i64 k ∧ 0 ≤ y ∧ y ≤ 1048576) (fun _ i => n - (intOf i).toNat)
  case atStart => exact ⟨0, 0, Nat.zero_le _, rfl, rfl, by omega, by omega⟩
  case round =>
    obtain ⟨y, k, hk, rfl, rfl, hy1, hy2⟩ := hrel
    by_cases hlt : k < n
    · obtain ⟨b, o, ha, hcell⟩ := HX.out k hlt
      subst ha
      have hck := hcell k hlt
      have hsk := HS.out k hlt
      clear hcell
      go_wp2_with fail
      · go_ret
        exact ⟨rfl, Below.refl _ _⟩
      · exact ⟨⟨_, k + 1, by omega, rfl, by go_num, by omega, by omega⟩, by simp [intOf]; omega⟩
    · go_wp2_with (first | (at_make; refine wpList_make_own _ rfl _ _ 26 rfl w'.heap.size 9 i0 (.string ⟨#[]⟩) 1 Tryf.underlying26 hi hz0 hz1 .i64 .i64 _ (n + 2) rfl rfl (by omega) (by rw [hz2]; omega) (by unfold maxLen; omega) (Nat.le_refl _) ?_; intro w2 hown hgrow))
      have hb2 : Below w'.heap.size w' w2 := (Below.refl _ _).grown hgrow (Nat.le_refl _) (fun _ h => by cases h)
      clear hgrow
      go_loopw [7, 8] (fun v i wr => ∃ k : Nat, k ≤ n ∧ i = .int .i64 k ∧ v = .slice (some ⟨w'.heap.size, 0, none⟩) k (n + 2) ∧ wr.ownsRow w'.heap.size 9 1 (.slice (some ⟨w'.heap.size, 0, none⟩) k (n + 2)) k (strsV S k) ∧ Below w'.heap.size w' wr)
        (fun _ i _ => n - (intOf i).toNat)
      case atStart => exact ⟨0, Nat.zero_le _, rfl, rfl, hown, hb2⟩
      case round =>
        clear hown hb2
        obtain ⟨k2, hk2, rfl, rfl, hown, hbr⟩ := hrel
        by_cases hlt2 : k2 < n
        · obtain ⟨b, o, ha, hcell⟩ := HX.out k2 hlt2
          subst ha
          have hck : wr.cell? ⟨b, o + k2, none⟩ = some (.string (S k2)) := by
            have := hcell k2 hlt2
            rw [hbr.cell (World.block_lt_of_cell? _ _ this)]; exact this
          clear hcell
          go_wp2_with (first | (at_builtin; refine wpList_append_fits _ rfl (.tmp 51) (.tmp 56) 26 rfl w'.heap.size 9 i0 1 Tryf.underlying26 hi hz1 w'.heap.size k2 (n + 2) (strsV S k2) rfl (hown.alloc _) ⟨wr.heap.size, 0, none⟩ 1 1 [.string (S k2)] rfl rfl (cell_one_new _ _ _) (fun u hu => by simp at hu; subst hu; rfl) (by omega) ?_; intro w3 hown3 hgrow3))
          exact ⟨⟨k2 + 1, by omega, by go_num, rfl, by rw [strsV_succ]; exact hown3, (hbr.alloc hbr.size _).grown hgrow3 (by have := hbr.size; simp; omega) (fun _ h => by cases h; exact Nat.le_refl _)⟩, by simp [intOf]; omega⟩
        · obtain rfl : k2 = n := by omega
          clear hlt2 hlt hk2 HX
          go_wp2_with (first | (at_builtin; refine wpList_append_fits _ rfl (.tmp 58) (.tmp 59) 26 rfl w'.heap.size 9 i0 1 Tryf.underlying26 hi hz1 w'.heap.size k2 (k2 + 2) (strsV S k2) rfl (hown.alloc _) ⟨wr.heap.size, 0, none⟩ 1 1 [.string ⟨#[116, 105, 109, 101, 111, 117, 116]⟩] rfl rfl (cell_one_new _ _ _) (fun u hu => by simp at hu; subst hu; rfl) (by omega) ?_; intro w3 hown3 hgrow3) | (at_builtin; refine wpList_append_fits _ rfl (.tmp 61) (.tmp 63) 26 rfl w'.heap.size 9 i0 1 Tryf.underlying26 hi hz1 w'.heap.size (k2 + 1) (k2 + 2) _ rfl (hown3.alloc _) ⟨w3.heap.size, 0, none⟩ 1 1 [.string last] rfl rfl (cell_one_new _ _ _) (fun u hu => by simp at hu; subst hu; rfl) (by omega) ?_; intro w4 hown4 hgrow4))
          have hb3 : Below w'.heap.size w' w3 := (hbr.alloc hbr.size _).grown hgrow3 (by have := hbr.size; simp; omega) (fun _ h => by cases h; exact Nat.le_refl _)
          have hb4 : Below w'.heap.size w' w4 := (hb3.alloc hb3.size _).grown hgrow4 (by have := hb3.size; simp; omega) (fun _ h => by cases h; exact Nat.le_refl _)
          clear hgrow3 hbr hown
          clear hgrow4 hb3 hown3
          have hst : ∀ j, j < k2 + 2 → (joinLast k2 S last j).size ≤ 1048576 := by
            intro j hj
            unfold joinLast
            split
            · exact HS.out j (by assumption)
            · split
              · decide
              · omega
          have hA : IsStrs w4 (.slice (some ⟨w'.heap.size, 0, none⟩) (k2 + 2) (k2 + 2)) (k2 + 2) (joinLast k2 S last) :=
            own_strs (base := w'.heap.size) (by rw [joinLast_v]; exact hown4) fun j hj => Nat.le_trans (hst j hj) (by decide)
          have hF4 : F.answers w4.tape := by rw [hb4.tape]; exact hF
          refine (zzCut F _ _ _ _ (by exact hF4) hA (fun j hj => Nat.le_trans (hst j hj) (by decide)) _ _ _ _ (cell_below hb4 h0) (cell_below hb4 h1)).mono ?_
          rintro e w5 ⟨r, d, x, rfl, hb5, hcut⟩
          rw [joinLast_keep, joinLast_last] at hcut
          have hF5 : F.answers w5.tape := by rw [hb5.tape]; exact hF4
          have HA : Hid (IsStrs w5 (.slice (some ⟨w'.heap.size, 0, none⟩) (k2 + 2) (k2 + 2)) (k2 + 2) (joinLast k2 S last)) := hA.below hb5
          have HB : Hid (Below w'.heap.size w' w5) := below_trans hb4 hb5
          have HC : Hid _ := hcut
          clear hcut hA hst hb4 hb5 hF4 hown4 hF h0 h1
          go_wp2_with fail
          refine (parseLock F _ _ (by exact hF5)).mono ?_
          rintro e w6 ⟨tt, tv, rfl, htv, hb6⟩
          have hF6 : F.answers w6.tape := by rw [hb6.tape]; exact hF5
          go_wp2_with fail
          refine (parseDur F _ _ (by exact hF6)).mono ?_
          rintro e w7 ⟨dt, dv, rfl, hdv, hb7⟩
          have HA7 : Hid (IsStrs w7 (.slice (some ⟨w'.heap.size, 0, none⟩) (k2 + 2) (k2 + 2)) (k2 + 2) (joinLast k2 S last)) := (HA.out.below hb6).below hb7
          have HB7 : Hid (Below w'.heap.size w' w7) := below_trans (below_trans HB.out hb6) hb7
          have HV7 : Hid (IsStrs w7 (.slice a k2 c) k2 S) := HV.out.below HB7.out
          clear HA HB HV hb6 hb7 hF5 hF6
          rcases htv with ⟨hl1, rfl⟩ | ⟨hl1, p, rfl⟩
          · have hk : r = .slice (some ⟨w'.heap.size, 0, none⟩) (k2 + 2) (k2 + 2) ∧ d = 0 ∧ x = .nilIface := by
              rcases HC.out with ⟨-, h⟩ | ⟨h, -⟩ | ⟨h, -⟩
              · exact h
              · rw [hl1] at h; cases h
              · rw [hl1] at h; cases h
            obtain ⟨rfl, rfl, rfl⟩ := hk
            clear HC hdv
            go_wp2_with (first | (go_at_call 12; refine (zzEq_any _ _ _ _ _ _ _ HA7.out HA7.out).mono ?_; rw [sameB_refl]; rintro e w8 ⟨rfl, q, rfl⟩))
            go_ret
            exact ⟨rfl, below_drewN HB7.out _⟩
          rcases hdv with ⟨hd1, rfl⟩ | ⟨hd1, p', rfl⟩
          · have hk : r = .slice (some ⟨w'.heap.size, 0, none⟩) (k2 + 2) (k2 + 2) ∧ d = 0 ∧ x = .nilIface := by
              rcases HC.out with ⟨-, h⟩ | ⟨h, -⟩ | ⟨h, -⟩
              · exact h
              · rw [hd1, Bool.or_true] at h; cases h
              · rw [hd1, Bool.or_true] at h; cases h
            obtain ⟨rfl, rfl, rfl⟩ := hk
            clear HC
            go_wp2_with (first | (go_at_call 12; refine (zzEq_any _ _ _ _ _ _ _ HA7.out HA7.out).mono ?_; rw [sameB_refl]; rintro e w8 ⟨rfl, q, rfl⟩))
            go_ret
            exact ⟨rfl, below_drewN HB7.out _⟩
          rcases HC.out with ⟨h, -⟩ | ⟨-, hms, -, hd, rfl, a', c', hs1, rfl⟩ | ⟨-, hms, rfl, rfl, pe, rfl⟩
          · rw [hl1, hd1] at h; cases h
          · subst hd
            cases hs1
            obtain ⟨hm1, hm2⟩ := msV_bd hms
            have HR : Hid (IsStrs w7 (.slice (some ⟨w'.heap.size, 0, none⟩) k2 (k2 + 2)) k2 (joinLast k2 S last)) := HA7.out.take (by omega)
            have HQ : Hid (sameB k2 k2 (joinLast k2 S last) S = true) := sameB_yes fun j hj => by simp [joinLast, hj]
            have HZ := zzMs_any last w7 (by unfold maxLen; omega)
            rw [hms] at HZ
            clear hms HC
            generalize msV last = mv at *
            go_wp2_with (first | (go_at_call 13; refine HZ.mono ?_; clear HZ; rintro e w8 ⟨rfl, hw8⟩; subst hw8) | (go_at_call 12; refine (zzEq_any _ _ _ _ _ _ _ HR.out HV7.out).mono ?_; rw [HQ.out]; rintro e w8 ⟨rfl, q, rfl⟩))
            go_ret
            exact ⟨rfl, below_drewN HB7.out _⟩
          · have HZ := zzMs_any last w7 (by unfold maxLen; omega)
            rw [hms] at HZ
            clear hms HC
            generalize msV last = mv at *
            have hnil : ∀ W : World, (binOp .eql 26 (.slice none 0 0) (.slice none 0 0)).run Tryf.prog W = .ok (.bool true) W := fun W => Lib.run_eql_slice_nil W 26 9 none 0 0 0 0 Tryf.underlying26
            go_wp2_with (first | (go_at_call 13; refine HZ.mono ?_; clear HZ; rintro e w8 ⟨rfl, hw8⟩; subst hw8))
            go_ret
            exact ⟨rfl, HB7.out⟩
end Go.Proofs.Qxb6614453aFmt
