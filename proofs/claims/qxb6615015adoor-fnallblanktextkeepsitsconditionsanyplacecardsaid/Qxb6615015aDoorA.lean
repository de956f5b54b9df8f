/-
  The leaves of seat b6615015aD: blanks; the budget of one constraint; two slices of strings compared.
-/
import Derived.Test.Qxb6615015aDoorRows
import Derived.WalkKit
import Derived.WalkSpells
import Derived.WalkLawsBesides
import Derived.BigQuiet
import Derived.Deep.QuietTactic
import Derived.Lib.Strings
namespace Go.Proofs.Qxb6615015aDoor
open Go.RowKit

theorem ret_bool {a b : Bool} (h : a = b) : Ending.returned (.bool a) = .returned (.bool b) := by rw [h]
theorem take_snoc (s : ByteArray) (k : Nat) (h : k < s.size) : s.data.toList.take (k + 1) = s.data.toList.take k ++ [s[k]] := by
  rw [List.take_succ_eq_append_getElem (by simpa using h)]; rfl
theorem bytes_eq {a b : ByteArray} (h : a.toList = b.toList) : a = b := by
  rw [ByteArray.toList_eq, ByteArray.toList_eq] at h
  exact ByteArray.ext (Array.toList_inj.1 h)

/-- Blank or tab. -/
def isBlank (c : UInt8) : Bool := decide (c.toNat = 32 ∨ c.toNat = 9)
/-- Blanks and tabs alone. -/
def blanksB (s : ByteArray) : Bool := s.data.toList.all isBlank

theorem blanks_no {s : ByteArray} (k : Nat) (hk : k < s.size) (h : s[k].toNat ≠ 32 ∧ s[k].toNat ≠ 9) : blanksB s = false := by
  unfold blanksB
  rw [Bool.eq_false_iff]
  intro e
  rw [List.all_eq_true] at e
  have := e s[k] (List.getElem_mem _)
  simp [isBlank] at this
  omega

set_option maxHeartbeats 400000 in
theorem isBlanks_any (s : ByteArray) (w : World) (hs : s.size ≤ maxLen) :
    Calls Tryd.prog 16 #[.string s] w fun e w' => e = .returned (.bool (blanksB s)) ∧ w' = w := by
  unfold maxLen at hs
  generalize hb : blanksB s = B
  have HB : Hid (blanksB s = B) := hb; clear hb
  go_enter Tryd.func16, Tryd.ntmps16
  go_wp2
  go_loop [3] (fun i => ∃ (k : Nat), k ≤ s.size ∧ i = .int .i64 k ∧ Hid ((s.data.toList.take k).all isBlank = true)) (fun i => s.size - (intOf i).toNat)
  case atStart => exact ⟨0, Nat.zero_le _, rfl, rfl⟩
  case round =>
    obtain ⟨k, hk, rfl, HJ⟩ := hrel
    by_cases hlt : k < s.size
    · have HT : Hid (s.data.toList.take (k + 1) = s.data.toList.take k ++ [s[k]]) := take_snoc s k hlt
      go_wp2
      · refine ⟨⟨k + 1, by omega, by go_num, ?_⟩, by simp [intOf]; omega⟩
        show _ = _
        rw [HT.out, List.all_append, HJ.out]
        simp [isBlank]
        omega
      · rename_i hb _
        go_ret
        exact ⟨ret_bool (by rw [← HB.out]; exact (blanks_no k hlt (by have h1 := hb.1; have h2 := hb.2; rw [bne_iff_ne] at h1 h2; omega)).symm), rfl⟩
      · rename_i h32 hb
        refine ⟨⟨k + 1, by omega, by go_num, ?_⟩, by simp [intOf]; omega⟩
        show _ = _
        rw [HT.out, List.all_append, HJ.out]
        have h9 : (s[k].toNat : Int) = 9 := by
          rcases hb with h | h
          · exact absurd (by simpa using h) h32
          · simpa using h
        simp [isBlank]
        omega
    · go_wp2
      go_ret
      exact ⟨ret_bool (by rw [← HB.out]; unfold blanksB; rw [← List.take_of_length_le (i := k) (l := s.data.toList) (by simp; omega)]; exact HJ.out.symm), rfl⟩

/-- THE VALUE IS A SLICE OF n STRINGS, S 0 .. S (n-1), IN THE WORLD w. -/
def IsStrs (w : World) (v : Value) (n : Nat) (S : Nat → ByteArray) : Prop :=
  ∃ a c, v = .slice a n c ∧ n ≤ c ∧ c ≤ maxLen ∧ (a = none → c = 0) ∧ (∀ j, j < n → (S j).size ≤ maxLen) ∧
    (∀ j, j < n → ∃ b o, a = some ⟨b, o, none⟩ ∧ ∀ i, i < n → w.cell? ⟨b, o + i, none⟩ = some (.string (S i)))

theorem cell_below {W w1 : World} (hb : Below W.heap.size W w1) {a : Addr} {x : Value} (h : W.cell? a = some x) : w1.cell? a = some x := by
  rw [hb.cell (World.block_lt_of_cell? _ _ h)]; exact h
theorem below_trans {w w1 w2 : World} (h : Below w.heap.size w w1) (h' : Below w1.heap.size w1 w2) : Below w.heap.size w w2 := h.trans (h'.mono h.size)
theorem IsStrs.below {w w1 : World} {v : Value} {n : Nat} {S : Nat → ByteArray} (h : IsStrs w v n S) (hb : Below w.heap.size w w1) : IsStrs w1 v n S := by
  obtain ⟨a, c, rfl, hc, hm, hz, hs, hx⟩ := h
  refine ⟨a, c, rfl, hc, hm, hz, hs, fun j hj => ?_⟩
  obtain ⟨b, o, rfl, hcell⟩ := hx j hj
  exact ⟨b, o, rfl, fun i hi => cell_below hb (hcell i hi)⟩

theorem IsStrs.shape {w : World} {v : Value} {n : Nat} {S : Nat → ByteArray} (h : IsStrs w v n S) : ∃ a c, v = .slice a n c := let ⟨a, c, e, _⟩ := h; ⟨a, c, e⟩

/-- What conOneBytes leaves of its budget. -/
def IsLeft (b m : Int) (e : Ending) : Prop := ∃ r : Int, e = .returned (.int .i64 r) ∧ r ≤ b ∧ (0 ≤ r → r + m ≤ b)
theorem isLeft_no {b m : Int} (h : 0 ≤ b) : IsLeft b m (.returned (.int .i64 (-1))) := ⟨-1, rfl, by omega, fun h => by omega⟩

set_option maxHeartbeats 400000 in
theorem conOne_any (x : ByteArray) (v : Value) (n : Nat) (S : Nat → ByteArray) (b : Int) (w : World) (hs : x.size ≤ maxLen) (hv : IsStrs w v n S) (hb0 : 0 ≤ b) (hb1 : b ≤ 1048576) :
    Calls Tryd.prog 15 #[.agg #[.string x, v], .int .i64 b] w fun e w' => IsLeft b (40 + x.size + 16 * n) e ∧ Below w.heap.size w w' := by
  obtain ⟨a, c, rfl, hc, hm, -, hsz, hx⟩ := hv
  unfold maxLen at hs hm hsz
  have HS : Hid (∀ j, j < n → (S j).size ≤ 2 ^ 63 - 1) := hsz; clear hsz
  have HX : Hid (∀ j, j < n → ∃ b o, a = some ⟨b, o, none⟩ ∧ ∀ i, i < n → w.cell? ⟨b, o + i, none⟩ = some (.string (S i))) := hx; clear hx
  have HB : ∀ o : Obj, Below w.heap.size w (w.alloc o) := fun o => (Below.refl _ _).alloc (Nat.le_refl _) o
  have HB' : Hid (∀ o : Obj, Below w.heap.size w (w.alloc o)) := HB; clear HB
  go_enter Tryd.func15, Tryd.ntmps15
  go_wp2
  · go_ret
    exact ⟨isLeft_no hb0, HB'.out _⟩
  · go_ret
    exact ⟨isLeft_no hb0, HB'.out _⟩
  · go_ret
    exact ⟨isLeft_no hb0, HB'.out _⟩
  go_loop [5, 38] (fun z i => ∃ (y : Int) (k : Nat), k ≤ n ∧ z = .int .i64 y ∧ i = .int .i64 k ∧ 0 ≤ y ∧ y + (40 + x.size + 16 * n) ≤ b) (fun _ i => n - (intOf i).toNat)
  case atStart => exact ⟨_, 0, Nat.zero_le _, rfl, rfl, by omega, by omega⟩
  case round =>
    obtain ⟨y, k, hk, rfl, rfl, hy1, hy2⟩ := hrel
    by_cases hlt : k < n
    · obtain ⟨b', o, ha, hcell⟩ := HX.out k hlt
      subst ha
      have hck := hcell k hlt
      have hbk := World.block_lt_of_cell? _ _ hck
      have hsk := HS.out k hlt
      clear hcell
      go_wp2
      · go_ret
        exact ⟨isLeft_no hb0, HB'.out _⟩
      · exact ⟨⟨_, k + 1, by omega, rfl, by go_num, by omega, by omega⟩, by simp [intOf]; omega⟩
    · go_wp2
      go_ret
      exact ⟨⟨y, rfl, by omega, fun _ => by omega⟩, HB'.out _⟩
/-- The constraints' data: text i, its versions. -/
structure Cons where
  X : Nat → ByteArray
  N : Nat → Nat
  V : Nat → Nat → ByteArray

/-- THE VALUE IS A SLICE OF n Con, AS D SAYS, IN THE WORLD w. -/
def IsCons (w : World) (v : Value) (n : Nat) (D : Cons) : Prop :=
  ∃ a c, v = .slice a n c ∧ n ≤ c ∧ c ≤ maxLen ∧
    (∀ j, j < n → ∃ b o, a = some ⟨b, o, none⟩ ∧ ∀ i, i < n → (D.X i).size ≤ maxLen ∧ w.cell? ⟨b, o + i * 2, none⟩ = some (.string (D.X i)) ∧ ∃ u, w.cell? ⟨b, o + i * 2 + 1, none⟩ = some u ∧ IsStrs w u (D.N i) (D.V i))

/-- The budget that k constraints take. -/
def wt (D : Cons) : Nat → Nat
  | 0 => 0
  | k + 1 => wt D k + (40 + (D.X k).size + 16 * D.N k)

set_option maxHeartbeats 400000 in
theorem conBytes_any (v : Value) (n : Nat) (D : Cons) (b : Int) (w : World) (hv : IsCons w v n D) (hb0 : 0 ≤ b) (hb1 : b ≤ 1048576) :
    Calls Tryd.prog 6 #[v, .int .i64 b] w fun e w' => IsLeft b (wt D n) e ∧ Below w.heap.size w w' := by
  obtain ⟨a, c, rfl, hc, hm, hx⟩ := hv
  unfold maxLen at hm
  have HX : Hid (∀ j, j < n → ∃ b o, a = some ⟨b, o, none⟩ ∧ ∀ i, i < n → (D.X i).size ≤ maxLen ∧ w.cell? ⟨b, o + i * 2, none⟩ = some (.string (D.X i)) ∧ ∃ u, w.cell? ⟨b, o + i * 2 + 1, none⟩ = some u ∧ IsStrs w u (D.N i) (D.V i)) := hx; clear hx
  go_enter Tryd.func6, Tryd.ntmps6
  go_wp2
  go_loopw [5, 11] (fun z i W => ∃ (y : Int) (k : Nat), k ≤ n ∧ z = .int .i64 y ∧ i = .int .i64 k ∧ 0 ≤ y ∧ y + wt D k ≤ b ∧ Below w.heap.size w W) (fun _ i _ => n - (intOf i).toNat)
  case atStart => exact ⟨_, 0, Nat.zero_le _, rfl, rfl, hb0, by simp [wt], Below.refl _ _⟩
  case round =>
    obtain ⟨y, k, hk, rfl, rfl, hy1, hy2, hbr⟩ := hrel
    by_cases hlt : k < n
    · obtain ⟨b', o, ha, hcell⟩ := HX.out k hlt
      subst ha
      obtain ⟨hsk, hc0, u, hc1, hu⟩ := hcell k hlt
      obtain ⟨a2, c2, e2⟩ := hu.shape
      subst e2
      have hc0' := cell_below hbr hc0
      have hc1' := cell_below hbr hc1
      have HU : Hid (∀ O : Obj, IsStrs (wr.alloc O) (.slice a2 (D.N k) c2) (D.N k) (D.V k)) := fun O => (hu.below hbr).below ((Below.refl _ _).alloc (Nat.le_refl _) O)
      clear hcell hu hc0 hc1
      go_wp2_with fail
      refine (conOne_any _ _ _ _ _ _ hsk (HU.out _) hy1 (by omega)).mono ?_
      rintro e w2 ⟨⟨r, rfl, hr1, hr2⟩, hb2⟩
      have HB2 : Hid (Below w.heap.size w w2) := below_trans (hbr.trans (((Below.refl _ _).alloc (Nat.le_refl _) _).mono hbr.size)) hb2
      clear hb2
      by_cases hr0 : r < 0
      · go_wp2_with fail
        go_ret
        exact ⟨isLeft_no hb0, HB2.out⟩
      · go_wp2_with fail
        exact ⟨⟨_, k + 1, by omega, rfl, by go_num, by omega, by have := hr2 (by omega); simp only [wt]; omega, HB2.out⟩, by simp [intOf]; omega⟩
    · obtain rfl : k = n := by omega
      go_wp2
      go_ret
      exact ⟨⟨y, rfl, by omega, fun _ => hy2⟩, hbr⟩
end Go.Proofs.Qxb6615015aDoor
