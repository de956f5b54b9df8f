/-
  Conditions: ZZnewConstraint (19), ZZconstraintText (11), ZZconstraintVersions (13).
-/
import Derived.Test.Qxb6615015aDoorE
namespace Go.Proofs.Qxb6615015aDoor
open Go.RowKit

theorem info52 : (Tryd.prog.info? 52).map (fun i => (i.zero, i.size, i.bytes)) = some (some (.agg #[.string ⟨#[]⟩, .nilFunc, .string ⟨#[]⟩, .string ⟨#[]⟩]), 4, 56) := by kernel_rfl

/-- A condition's four cells: no operator, the version's text, no upper bound. -/
def condC (s : ByteArray) : List Value := [.string ⟨#[]⟩, .nilFunc, .string s, .string ⟨#[]⟩]
def condsC (l : List ByteArray) : List Value := l.flatMap condC
theorem condsC_append (l m : List ByteArray) : condsC (l ++ m) = condsC l ++ condsC m := by simp [condsC]
theorem condsC_len (l : List ByteArray) : (condsC l).length = l.length * 4 := by
  induction l with
  | nil => rfl
  | cons x r ih =>
    have : condsC (x :: r) = condC x ++ condsC r := rfl
    rw [this, List.length_append, ih]
    simp [condC]
    omega
theorem condsC_one (l : List ByteArray) : ∀ x ∈ condsC l, x.oneCell' = true := by
  intro x hx
  simp only [condsC, List.mem_flatMap] at hx
  obtain ⟨s, -, hx⟩ := hx
  simp [condC] at hx
  rcases hx with rfl | rfl | rfl | rfl <;> rfl
theorem condsC_get (l : List ByteArray) : ∀ (j i : Nat), j < l.length → i < 4 → (condsC l)[j * 4 + i]? = (condC (l.getD j ⟨#[]⟩))[i]? := by
  induction l with
  | nil => intro j i hj; simp at hj
  | cons x r ih =>
    intro j i hj hi
    have e : condsC (x :: r) = condC x ++ condsC r := rfl
    rw [e]
    cases j with
    | zero =>
      rw [List.getElem?_append_left (by simp [condC]; omega)]
      simp
    | succ j =>
      rw [List.getElem?_append_right (by simp [condC]; omega)]
      have : (j + 1) * 4 + i - (condC x).length = j * 4 + i := by simp [condC]; omega
      rw [this, ih j i (by simpa using hj) hi]
      simp

/-- THE VALUE IS A SLICE OF CONDITIONS WHOSE VERSIONS ARE l, in a block from base on. -/
def HasConds (w : World) (base : Nat) (v : Value) (l : List ByteArray) : Prop :=
  ∃ a c, v = .slice a l.length c ∧ l.length ≤ c ∧ c ≤ maxLen ∧ (a = none → c = 0) ∧
    (0 < l.length → ∃ b o, a = some ⟨b, o, none⟩ ∧ base ≤ b ∧ ∀ j x, (condsC l)[j]? = some x → w.cell? ⟨b, o + j, none⟩ = some x)
theorem HasConds.below {w w1 : World} {base : Nat} {v : Value} {l : List ByteArray} (h : HasConds w base v l) (hb : Below w.heap.size w w1) : HasConds w1 base v l := by
  obtain ⟨a, c, rfl, h1, h2, h3, hx⟩ := h
  refine ⟨a, c, rfl, h1, h2, h3, fun hp => ?_⟩
  obtain ⟨b, o, rfl, h4, hcell⟩ := hx hp
  exact ⟨b, o, rfl, h4, fun j x hj => cell_below hb (hcell j x hj)⟩
theorem HasConds.base {w : World} {base base' : Nat} {v : Value} {l : List ByteArray} (h : HasConds w base v l) (hb : base' ≤ base) : HasConds w base' v l := by
  obtain ⟨a, c, rfl, h1, h2, h3, hx⟩ := h
  refine ⟨a, c, rfl, h1, h2, h3, fun hp => ?_⟩
  obtain ⟨b, o, rfl, h4, hcell⟩ := hx hp
  exact ⟨b, o, rfl, by omega, hcell⟩
theorem HasConds.grown {w w1 : World} {base g : Nat} {v : Value} {l : List ByteArray} (h : HasConds w base v l) (hg : w.grownBy w1 (some g)) (hlt : g < base) : HasConds w1 base v l := by
  obtain ⟨a, c, rfl, h1, h2, h3, hx⟩ := h
  refine ⟨a, c, rfl, h1, h2, h3, fun hp => ?_⟩
  obtain ⟨b, o, rfl, h4, hcell⟩ := hx hp
  refine ⟨b, o, rfl, h4, fun j x hj => ?_⟩
  have hc := hcell j x hj
  rw [World.cell?_of_block (w := w) (hg.block b (World.block_lt_of_cell? _ _ hc) (fun e => by cases e; omega))]
  exact hc
theorem HasConds.shape {w : World} {base : Nat} {v : Value} {l : List ByteArray} (h : HasConds w base v l) : ∃ a c, v = .slice a l.length c := let ⟨a, c, e, _⟩ := h; ⟨a, c, e⟩
theorem own_conds {w : World} {base : Nat} {v : Value} {l : List ByteArray} (h : w.ownsRow base 52 4 v l.length (condsC l)) : HasConds w base v l := by
  have hh := h
  rcases h.2 with ⟨rfl, h0⟩ | ⟨g, cap, cur, rfl, hb, hg, h1, h2, h3, h4⟩
  · exact ⟨none, 0, by rw [h0], by omega, Nat.zero_le _, fun _ => rfl, fun hp => by omega⟩
  · refine ⟨some ⟨g, 0, none⟩, cap, rfl, h1, h2, (fun e => by cases e), fun _ => ⟨g, 0, rfl, hb, fun j x hj => ?_⟩⟩
    have hlt : j < l.length * 4 := by
      have := (List.getElem?_eq_some_iff.1 hj).1
      rwa [condsC_len] at this
    rw [Nat.zero_add, World.ownsRow.cellAt hh j hlt]
    exact hj

/-- The strings S 0 .. S (k-1). -/
def listOf (S : Nat → ByteArray) (k : Nat) : List ByteArray := (List.range k).map S
theorem listOf_succ (S : Nat → ByteArray) (k : Nat) : listOf S (k + 1) = listOf S k ++ [S k] := by simp [listOf, List.range_succ]
theorem listOf_len (S : Nat → ByteArray) (k : Nat) : (listOf S k).length = k := by simp [listOf]

theorem heap_new (w : World) (o : Obj) : (w.alloc o).heap[w.heap.size]? = some o := by
  show (w.heap.push o)[w.heap.size]? = some o
  simp
theorem cells_new (w : World) (l : List Value) (t : TypeId) : ∀ j u, l[j]? = some u → (w.alloc (.cells l.toArray t)).cell? ((⟨w.heap.size, 0, none⟩ : Addr).add j) = some u := by
  intro j u h
  rw [Go.WideShapes.add_plain, Nat.zero_add, World.cell?_alloc_new]
  simpa using h
theorem own_shape {w : World} {base : Nat} {e : TypeId} {size : Nat} {v : Value} {n : Nat} {xs : List Value} (h : w.ownsRow base e size v n xs) : ∃ a c, v = .slice a n c := by
  rcases h.2 with ⟨rfl, h0⟩ | ⟨g, cap, cur, rfl, -⟩
  · exact ⟨none, 0, by rw [h0]⟩
  · exact ⟨_, _, rfl⟩

set_option maxHeartbeats 1000000 in
theorem newCon_any (x : ByteArray) (v : Value) (n : Nat) (S : Nat → ByteArray) (w : World) (hv : IsStrs w v n S) (hn : n ≤ 1048576) :
    Calls Tryd.prog 19 #[.string x, v] w fun e w' => ∃ u, e = .returned (.agg #[.string x, u]) ∧ HasConds w' (w.heap.size + 1) u (listOf S n) ∧ Below w.heap.size w w' := by
  obtain ⟨a, c, rfl, hc, hm, -, hsz, hx⟩ := hv
  unfold maxLen at hm hsz
  obtain ⟨i0, hi, hz0, hz1, hz2⟩ := info_parts info52
  have HX : Hid (∀ j, j < n → ∃ b o, a = some ⟨b, o, none⟩ ∧ ∀ i, i < n → w.cell? ⟨b, o + i, none⟩ = some (.string (S i))) := hx; clear hx hsz
  go_enter Tryd.func19, Tryd.ntmps19
  go_wp2
  go_loopw [5, 10] (fun z i W => ∃ k : Nat, k ≤ n ∧ i = .int .i64 k ∧ W.ownsRow (w.heap.size + 1) 52 4 z k (condsC (listOf S k)) ∧ W.heap[w.heap.size]? = some (.cells #[.string ⟨#[]⟩, .slice none 0 0] 30 (0, 0)) ∧ Below w.heap.size w W) (fun _ i _ => n - (intOf i).toNat)
  case atStart => exact ⟨0, Nat.zero_le _, rfl, World.ownsRow_nil _ _ _ _, heap_new _ _, (Below.refl _ _).alloc (Nat.le_refl _) _⟩
  case round =>
    obtain ⟨k, hk, rfl, hown, hres, hbr⟩ := hrel
    by_cases hlt : k < n
    · obtain ⟨b, o, ha, hcell⟩ := HX.out k hlt
      subst ha
      have hck := cell_below hbr (hcell k hlt)
      clear hcell
      have HNEW : Hid (∀ j u, (condC (S k))[j]? = some u → (wr.alloc (.cells #[.string ⟨#[]⟩, .nilFunc, .string (S k), .string ⟨#[]⟩] 52)).cell? ((⟨wr.heap.size, 0, none⟩ : Addr).add j) = some u) := cells_new wr (condC (S k)) 52
      have hB0 : w.heap.size < wr.heap.size := (Array.getElem?_eq_some_iff.1 hres).1
      go_wp2_with (first | (at_builtin; refine wpList_append_own _ rfl (.tmp 14) (.tmp 18) 28 rfl (w.heap.size + 1) 52 i0 (.agg #[.string ⟨#[]⟩, .nilFunc, .string ⟨#[]⟩, .string ⟨#[]⟩]) 4 56 Tryd.underlying28 hi hz0 hz1 hz2 rfl (by decide) _ _ _ rfl (hown.alloc _) ⟨wr.heap.size, 0, none⟩ 1 1 (condC (S k)) rfl rfl HNEW.out (fun u hu => condsC_one [S k] u (by simpa [condsC] using hu)) (by unfold maxLen; omega) (by omega) (by simp; omega) ?_; intro v3 w3 hown3 hgrow3 _))
      have hne : some w.heap.size ≠ Value.ownBlock _ := fun e => by have := own_block hown _ e.symm; omega
      refine ⟨⟨k + 1, by omega, by go_num, by rw [listOf_succ, condsC_append]; exact hown3, ?_, (hbr.alloc hbr.size _).grown hgrow3 (by simp; omega) (fun i h => by have := own_block hown i h; omega)⟩, by simp [intOf]; omega⟩
      rw [hgrow3.block _ (by simp; omega) hne, Below.heap_alloc _ _ _ hB0]
      exact hres
    · obtain rfl : k = n := by omega
      obtain ⟨a5, c5, e5⟩ := own_shape hown
      subst e5
      have q0 : wr.cell? ⟨w.heap.size, 0, none⟩ = some (.string ⟨#[]⟩) := by simp [World.cell?, hres]
      have q1 : wr.cell? ⟨w.heap.size, 1, none⟩ = some (.slice none 0 0) := by simp [World.cell?, hres]
      have f0 : wr.frozen? ⟨w.heap.size, 0, none⟩ = false := by simp [World.frozen?, hres]
      have f1 : wr.frozen? ⟨w.heap.size, 1, none⟩ = false := by simp [World.frozen?, hres]
      have HR : Hid (wr.heap[w.heap.size]? = some (.cells #[.string ⟨#[]⟩, .slice none 0 0] 30 (0, 0))) := hres
      clear hres
      go_wp2
      refine bodyPost_ret (v := .agg #[.string x, .slice a5 k c5]) (by simp [results, Tryd.results19, go_sem, q0, q1]) rfl ⟨_, rfl, ?_, (hbr.setCell (Nat.le_refl _) _).setCell (Nat.le_refl _) _⟩
      exact own_conds (l := listOf S k) (by rw [listOf_len]; exact ownsRow_setCell_below (ownsRow_setCell_below hown (Nat.lt_succ_self _) _) (Nat.lt_succ_self _) _)
end Go.Proofs.Qxb6615015aDoor
