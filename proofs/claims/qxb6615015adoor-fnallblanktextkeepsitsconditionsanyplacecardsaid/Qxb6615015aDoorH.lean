/-
  All (9).
-/
import Derived.Test.Qxb6615015aDoorG
import Derived.Test.Qxb6615015aDoorShelf
import Derived.Lib.SlTrimSet
namespace Go.Proofs.Qxb6615015aDoor
open Go.RowKit

theorem set_contains (c : UInt8) : ([32, 9] : List UInt8).contains c = isBlank c := by
  rw [Bool.eq_iff_iff, List.contains_iff_mem]
  simp only [isBlank, decide_eq_true_eq, List.mem_cons, List.not_mem_nil, or_false]
  constructor
  · rintro (rfl | rfl) <;> decide
  · rintro h
    simp only [← UInt8.toNat_inj]
    exact h
theorem dropWhile_nil (p : UInt8 → Bool) : ∀ l : List UInt8, l.dropWhile p = [] ↔ l.all p = true
  | [] => by simp
  | c :: r => by
    rw [List.dropWhile_cons, List.all_cons]
    cases h : p c
    · simp
    · simp [dropWhile_nil p r]
theorem trim_nil (l : List UInt8) : Lib.trimS l [32, 9] = [] ↔ l.all isBlank = true := by
  unfold Lib.trimS Lib.trimLeftS
  rw [dropWhile_nil]
  simp only [set_contains]
  unfold Lib.trimRightS
  simp only [set_contains]
  rw [List.all_reverse]
  constructor
  · intro h
    have key : ∀ m : List UInt8, (m.dropWhile isBlank).all isBlank = true → m.all isBlank = true := by
      intro m
      induction m with
      | nil => simp
      | cons c r ih =>
        rw [List.dropWhile_cons, List.all_cons]
        cases hc : isBlank c
        · simp [hc]
        · simpa using ih
    have := key _ h
    rwa [List.all_reverse] at this
  · intro h
    rw [(dropWhile_nil isBlank l.reverse).2 (by rw [List.all_reverse]; exact h)]
    rfl

/-- strings.Trim at blanks and tabs: is what is left empty? -/
theorem trim_any (s : ByteArray) (w : World) (hs : s.size ≤ 9223372036854775807) :
    Calls Tryd.prog 17 #[.string s, .string ⟨#[32, 9]⟩] w fun e w' => ∃ t : ByteArray, e = .returned (.string t) ∧ t.toList.isEmpty = blanksB s ∧ Below w.heap.size w w' := by
  refine (Any.strings_Trim_laid Tryd.lays160 (by kernel_rfl) s ⟨#[32, 9]⟩ w hs (by decide) (ascii_of_all (by decide))).mono ?_
  rintro e w' ⟨rfl, hb⟩
  refine ⟨_, rfl, ?_, hb⟩
  rw [ByteArray.toList_eq, Bool.eq_iff_iff, List.isEmpty_iff]
  exact trim_nil _

/-- The texts that are not blanks alone. -/
def nbT (X : Nat → ByteArray) : Nat → List ByteArray
  | 0 => []
  | k + 1 => nbT X k ++ (if blanksB (X k) then [] else [X k])
theorem nbT_nbL (X : Nat → ByteArray) : ∀ k, (nbT X k).map (·.data.toList) = nbL X k
  | 0 => rfl
  | k + 1 => by
    simp only [nbT, nbL, List.map_append, nbT_nbL X k]
    cases blanksB (X k) <;> simp
/-- All conditions of the first k. -/
def catC (CL : Nat → List ByteArray) : Nat → List ByteArray
  | 0 => []
  | k + 1 => catC CL k ++ CL k

/-- WHAT HOLDS BEHIND k ROUNDS OF All: her result's cell, the constraint that she builds, her texts. -/
def AllInv (w : World) (X : Nat → ByteArray) (CL : Nat → List ByteArray) (k : Nat) (W : World) (t u : Value) : Prop :=
  W.heap[w.heap.size]? = some (.cells #[.string ⟨#[]⟩, .slice none 0 0] 30 (0, 0)) ∧
  W.heap[w.heap.size + 1]? = some (.cells #[.string ⟨#[]⟩, u] 30 (0, 0)) ∧
  W.ownsRow (w.heap.size + 2) 52 4 u (catC CL k).length (condsC (catC CL k)) ∧
  W.ownsRow (w.heap.size + 2) 9 1 t (nbT X k).length (strC (nbT X k)) ∧
  Below w.heap.size w W

theorem own_apart {w : World} {b b' : Nat} {u t : Value} {n m : Nat} {xs ys : List Value} (hu : w.ownsRow b 52 4 u n xs) (ht : w.ownsRow b' 9 1 t m ys) : t.ownBlock = none ∨ t.ownBlock ≠ u.ownBlock := by
  rcases ht.2 with ⟨rfl, -⟩ | ⟨g, cap, cur, rfl, -, hg, -⟩
  · exact Or.inl rfl
  · right
    rcases hu.2 with ⟨rfl, -⟩ | ⟨g', cap', cur', rfl, -, hg', -⟩
    · simp [Value.ownBlock]
    · simp only [Value.ownBlock, ne_eq, Option.some.injEq]
      intro e
      subst e
      rw [hg] at hg'
      cases hg'

/-- Behind the append of the conditions. -/
theorem all_conds {w W w3 : World} {X : Nat → ByteArray} {CL : Nat → List ByteArray} {k : Nat} {t u : Value} {O : Obj} (h : AllInv w X CL k W t u) (hg : (W.alloc O).grownBy w3 u.ownBlock) :
    w3.heap[w.heap.size]? = some (.cells #[.string ⟨#[]⟩, .slice none 0 0] 30 (0, 0)) ∧ w3.heap[w.heap.size + 1]? = some (.cells #[.string ⟨#[]⟩, u] 30 (0, 0)) ∧
    w3.ownsRow (w.heap.size + 2) 9 1 t (nbT X k).length (strC (nbT X k)) ∧ w3.heap[W.heap.size]? = some O ∧ w.heap.size + 2 ≤ W.heap.size ∧ W.heap.size < w3.heap.size ∧ Below w.heap.size w w3 := by
  obtain ⟨h1, h2, h3, h4, h5⟩ := h
  have l1 := (Array.getElem?_eq_some_iff.1 h1).1
  have l2 := (Array.getElem?_eq_some_iff.1 h2).1
  have hs := hg.size
  simp at hs
  have hub : ∀ j, u.ownBlock = some j → w.heap.size + 2 ≤ j := own_block h3
  have hul := own_lt h3
  refine ⟨?_, ?_, (h4.alloc O).kept hg (own_apart h3 h4), ?_, by omega, by omega, (h5.alloc (by omega) O).grown hg (by simp; omega) (fun j hj => by have := hub j hj; omega)⟩
  · rw [hg.block _ (by simp; omega) (fun e => by have := hub _ e.symm; omega), Below.heap_alloc _ _ _ l1]; exact h1
  · rw [hg.block _ (by simp; omega) (fun e => by have := hub _ e.symm; omega), Below.heap_alloc _ _ _ l2]; exact h2
  · rw [hg.block _ (by simp) (fun e => by have := hul _ e.symm; omega)]; exact heap_new _ _

/-- Behind the store of the conditions and whatever only makes memory. -/
theorem all_mid {w W w3 w4 : World} {X : Nat → ByteArray} {CL : Nat → List ByteArray} {k : Nat} {t u v3 : Value} {O : Obj} (h : AllInv w X CL k W t u) (hg : (W.alloc O).grownBy w3 u.ownBlock)
    (ho : w3.ownsRow (w.heap.size + 2) 52 4 v3 ((catC CL k).length + (CL k).length) (condsC (catC CL k) ++ condsC (CL k)))
    (hb : Below (w3.setCell ⟨w.heap.size + 1, 1, none⟩ v3).heap.size (w3.setCell ⟨w.heap.size + 1, 1, none⟩ v3) w4) :
    w4.heap[w.heap.size]? = some (.cells #[.string ⟨#[]⟩, .slice none 0 0] 30 (0, 0)) ∧ w4.heap[w.heap.size + 1]? = some (.cells #[.string ⟨#[]⟩, v3] 30 (0, 0)) ∧
    w4.ownsRow (w.heap.size + 2) 52 4 v3 (catC CL (k + 1)).length (condsC (catC CL (k + 1))) ∧
    w4.ownsRow (w.heap.size + 2) 9 1 t (nbT X k).length (strC (nbT X k)) ∧ Below w.heap.size w w4 ∧ w4.heap[W.heap.size]? = some O ∧ w.heap.size + 2 ≤ w4.heap.size := by
  obtain ⟨h1, h2, h3, h4, h5, h6, h7⟩ := all_conds h hg
  have hs : (w3.setCell ⟨w.heap.size + 1, 1, none⟩ v3).heap.size = w3.heap.size := World.size_setCell _ _ _
  have hb4 := hb.size
  refine ⟨?_, ?_, ?_, own_below (ownsRow_setCell_below h3 (Nat.lt_succ_self _) _) hb, (h7.setCell (by show w.heap.size ≤ w.heap.size + 1; omega) _).trans (hb.mono (by omega)), ?_, by omega⟩
  · rw [hb.block _ (by omega), Below.heap_setCell _ _ _ _ (by simp)]; exact h1
  · rw [hb.block _ (by omega), heap_setCell_same _ _ _ _ _ _ h2]; rfl
  · have e : (catC CL (k + 1)).length = (catC CL k).length + (CL k).length := by simp [catC]
    rw [e, catC, condsC_append]
    exact own_below (ownsRow_setCell_below ho (Nat.lt_succ_self _) _) hb
  · rw [hb.block _ (by omega), Below.heap_setCell _ _ _ _ (by simp; omega)]; exact h4

theorem all_start (w : World) (X : Nat → ByteArray) (CL : Nat → List ByteArray) :
    AllInv w X CL 0 ((w.alloc (.cells #[.string ⟨#[]⟩, .slice none 0 0] 30)).alloc (.cells #[.string ⟨#[]⟩, .slice none 0 0] 30)) (.slice none 0 0) (.slice none 0 0) := by
  refine ⟨?_, ?_, World.ownsRow_nil _ _ _ _, World.ownsRow_nil _ _ _ _, ((Below.refl _ _).alloc (Nat.le_refl _) _).alloc (by simp) _⟩
  · rw [Below.heap_alloc _ _ _ (by simp)]; exact heap_new _ _
  · have := heap_new (w.alloc (.cells #[.string ⟨#[]⟩, .slice none 0 0] 30)) (.cells #[.string ⟨#[]⟩, .slice none 0 0] 30)
    rwa [World.size_alloc] at this

theorem nbT_len (X : Nat → ByteArray) : ∀ k, (nbT X k).length ≤ k
  | 0 => Nat.le_refl _
  | k + 1 => by
    have := nbT_len X k
    simp only [nbT, List.length_append]
    split
    · simp; omega
    · simp; omega
theorem own_apart' {w : World} {b b' : Nat} {u t : Value} {n m : Nat} {xs ys : List Value} (hu : w.ownsRow b 52 4 u n xs) (ht : w.ownsRow b' 9 1 t m ys) : u.ownBlock = none ∨ u.ownBlock ≠ t.ownBlock := by
  rcases own_apart hu ht with h | h
  · cases hu' : u.ownBlock with
    | none => exact Or.inl rfl
    | some j => right; rw [h]; exact fun e => by cases e
  · exact Or.inr h.symm
/-- Behind the append of a text. -/
theorem all_texts {w W w5 : World} {X : Nat → ByteArray} {CL : Nat → List ByteArray} {k : Nat} {t u y5 : Value} {O : Obj}
    (h1 : W.heap[w.heap.size]? = some (.cells #[.string ⟨#[]⟩, .slice none 0 0] 30 (0, 0))) (h2 : W.heap[w.heap.size + 1]? = some (.cells #[.string ⟨#[]⟩, u] 30 (0, 0)))
    (h3 : W.ownsRow (w.heap.size + 2) 52 4 u (catC CL k).length (condsC (catC CL k))) {m : Nat} {ys : List Value} (h4 : W.ownsRow (w.heap.size + 2) 9 1 t m ys) (h5 : Below w.heap.size w W)
    (hg : (W.alloc O).grownBy w5 t.ownBlock) (ho : w5.ownsRow (w.heap.size + 2) 9 1 y5 (nbT X k).length (strC (nbT X k))) : AllInv w X CL k w5 y5 u := by
  have l1 := (Array.getElem?_eq_some_iff.1 h1).1
  have l2 := (Array.getElem?_eq_some_iff.1 h2).1
  have htb := own_block h4
  refine ⟨?_, ?_, (h3.alloc O).kept hg (own_apart' h3 h4), ho, (h5.alloc (by omega) O).grown hg (by simp; omega) (fun j hj => by have := htb j hj; omega)⟩
  · rw [hg.block _ (by simp; omega) (fun e => by have := htb _ e.symm; omega), Below.heap_alloc _ _ _ l1]; exact h1
  · rw [hg.block _ (by simp; omega) (fun e => by have := htb _ e.symm; omega), Below.heap_alloc _ _ _ l2]; exact h2
theorem nbT_step {X : Nat → ByteArray} {k : Nat} (h : blanksB (X k) = false) : (nbT X (k + 1)).length = (nbT X k).length + 1 ∧ strC (nbT X (k + 1)) = strC (nbT X k) ++ [.string (X k)] := by
  simp [nbT, h, strC]
theorem nbT_same {X : Nat → ByteArray} {k : Nat} (h : blanksB (X k) = true) : nbT X (k + 1) = nbT X k := by simp [nbT, h]

theorem cell_heap {w : World} {k : Nat} {cs : Array Value} {t : TypeId} {fr : Nat × Nat} (h : w.heap[k]? = some (.cells cs t fr)) (o : Nat) : w.cell? ⟨k, o, none⟩ = cs[o]? := by simp [World.cell?, h]
theorem box_after {w : World} {b k : Nat} {cs : Array Value} {t : TypeId} (h : w.heap[k]? = some (.cells cs t (0, 0))) (hne : k ≠ b) (y : Value) (o : Nat) : (w.setCell ⟨b, 1, none⟩ y).cell? ⟨k, o, none⟩ = cs[o]? :=
  cell_heap ((Below.heap_setCell w ⟨b, 1, none⟩ y k hne).trans h) o

theorem join_any (t : Value) (l : List ByteArray) (base : Nat) (w : World) (h : w.ownsRow base 9 1 t l.length (strC l)) (hn : l.length ≤ 1048576) (hJ : (joinNB (l.map (·.data.toList))).length ≤ 4194304) :
    Calls Tryd.prog 18 #[t, .string ⟨#[44, 32]⟩] w fun e w' => e = .returned (.string ⟨(joinNB (l.map (·.data.toList))).toArray⟩) ∧ Below w.heap.size w w' := by
  have hh := h
  rcases h.2 with ⟨rfl, h0⟩ | ⟨g, cap, cur, rfl, hb, hg, h1, h2, h3, h4⟩
  · refine (Any.strings_Join_none Tryd.lays156 Tryd.Builder_Extra_156 none 0 ⟨#[44, 32]⟩ w).mono ?_
    rintro e w' ⟨rfl, hw⟩
    subst hw
    rw [List.eq_nil_of_length_eq_zero h0]
    exact ⟨rfl, Below.refl _ _⟩
  · exact Any.strings_Join Tryd.lays156 Tryd.Builder_Extra_156 g 0 cap l ⟨#[44, 32]⟩ w (fun j x hj => by
      have hlt : j < l.length := (List.getElem?_eq_some_iff.1 hj).1
      rw [Nat.zero_add, World.ownsRow.cellAt hh j (by omega)]
      simp [strC, hj]) (Array.getElem?_eq_some_iff.1 hg).1 (by omega) h1 (by
      have : (Lib.join (l.map (·.data.toList)) [44, 32]).length ≤ 4194304 := hJ
      exact Nat.le_trans this (by decide))

set_option maxHeartbeats 1000000 in
theorem all_any (v : Value) (n : Nat) (X : Nat → ByteArray) (CL : Nat → List ByteArray) (w : World) (hv : IsCstrs w v n X CL) (hN : ∀ k, k ≤ n → (catC CL k).length ≤ 1048576) (hn : n ≤ 1048576) (hJ : (joinNB (nbL X n)).length ≤ 4194304) :
    Calls Tryd.prog 9 #[v] w fun e w' => ∃ u, e = .returned (.agg #[.string ⟨(joinNB (nbL X n)).toArray⟩, u]) ∧ HasConds w' 0 u (catC CL n) ∧ Below w.heap.size w w' := by
  obtain ⟨a, c, rfl, hc, hm, hx⟩ := hv
  unfold maxLen at hm
  obtain ⟨i0, hi, hz0, hz1, hz2⟩ := info_parts info52
  obtain ⟨i9, hi9, hy0, hy1, hy2⟩ := info_parts info9
  have HX : Hid (∀ j, j < n → ∃ b o, a = some ⟨b, o, none⟩ ∧ ∀ i, i < n → (X i).size ≤ maxLen ∧ w.cell? ⟨b, o + i * 2, none⟩ = some (.string (X i)) ∧ ∃ u, w.cell? ⟨b, o + i * 2 + 1, none⟩ = some u ∧ HasConds w 0 u (CL i)) := hx; clear hx
  have HN : Hid (∀ k, k ≤ n → (catC CL k).length ≤ 1048576) := hN; clear hN
  go_enter Tryd.func9, Tryd.ntmps9
  go_wp2
  go_loopw [4, 9] (fun t i W => ∃ (k : Nat) (u : Value), k ≤ n ∧ i = .int .i64 k ∧ AllInv w X CL k W t u) (fun _ i _ => n - (intOf i).toNat)
  case atStart => exact ⟨0, _, Nat.zero_le _, rfl, all_start w X CL⟩
  case round =>
    obtain ⟨k, u, hk, rfl, hinv⟩ := hrel
    obtain ⟨v1, v2, v3, v4, hbr⟩ := id hinv
    have lw : w.heap.size + 1 < wr.heap.size := (Array.getElem?_eq_some_iff.1 v2).1
    have q1 : wr.cell? ⟨w.heap.size + 1, 1, none⟩ = some u := by simp [World.cell?, v2]
    by_cases hlt : k < n
    · obtain ⟨b', o, ha, hcell⟩ := HX.out k hlt
      subst ha
      obtain ⟨hsk, hc0, uk, hc1, hu⟩ := hcell k hlt
      obtain ⟨a2, c2, e2, hle2, hcap2, hn2, hx2⟩ := hu
      subst e2
      have hc0' := cell_below hbr hc0
      have hc1' := cell_below hbr hc1
      have hlen : (catC CL k).length + (CL k).length ≤ 1048576 := by
        have := HN.out (k + 1) (by omega)
        simpa [catC] using this
      have HI : Hid (AllInv w X CL k wr u4 u) := hinv
      clear hcell hc0 hc1 hinv v1 v2 v4
      cases a2 with
      | none =>
        have h0 : CL k = [] := by
          rcases Nat.eq_zero_or_pos (CL k).length with h | h
          · exact List.eq_nil_of_length_eq_zero h
          · obtain ⟨b2, o2, e, -⟩ := hx2 h
            cases e
        obtain rfl := hn2 rfl
        rw [h0] at hc1'
        have H0 : Hid (CL k = []) := h0
        obtain ⟨a3, c3, e3⟩ := own_shape v3
        subst e3
        have q2 : wr.frozen? ⟨w.heap.size + 1, 1, none⟩ = false := frozen_of_row _ _ _ _ _ HI.out.2.1
        clear hx2 hn2 hle2 hlen h0
        go_wp2_with (first | (at_builtin; refine wpList_append_own_none rfl (.tmp 14) (.tmp 16) 28 rfl (w.heap.size + 2) 52 i0 4 Tryd.underlying28 hi _ _ _ rfl (v3.alloc _) rfl ?_))
        refine (trim_any _ _ (by unfold maxLen at hsk; omega)).mono ?_
        rintro e w4 ⟨t4, rfl, ht4, hb4⟩
        rw [← World.setCell_alloc_past _ _ _ _ (by omega)] at hb4
        obtain ⟨m1, m2, m3, m4, m5, m6, m7⟩ := all_mid HI.out (World.grownBy.refl _ _) (by rw [H0.out]; simpa [condsC] using v3.alloc _) hb4
        have hbx4 : w4.cell? ⟨wr.heap.size, 0, none⟩ = some (.string (X k)) := cell_heap m6 0
        have hnk := nbT_len X k
        have M1 : Hid (w4.heap[w.heap.size]? = some (.cells #[.string ⟨#[]⟩, .slice none 0 0] 30 (0, 0))) := m1
        have M2 : Hid (w4.heap[w.heap.size + 1]? = some (.cells #[.string ⟨#[]⟩, .slice a3 (catC CL k).length c3] 30 (0, 0))) := m2
        clear m1 m2 m6 hb4 HI v3 q1 q2 hc0' hc1' hbr
        cases hbl : blanksB (X k)
        · rw [hbl] at ht4
          have HNB : Hid ((nbT X (k + 1)).length = (nbT X k).length + 1 ∧ strC (nbT X (k + 1)) = strC (nbT X k) ++ [.string (X k)]) := nbT_step hbl
          have HNEW : Hid (∀ j u, [Value.string (X k)][j]? = some u → (w4.alloc (.cells #[.string (X k)] 9)).cell? ((⟨w4.heap.size, 0, none⟩ : Addr).add j) = some u) := cell_one_new w4 _ 9
          clear hbl
          go_wp2_with (first | (at_builtin; refine wpList_append_own _ rfl (.tmp 23) (.tmp 26) 26 rfl (w.heap.size + 2) 9 i9 (.string ⟨#[]⟩) 1 16 Tryd.underlying26 hi9 hy0 hy1 hy2 rfl (by decide) _ _ _ rfl (m4.alloc _) ⟨w4.heap.size, 0, none⟩ 1 1 [.string (X k)] rfl rfl HNEW.out (fun u hu => by simp at hu; subst hu; rfl) (by unfold maxLen; omega) (by omega) (by simp; omega) ?_; intro y5 w5 hown5 hgrow5 _))
          exact ⟨⟨k + 1, _, by omega, by go_num, all_texts M1.out M2.out m3 m4 m5 hgrow5 (by rw [HNB.out.1, HNB.out.2]; exact hown5)⟩, by simp [intOf]; omega⟩
        · rw [hbl] at ht4
          have HNB : Hid (nbT X (k + 1) = nbT X k) := nbT_same hbl
          clear hbl
          go_wp2_with fail
          exact ⟨⟨k + 1, _, by omega, by go_num, ⟨M1.out, M2.out, m3, by rw [HNB.out]; exact m4, m5⟩⟩, by simp [intOf]; omega⟩
      | some ad =>
        have HSRC : Hid (∀ O : Obj, ∀ j x, (condsC (CL k))[j]? = some x → (wr.alloc O).cell? (ad.add j) = some x) := by
          intro O j x hj
          have hp : 0 < (CL k).length := by
            have := (List.getElem?_eq_some_iff.1 hj).1
            rw [condsC_len] at this
            omega
          obtain ⟨b2, o2, hab, -, hcell2⟩ := hx2 hp
          cases hab
          rw [Go.WideShapes.add_plain]
          exact cell_below ((Below.refl _ _).alloc (Nat.le_refl _) O) (cell_below hbr (hcell2 j x hj))
        clear hx2 hn2
        go_wp2_with (first | (at_builtin; refine wpList_append_own _ rfl (.tmp 14) (.tmp 16) 28 rfl (w.heap.size + 2) 52 i0 (.agg #[.string ⟨#[]⟩, .nilFunc, .string ⟨#[]⟩, .string ⟨#[]⟩]) 4 56 Tryd.underlying28 hi hz0 hz1 hz2 rfl (by decide) _ _ _ rfl (v3.alloc _) ad (CL k).length c2 (condsC (CL k)) rfl (condsC_len _) (HSRC.out _) (condsC_one _) (by unfold maxLen; omega) (by omega) (by simp; omega) ?_; intro y3 w3 hown3 hgrow3 _; obtain ⟨a3, c3, e3⟩ := own_shape hown3; subst e3; obtain ⟨-, g2, -, g4, g5, g6, -⟩ := all_conds HI.out hgrow3; have r1 : w3.cell? ⟨w.heap.size + 1, 1, none⟩ = some u := cell_heap g2 1; have r2 : w3.frozen? ⟨w.heap.size + 1, 1, none⟩ = false := frozen_of_row _ _ _ _ _ g2; have hbx : ∀ y, (w3.setCell ⟨w.heap.size + 1, 1, none⟩ y).cell? ⟨wr.heap.size, 0, none⟩ = some (.string (X k)) := fun y => box_after g4 (by omega) y 0))
        refine (trim_any _ _ (by unfold maxLen at hsk; omega)).mono ?_
        rintro e w4 ⟨t4, rfl, ht4, hb4⟩
        obtain ⟨m1, m2, m3, m4, m5, m6, m7⟩ := all_mid HI.out hgrow3 hown3 hb4
        have hbx4 : w4.cell? ⟨wr.heap.size, 0, none⟩ = some (.string (X k)) := cell_heap m6 0
        have hnk := nbT_len X k
        have M1 : Hid (w4.heap[w.heap.size]? = some (.cells #[.string ⟨#[]⟩, .slice none 0 0] 30 (0, 0))) := m1
        have M2 : Hid (w4.heap[w.heap.size + 1]? = some (.cells #[.string ⟨#[]⟩, .slice a3 ((catC CL k).length + (CL k).length) c3] 30 (0, 0))) := m2
        clear m1 m2 m6 hb4 hown3 hgrow3 r1 r2 hbx g2 g4 g5 g6 HI v3 q1 hc0' hc1' HSRC hbr
        cases hbl : blanksB (X k)
        · rw [hbl] at ht4
          have HNB : Hid ((nbT X (k + 1)).length = (nbT X k).length + 1 ∧ strC (nbT X (k + 1)) = strC (nbT X k) ++ [.string (X k)]) := nbT_step hbl
          have HNEW : Hid (∀ j u, [Value.string (X k)][j]? = some u → (w4.alloc (.cells #[.string (X k)] 9)).cell? ((⟨w4.heap.size, 0, none⟩ : Addr).add j) = some u) := cell_one_new w4 _ 9
          clear hbl
          go_wp2_with (first | (at_builtin; refine wpList_append_own _ rfl (.tmp 23) (.tmp 26) 26 rfl (w.heap.size + 2) 9 i9 (.string ⟨#[]⟩) 1 16 Tryd.underlying26 hi9 hy0 hy1 hy2 rfl (by decide) _ _ _ rfl (m4.alloc _) ⟨w4.heap.size, 0, none⟩ 1 1 [.string (X k)] rfl rfl HNEW.out (fun u hu => by simp at hu; subst hu; rfl) (by unfold maxLen; omega) (by omega) (by simp; omega) ?_; intro y5 w5 hown5 hgrow5 _))
          exact ⟨⟨k + 1, _, by omega, by go_num, all_texts M1.out M2.out m3 m4 m5 hgrow5 (by rw [HNB.out.1, HNB.out.2]; exact hown5)⟩, by simp [intOf]; omega⟩
        · rw [hbl] at ht4
          have HNB : Hid (nbT X (k + 1) = nbT X k) := nbT_same hbl
          clear hbl
          go_wp2_with fail
          exact ⟨⟨k + 1, _, by omega, by go_num, ⟨M1.out, M2.out, m3, by rw [HNB.out]; exact m4, m5⟩⟩, by simp [intOf]; omega⟩
    · obtain rfl : k = n := by omega
      have hnk := nbT_len X k
      have hj := join_any u4 (nbT X k) _ wr v4 (by omega) (by rw [nbT_nbL]; exact hJ)
      rw [nbT_nbL] at hj
      go_wp2_with fail
      refine hj.mono ?_
      rintro e w5 ⟨rfl, hb5⟩
      obtain ⟨a3, c3, e3⟩ := own_shape v3
      subst e3
      have n1 := (hb5.block _ (by omega)).trans v1
      have n2 := (hb5.block _ lw).trans v2
      have hown5 := own_below v3 hb5
      have hb5' : Below w.heap.size w w5 := hbr.trans (hb5.mono hbr.size)
      have c10 : w5.cell? ⟨w.heap.size + 1, 0, none⟩ = some (.string ⟨#[]⟩) := cell_heap n2 0
      have c11 : w5.cell? ⟨w.heap.size + 1, 1, none⟩ = some (.slice a3 (catC CL k).length c3) := cell_heap n2 1
      have c00 : w5.cell? ⟨w.heap.size, 0, none⟩ = some (.string ⟨#[]⟩) := cell_heap n1 0
      have c01 : w5.cell? ⟨w.heap.size, 1, none⟩ = some (.slice none 0 0) := cell_heap n1 1
      have f10 : w5.frozen? ⟨w.heap.size + 1, 0, none⟩ = false := frozen_of_row _ _ _ _ _ n2
      have f00 : w5.frozen? ⟨w.heap.size, 0, none⟩ = false := frozen_of_row _ _ _ _ _ n1
      have f01 : w5.frozen? ⟨w.heap.size, 1, none⟩ = false := frozen_of_row _ _ _ _ _ n1
      generalize hT : (⟨(joinNB (nbL X k)).toArray⟩ : ByteArray) = T at *
      have HT : Hid ((⟨(joinNB (nbL X k)).toArray⟩ : ByteArray) = T) := hT; clear hT
      clear hinv v1 v2 v3 v4 q1 hj n1 n2 hb5 hbr
      go_wp2
      refine bodyPost_ret (v := .agg #[.string T, .slice a3 (catC CL k).length c3]) (by simp [results, Tryd.results9, go_sem, c00, c01]) rfl ⟨_, by rw [HT.out], ?_, ((hb5'.setCell (by show w.heap.size ≤ w.heap.size + 1; omega) _).setCell (Nat.le_refl _) _).setCell (Nat.le_refl _) _⟩
      exact (own_conds (ownsRow_setCell_below (ownsRow_setCell_below (ownsRow_setCell_below hown5 (by show w.heap.size + 1 < w.heap.size + 2; omega) _) (by show w.heap.size < w.heap.size + 2; omega) _) (by show w.heap.size < w.heap.size + 2; omega) _)).base (Nat.zero_le _)
end Go.Proofs.Qxb6615015aDoor
