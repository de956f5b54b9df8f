/-
  joinNonBlank (7).
-/
import Derived.Test.Qxb6615015aDoorC
import Derived.Lib.AppendStr
import Derived.Lib.BufferRead
import Derived.Laws.IdiomStrings
import Derived.Lib.Join
namespace Go.Proofs.Qxb6615015aDoor
open Go.RowKit

theorem info5 : (Tryd.prog.info? 5).map (fun i => (i.zero, i.size, i.bytes)) = some (some (.int .u8 0), 1, 1) := by kernel_rfl

/-- The texts of the first k that are not blanks alone. -/
def nbL (X : Nat → ByteArray) : Nat → List (List UInt8)
  | 0 => []
  | k + 1 => nbL X k ++ (if blanksB (X k) then [] else [(X k).data.toList])
/-- .. joined. -/
def joinNB (l : List (List UInt8)) : List UInt8 := Lib.join l [44, 32]
theorem joinNB_nil : joinNB [] = [] := rfl
theorem joinNB_snoc (l : List (List UInt8)) (x : List UInt8) (h : l ≠ []) : joinNB (l ++ [x]) = joinNB l ++ ([44, 32] ++ x) := by
  cases l with
  | nil => exact absurd rfl h
  | cons y r =>
    unfold joinNB
    rw [List.cons_append, Lib.join_cons, Lib.join_cons]
    simp [Lib.joinTail]
theorem joinNB_one (x : List UInt8) : joinNB [x] = x := Lib.join_one x _
theorem joinNB_len (D : Cons) : ∀ k, (joinNB (nbL D.X k)).length ≤ wt D k
  | 0 => by simp [nbL, joinNB_nil, wt]
  | k + 1 => by
    have ih := joinNB_len D k
    have hz : (D.X k).data.toList.length = (D.X k).size := by simp
    simp only [nbL, wt]
    cases hb : blanksB (D.X k)
    · by_cases h : nbL D.X k = []
      · rw [h]
        simp only [Bool.false_eq_true, if_false, List.nil_append, joinNB_one]
        omega
      · simp only [Bool.false_eq_true, if_false]
        rw [joinNB_snoc _ _ h]
        simp only [List.length_append, List.length_cons, List.length_nil]
        omega
    · simp only [if_true, List.append_nil]
      omega

/-- Bytes as cells. -/
def byteC (l : List UInt8) : List Value := l.map fun b => .int .u8 b.toNat
theorem byteC_append (l m : List UInt8) : byteC (l ++ m) = byteC l ++ byteC m := by simp [byteC]
theorem byteC_str (s : ByteArray) : Lib.strCells s = byteC s.data.toList := rfl

theorem own_lt {w : World} {base : Nat} {e : TypeId} {size : Nat} {v : Value} {n : Nat} {xs : List Value} (h : w.ownsRow base e size v n xs) : ∀ k, v.ownBlock = some k → k < w.heap.size := by
  intro k hk
  rcases h.2 with ⟨rfl, -⟩ | ⟨g, cap, cur, rfl, hb, hg, -⟩
  · cases hk
  · simp [Value.ownBlock] at hk
    subst hk
    exact (Array.getElem?_eq_some_iff.1 hg).1
/-- A box laid behind an owned row keeps its cells while the row grows. -/
theorem box_kept {w w3 : World} {cs : Array Value} {t : TypeId} {P : Obj} {base : Nat} {e : TypeId} {size : Nat} {v : Value} {n : Nat} {xs : List Value} (h : w.ownsRow base e size v n xs) (hg : ((w.alloc (.cells cs t)).alloc P).grownBy w3 v.ownBlock) (o : Nat) : w3.cell? ⟨w.heap.size, o, none⟩ = cs[o]? := by
  have e1 : w3.heap[w.heap.size]? = ((w.alloc (.cells cs t)).alloc P).heap[w.heap.size]? := hg.block _ (by simp; omega) (fun e => by have := own_lt h _ e.symm; omega)
  have e2 : ((w.alloc (.cells cs t)).alloc P).heap[w.heap.size]? = (w.alloc (.cells cs t)).heap[w.heap.size]? := Below.heap_alloc _ _ _ (by simp)
  rw [← World.cell?_alloc_new w cs t o]
  simp only [World.cell?, e1, e2]

/-- WHAT string(out) GIVES. -/
theorem own_string {w : World} {base : Nat} {v : Value} {l : List UInt8} (h : w.ownsRow base 5 1 v l.length (byteC l)) : (convert 42 9 v).run Tryd.prog w = .ok (.string ⟨l.toArray⟩) w := by
  have hh := h
  rcases h.2 with ⟨rfl, h0⟩ | ⟨g, cap, cur, rfl, hb, hg, h1, h2, h3, h4⟩
  · rw [List.eq_nil_of_length_eq_zero h0]
    exact Lib.run_convert_nil_bytes w 42 9 5 0 Tryd.underlying42 Tryd.underlying5 Tryd.underlying9
  · refine run_convert_bytes_back w 42 9 5 ⟨g, 0, none⟩ cap l Tryd.underlying42 Tryd.underlying5 Tryd.underlying9 fun j hj => ?_
    rw [Go.WideShapes.add_plain, Nat.zero_add, World.ownsRow.cellAt hh j (by omega)]
    simp [byteC, hj]

theorem join_step {w : World} {base : Nat} {v : Value} {J J' : List UInt8} {s : ByteArray} (h : J' = J ++ ([44, 32] ++ s.data.toList)) (ho : w.ownsRow base 5 1 v (J.length + 2 + s.size) (byteC J ++ [.int .u8 44, .int .u8 32] ++ Lib.strCells s)) : w.ownsRow base 5 1 v J'.length (byteC J') := by
  have e : J'.length = J.length + 2 + s.size := by rw [h]; simp; omega
  have e2 : byteC J' = byteC J ++ [.int .u8 44, .int .u8 32] ++ Lib.strCells s := by rw [h, byteC_append, byteC_append, byteC_str, List.append_assoc]; rfl
  rw [e, e2]
  exact ho
theorem join_step1 {w : World} {base : Nat} {v : Value} {J J' : List UInt8} {s : ByteArray} (h : J' = J ++ s.data.toList) (ho : w.ownsRow base 5 1 v (J.length + s.size) (byteC J ++ Lib.strCells s)) : w.ownsRow base 5 1 v J'.length (byteC J') := by
  have e : J'.length = J.length + s.size := by rw [h]; simp
  have e2 : byteC J' = byteC J ++ Lib.strCells s := by rw [h, byteC_append, byteC_str]
  rw [e, e2]
  exact ho

set_option maxHeartbeats 1000000 in
theorem joinNon_any (v : Value) (n : Nat) (D : Cons) (w : World) (hv : IsCons w v n D) (hw : wt D n ≤ 1048576) :
    Calls Tryd.prog 7 #[v] w fun e w' => e = .returned (.string ⟨(joinNB (nbL D.X n)).toArray⟩) ∧ Below w.heap.size w w' := by
  obtain ⟨a, c, rfl, hc, hm, hx⟩ := hv
  unfold maxLen at hm
  obtain ⟨i0, hi, hz0, hz1, hz2⟩ := info_parts info5
  have HX : Hid (∀ j, j < n → ∃ b o, a = some ⟨b, o, none⟩ ∧ ∀ i, i < n → (D.X i).size ≤ maxLen ∧ w.cell? ⟨b, o + i * 2, none⟩ = some (.string (D.X i)) ∧ ∃ u, w.cell? ⟨b, o + i * 2 + 1, none⟩ = some u ∧ IsStrs w u (D.N i) (D.V i)) := hx; clear hx
  go_enter Tryd.func7, Tryd.ntmps7
  go_wp2
  go_loopw [3, 4, 9] (fun z f i W => ∃ k : Nat, k ≤ n ∧ i = .int .i64 k ∧ f = .bool (nbL D.X k).isEmpty ∧ W.ownsRow w.heap.size 5 1 z (joinNB (nbL D.X k)).length (byteC (joinNB (nbL D.X k))) ∧ Below w.heap.size w W) (fun _ _ i _ => n - (intOf i).toNat)
  case atStart => exact ⟨0, Nat.zero_le _, rfl, rfl, World.ownsRow_nil _ _ _ _, Below.refl _ _⟩
  case round =>
    obtain ⟨k, hk, rfl, rfl, hown, hbr⟩ := hrel
    by_cases hlt : k < n
    · obtain ⟨b', o, ha, hcell⟩ := HX.out k hlt
      subst ha
      obtain ⟨hsk, hc0, u, hc1, hu⟩ := hcell k hlt
      obtain ⟨a2, c2, e2⟩ := hu.shape
      subst e2
      have hc0' := cell_below hbr hc0
      have hc1' := cell_below hbr hc1
      have hlen : (joinNB (nbL D.X k)).length + 40 + (D.X k).size ≤ 1048576 := by
        have h1 := joinNB_len D k
        have h2 := wt_mono D (show k + 1 ≤ n by omega)
        simp only [wt] at h2
        omega
      clear hcell hc0 hc1 hu
      go_wp2_with fail
      refine (isBlanks_any _ _ hsk).mono ?_
      rintro e w2 ⟨rfl, hw2⟩
      subst hw2
      cases hbl : blanksB (D.X k)
      · cases hE : (nbL D.X k).isEmpty
        · have HN : Hid (joinNB (nbL D.X (k + 1)) = joinNB (nbL D.X k) ++ ([44, 32] ++ (D.X k).data.toList) ∧ (nbL D.X (k + 1)).isEmpty = false) := by
            have hne : nbL D.X k ≠ [] := by intro e; rw [e] at hE; cases hE
            refine ⟨?_, ?_⟩
            · simp only [nbL, hbl, Bool.false_eq_true, if_false]
              exact joinNB_snoc _ _ hne
            · simp [nbL, hbl]
          have HTWO : Hid (∀ B : Obj, ∀ j u, [Value.int .u8 44, .int .u8 32][j]? = some u → ((wr.alloc B).alloc (.cells #[.int .u8 44, .int .u8 32] 5)).cell? ((⟨wr.heap.size + 1, 0, none⟩ : Addr).add j) = some u) := fun B j u h => by
            have := cell_two_new (wr.alloc B) (.int .u8 44) (.int .u8 32) 5 j u h
            rwa [World.size_alloc] at this
          have hB0 : w.heap.size ≤ wr.heap.size := hbr.size
          clear hbl hE
          go_wp2_with (first | (at_builtin; refine wpList_append_own _ rfl (.tmp 18) (.tmp 19) 42 rfl w.heap.size 5 i0 (.int .u8 0) 1 1 Tryd.underlying42 hi hz0 hz1 hz2 rfl (by decide) _ _ _ rfl ((hown.alloc _).alloc _) ⟨wr.heap.size + 1, 0, none⟩ 2 2 [.int .u8 44, .int .u8 32] rfl rfl (HTWO.out _) (fun u hu => by simp at hu; rcases hu with rfl | rfl <;> rfl) (by unfold maxLen; omega) (by omega) (by simp; omega) ?_; intro v3 w3 hown3 hgrow3 _; have hbox : w3.cell? ⟨wr.heap.size, 0, none⟩ = some (.string (D.X k)) := box_kept hown hgrow3 0) | (at_builtin; refine Lib.wpList_append_own_string _ rfl (.tmp 21) (.tmp 23) 42 9 rfl w.heap.size 5 i0 Tryd.underlying42 Tryd.underlying9 hi hz0 hz1 hz2 _ _ _ rfl hown3 (D.X k) rfl (by unfold maxLen; omega) (by omega) (by have := hgrow3.size; simp at this; omega) ?_; intro v4 w4 hown4 hgrow4 _))
          have hb3 : Below w.heap.size w w3 := ((hbr.alloc hbr.size _).alloc (by simp; omega) _).grown hgrow3 (by simp; omega) (own_block hown)
          exact ⟨⟨k + 1, by omega, by go_num, by rw [HN.out.2], join_step HN.out.1 hown4, hb3.grown hgrow4 hb3.size (own_block hown3)⟩, by simp [intOf]; omega⟩
        · have HN : Hid (joinNB (nbL D.X (k + 1)) = joinNB (nbL D.X k) ++ (D.X k).data.toList ∧ (nbL D.X (k + 1)).isEmpty = false) := by
            have hne : nbL D.X k = [] := List.isEmpty_iff.1 hE
            refine ⟨?_, ?_⟩
            · simp only [nbL, hbl, Bool.false_eq_true, if_false, hne, List.nil_append, joinNB_one, joinNB_nil]
            · simp [nbL, hbl]
          have hB0 : w.heap.size ≤ wr.heap.size := hbr.size
          clear hbl hE
          go_wp2_with (first | (at_builtin; refine Lib.wpList_append_own_string _ rfl (.tmp 21) (.tmp 23) 42 9 rfl w.heap.size 5 i0 Tryd.underlying42 Tryd.underlying9 hi hz0 hz1 hz2 _ _ _ rfl (hown.alloc _) (D.X k) rfl (by unfold maxLen; omega) (by omega) (by simp; omega) ?_; intro v4 w4 hown4 hgrow4 _))
          exact ⟨⟨k + 1, by omega, by go_num, by rw [HN.out.2], join_step1 HN.out.1 hown4, (hbr.alloc hbr.size _).grown hgrow4 (by simp; omega) (own_block hown)⟩, by simp [intOf]; omega⟩
      · have HN : Hid (nbL D.X (k + 1) = nbL D.X k) := by show nbL D.X (k + 1) = _; simp [nbL, hbl]
        clear hbl
        go_wp2_with fail
        exact ⟨⟨k + 1, by omega, by go_num, by rw [HN.out], by rw [HN.out]; exact hown.alloc _, hbr.alloc hbr.size _⟩, by simp [intOf]; omega⟩
    · obtain rfl : k = n := by omega
      have hconv := own_string hown
      go_wp2
      go_ret
      exact ⟨rfl, hbr⟩
end Go.Proofs.Qxb6615015aDoor
