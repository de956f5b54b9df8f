/-
  The arguments opened: a slice of strings, a slice of Con, a Con by value.
-/
import Derived.Test.Qxb6615015aDoorA
import Derived.Deep.SlicePairs
import Derived.SliceStrings
import Derived.Lib.SmallJoins
import Derived.ProofKit
namespace Go.Proofs.Qxb6615015aDoor
open Go.ChangeShapes Go.WideShapes Go.RowKit

theorem strs_of_trod {H : Type} {enc : TypeId × Value → H} {w : World} {base fuel : Nat} {spare : Nat → Bool} {held : Bool} {u : Value} {x : DataW H × List MemPlace}
    (h : DataW.trod enc Tryd.prog w base spare held fuel 26 [u] = some x) : ∃ N V, IsStrs w u N V := by
  rcases open_strings Tryd.underlying26 Tryd.underlying9 (by kernel_rfl) h with ⟨hcs, -⟩ | ⟨a, len, cap, ss, hcs, _, hl, hm, hz, -, hcell, hsz⟩
  · simp only [List.cons.injEq, and_true] at hcs
    subst hcs
    exact ⟨0, fun _ => ⟨#[]⟩, _, _, rfl, Nat.le_refl _, Nat.zero_le _, fun _ => rfl, fun j hj => by omega, fun j hj => by omega⟩
  · simp only [List.cons.injEq, and_true] at hcs
    subst hcs
    have hlm : len ≤ ss.length := by rw [hz]; split <;> omega
    refine ⟨len, fun i => ss.getD i ByteArray.empty, _, _, rfl, hl, hm, (fun e => by cases e), fun j hj => ?_, fun j hj => ?_⟩
    · show (ss.getD j ByteArray.empty).size ≤ maxLen
      rw [List.getD_eq_getElem?_getD, List.getElem?_eq_getElem (by omega)]
      exact hsz _ (List.getElem_mem _)
    · obtain ⟨b, off, spot⟩ := a
      have hspot : spot = none := by simpa [Addr.add] using World.cell?_spot (hcell 0 (by omega))
      subst hspot
      exact ⟨b, off, rfl, fun i hi => by rw [← add_plain]; exact hcell i (by omega)⟩

theorem cons_of_trod {H : Type} {enc : TypeId × Value → H} {w : World} {base fuel : Nat} {spare : Nat → Bool} {held : Bool} {v : Value} {x : DataW H × List MemPlace}
    (h : DataW.trod enc Tryd.prog w base spare held fuel 22 [v] = some x) : ∃ n D, IsCons w v n D := by
  rcases Go.Deep.open_slice_pairs Tryd.underlying22 Tryd.underlying38 (by kernel_rfl) rfl rfl (by kernel_rfl) (by kernel_rfl) h with ⟨hcs, -⟩ | ⟨a, len, cap, m, n, V0, V1, D0, D1, P0, P1, hcs, _, hl, hm, hmm, -, hx⟩
  · simp only [List.cons.injEq, and_true] at hcs
    subst hcs
    exact ⟨0, ⟨fun _ => ⟨#[]⟩, fun _ => 0, fun _ _ => ⟨#[]⟩⟩, _, _, rfl, Nat.le_refl _, Nat.zero_le _, fun j hj => by omega⟩
  · simp only [List.cons.injEq, and_true] at hcs
    subst hcs
    have hlm : len ≤ m := by rw [hmm]; split <;> omega
    have each : ∀ i, ∃ q : ByteArray × Nat × (Nat → ByteArray), i < len → q.1.size ≤ maxLen ∧ V0 i = .string q.1 ∧ IsStrs w (V1 i) q.2.1 q.2.2 := by
      intro i
      by_cases hi : i < len
      · obtain ⟨-, -, h0, h1⟩ := hx i (by omega)
        obtain ⟨s, h2, -, h3⟩ := DataW.trod_string Tryd.underlying9 h0
        obtain ⟨N, V, h4⟩ := strs_of_trod h1
        simp only [List.cons.injEq, and_true] at h2
        exact ⟨⟨s, N, V⟩, fun _ => ⟨h3, h2, h4⟩⟩
      · exact ⟨⟨⟨#[]⟩, 0, fun _ => ⟨#[]⟩⟩, fun h => absurd h hi⟩
    obtain ⟨q, hq⟩ := Classical.axiomOfChoice each
    refine ⟨len, ⟨fun i => (q i).1, fun i => (q i).2.1, fun i => (q i).2.2⟩, _, _, rfl, hl, hm, fun j hj => ?_⟩
    obtain ⟨b, off, spot⟩ := a
    have hspot : spot = none := by
      have := World.cell?_spot (hx 0 (by omega)).1
      simpa [Addr.add] using this
    subst hspot
    refine ⟨b, off, rfl, fun i hi => ?_⟩
    obtain ⟨h0, h1, -, -⟩ := hx i (by omega)
    obtain ⟨h2, h3, h4⟩ := hq i hi
    rw [add_plain] at h0 h1
    rw [h3] at h0
    exact ⟨h2, h0, _, h1, h4⟩
theorem con_of_Trod {H : Type} {enc : TypeId × Value → H} {w : World} {base b0 : Nat} {r : Reach} {spare : Nat → Bool} {held : Bool} {v : Value} {d : DataW H} {p : List MemPlace}
    (hv : Value.okWide Tryd.prog w r b0 38 v) (h : DataW.Trod enc Tryd.prog w base spare held 38 v d p) : ∃ s u N V, v = .agg #[.string s, u] ∧ s.size ≤ maxLen ∧ IsStrs w u N V := by
  obtain ⟨v0, v1, y0, y1, n, rfl, -, -, h0, h1⟩ := Go.Joins.open_agg2 Tryd.underlying38 (by kernel_rfl) (by kernel_rfl) hv h
  obtain ⟨s, h2, -, h3⟩ := DataW.trod_string Tryd.underlying9 h0
  simp only [List.cons.injEq, and_true] at h2
  subst h2
  obtain ⟨N, V, h4⟩ := strs_of_trod h1
  exact ⟨s, v1, N, V, rfl, h3, h4⟩
end Go.Proofs.Qxb6615015aDoor
