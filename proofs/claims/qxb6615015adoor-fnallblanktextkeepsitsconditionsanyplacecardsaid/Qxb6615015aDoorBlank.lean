/-
  THE CARD OF FnAllBlankTextKeepsItsConditionsAnyPlace: tied.
-/
import Derived.Test.Qxb6615015aDoorCards
import Derived.Test.Qxb6615015aDoorTie
import Derived.Test.Qxb6615015aDoorN
import Derived.Test.Qxb6615015aDoorK
import Derived.Lay
namespace Go.Proofs.Qxb6615015aDoor
open Go.ChangeShapes Go.WideShapes Go.ChangeAt Go.RowKit

theorem ownB : ownKnob Tryd.prog.godebug = none := by kernel_rfl
theorem laidOutB' : laidOutB Tryd.prog = true := by kernel_rfl
theorem nil_of_trod {H : Type} {enc : TypeId × Value → H} {w : World} {base fuel : Nat} {spare : Nat → Bool} {held : Bool} {a : Option Addr} {n c : Nat} {x : DataW H × List MemPlace}
    (h : DataW.trod enc Tryd.prog w base spare held fuel 22 [.slice a n c] = some x) : a = none → c = 0 := by
  intro ha
  rcases Go.Deep.open_slice Tryd.underlying22 h with ⟨hcs, -⟩ | ⟨a', len, cap, m, n, D, Pl, hcs, -⟩
  · simp only [List.cons.injEq, and_true, Value.slice.injEq] at hcs
    exact hcs.2.2
  · simp only [List.cons.injEq, and_true, Value.slice.injEq] at hcs
    rw [ha] at hcs
    cases hcs.1

set_option maxRecDepth 100000 in
theorem blank_lifted (os : Os) (started : os.Started) (H : Type) (enc : TypeId × Value → H) :
    ReturnsInHanded {} Tryd.checked os 4 .any (fun w args => (Rows.fnAllBlankTextKeepsItsConditionsAnyPlaceSpec.pre enc Tryd.prog Tryd.f4 [] false w args ∧ laidMetH Tryd.prog Rows.fnAllBlankTextKeepsItsConditionsAnyPlaceRow.laid w) ∧ sizedMet enc Tryd.prog Tryd.f4 (OpenSpec.ofChange Rows.fnAllBlankTextKeepsItsConditionsAnyPlaceSpec) false w args)
      (Rows.fnAllBlankTextKeepsItsConditionsAnyPlaceSpec.post enc Tryd.prog Tryd.f4 false true false false) := by
  refine returnsInHanded_of_change_and (C := Tryd.checked) (X := fun w _ => laidMetH Tryd.prog Rows.fnAllBlankTextKeepsItsConditionsAnyPlaceRow.laid w) (fun _ _ _ hh h => h.of_heap hh) ownB started (by kernel_rfl) Tryd.func4
    (ChangeSpec.witness_shaped (enc := enc) (C := Tryd.checked) (os := os) (X := fun w _ => laidMetH Tryd.prog Rows.fnAllBlankTextKeepsItsConditionsAnyPlaceRow.laid w) false (World.laidAll Tryd.prog os Rows.fnAllBlankTextKeepsItsConditionsAnyPlaceRow.laid) #[.slice none 0 0, .agg #[.string ⟨#[]⟩, .slice none 0 0], .int .i64 0] 8 (World.laidAll_os _ _ _)
      (World.shaped_of_ZipB (by kernel_rfl) (by kernel_rfl)) (by kernel_rfl) (by kernel_rfl) (by kernel_rfl)
      (by rw [MakeChecks.laidMetH_plain _ _ _ (by kernel_rfl)]; exact laidMet_laidAll _ (by kernel_rfl) (by kernel_rfl))) ?_
  intro W base args ds gs before hval0 hW _ _ _ _
  have hval : ∀ (j : Nat) t v, Tryd.f4.params[j]? = some t → args[j]? = some v → Value.okWide Tryd.prog W .any base t v := hval0
  have hW' := hW
  obtain ⟨p, q, hA0, hV, rfl, _, _⟩ := hW
  have hA : DataW.TrodAll enc Tryd.prog W 0 (fun _ => true) true Tryd.f4.params.toList args.toList ds p := hA0
  rw [Tryd.params4] at hA hval
  obtain ⟨v0, v1, v2, d0, d1, d2, p0, p1, p2, rfl, rfl, rfl, h0, h1, h2⟩ := trodAll_three hA
  obtain ⟨rfl, rfl⟩ := trodVars_none hV
  obtain ⟨k, rfl, rfl, rfl, wk⟩ := open_int Tryd.underlying3 (hval 2 3 v2 rfl rfl) h2
  obtain ⟨a0, len, cap, rfl⟩ := okWide_slice Tryd.underlying22 (hval 0 22 v0 rfl rfl)
  simp only [List.append_nil] at hW'
  have h0k := h0
  have h1k := h1
  have hlt0 : ∀ x ∈ p0, x.block < W.heap.size := fun x hx => by simpa using hW'.lt x (List.mem_append_left _ hx)
  have hlt1 : ∀ x ∈ p1, x.block < W.heap.size := fun x hx => by simpa using hW'.lt x (List.mem_append_right _ hx)
  obtain ⟨fuel, hf⟩ := h0
  obtain ⟨n, D, hD⟩ := cons_of_trod (v := .slice a0 len cap) hf
  obtain ⟨s, u, N, V, rfl, hs, hu⟩ := con_of_Trod (hval 1 38 v1 rfl rfl) h1
  obtain rfl : len = n := by obtain ⟨_, _, e, _⟩ := hD; cases e; rfl
  refine (blank_walk a0 len cap D s u N V k W hD (nil_of_trod hf) hs hu).mono fun e W' ⟨he, hb⟩ => ?_
  subst he
  exact ⟨_, rfl, _, _, _, [], p0 ++ p1, [], hW', trodAll_mk1 (shut_bool Tryd.underlying4 _), by
    have := trodAll_mk3 (Below.trod laidOutB' (by kernel_rfl) (of_decide_eq_true (by kernel_rfl)) h0k hb hlt0) (Below.trod laidOutB' (by kernel_rfl) (of_decide_eq_true (by kernel_rfl)) h1k hb hlt1) (shut_int Tryd.underlying3 wk)
    simp only [List.append_nil] at this
    exact this, rfl, hb.frame _, fun h => by cases h⟩

theorem blank_row : Rows.FnAllBlankTextKeepsItsConditionsAnyPlaceSaid :=
  OpenClaim.holds_of_wide 4 Tryd.f4 rfl rfl rfl rfl rfl rfl rfl ⟨rfl, rfl, rfl, rfl, rfl⟩ rfl rfl rfl rfl rfl (by kernel_rfl) Tryd.func4 (by kernel_rfl)
    (of_decide_eq_true (by kernel_rfl)) (by unfold Func.isWrapper; first | (rw [if_pos (by decide +kernel)]; kernel_rfl) | (rw [if_neg (by decide +kernel)]; exact ⟨rfl, rfl⟩))
    (fun os started H enc _ => blank_lifted os started H enc)
theorem blank_holds : Rows.FnAllBlankTextKeepsItsConditionsAnyPlaceCardSaid :=
  Claim7.holds_tied_plain_at .later [] [.data, .pinned] true (true, "85b4c85d883f8415519e450521f7e1f2d16a42323db3c01775cd5916a977ff22") false blank_row (fun _ h => by cases h) (by kernel_rfl) (fun _ h => by cases h) fnAllBlankTextKeepsItsConditionsAnyPlace_row_tie rfl ⟨rfl, rfl⟩ (by kernel_rfl) rfl
    (fun f fn hf hfn => by
      obtain rfl : f = 4 := Option.some.inj ((show Tryd.prog.funcNamed Rows.fnAllBlankTextKeepsItsConditionsAnyPlaceRow.func = some 4 by kernel_rfl).symm.trans hf) |>.symm
      obtain rfl : fn = Tryd.f4 := (Option.some.inj (Tryd.func4.symm.trans hfn)).symm
      exact ⟨by kernel_rfl, fun j t ht => by
        rw [Tryd.params4] at ht
        have hm : t ∈ [22, 38, 3] := by simpa using Array.mem_of_getElem? ht
        have hall : ([22, 38, 3].all fun u => !Tryd.prog.wantsStandIn u) = true := by kernel_rfl
        exact (show Tryd.prog.wantsStandIn t = false by simpa using List.all_eq_true.1 hall t hm)⟩)
    (by kernel_rfl)
end Go.Proofs.Qxb6615015aDoor
