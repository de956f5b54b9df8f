/-
  THE CARD OF FnCutBoundPrefixFree: told and tied.
-/
import Derived.Test.Qxb6614453aFmtG
import Derived.Test.Qxb6614453aFmtI
namespace Go.Proofs.Qxb6614453aFmt
open Go.ChangeShapes Go.WideShapes Go.ChangeAt Go.RowKit Go.Kit
open Go.ChangeMaps (open_string shut_string)
open Go.Extern.Stop Go.Stop Go.Extern

theorem prefix_any (F : Interp) (v u : Value) (n m : Nat) (S T : Nat → ByteArray) (w : World) (hF : F.answers w.tape) (hv : IsStrs w v n S) (hu : IsStrs w u m T)
    (t0 t1 : TypeId) (p0 p1 : Value) (h0 : w.cell? ⟨0, 0, none⟩ = some (.iface t0 p0)) (h1 : w.cell? ⟨1, 0, none⟩ = some (.iface t1 p1)) :
    Calls Tryf.prog 4 #[v, u] w fun e w' => e = .returned (.bool true) ∧ Below w.heap.size w w' := by
  have hu' := hu
  obtain ⟨a, c, rfl, -, -, -, hx⟩ := hu'
  cases a with
  | none =>
    have hm : m = 0 := by
      rcases Nat.eq_zero_or_pos m with h | h
      · exact h
      · obtain ⟨b, o, e, -⟩ := hx 0 h
        cases e
    subst hm
    exact prefix_nil v n c S T w hv hu
  | some ad => exact prefix_some F v n m c ad S T w hF hv hu t0 t1 p0 p1 h0 h1

theorem witness_prefix (os : Os) {H : Type} (enc : TypeId × Value → H) :
    (OpenSpec.ofChange Rows.fnCutBoundPrefixFreeSpec).preRow enc Tryf.prog Tryf.f4 Rows.fnCutBoundPrefixFreeRow.domain false theLaid ((World.laidAll Tryf.prog os theLaid).forCall (fun _ _ => 0) ⟨#[], #[.slice none 0 0, .slice none 0 0], []⟩).memory #[.slice none 0 0, .slice none 0 0] := by
  have hw : (DataW.whole enc Tryf.prog ((World.laidAll Tryf.prog os theLaid).forCall (fun _ _ => 0) ⟨#[], #[.slice none 0 0, .slice none 0 0], []⟩).memory Tryf.f4.params.toList (OpenSpec.ofChange Rows.fnCutBoundPrefixFreeSpec).vars false #[Value.slice none 0 0, .slice none 0 0].toList 8).map (fun x => (x.1, x.2.1)) =
      some ([.nil, .nil], []) := by kernel_rfl
  obtain ⟨⟨x1, x2, x3⟩, hx, hx1⟩ := Option.map_eq_some_iff.1 hw
  simp only [Prod.mk.injEq] at hx1
  obtain ⟨rfl, rfl⟩ := hx1
  exact OpenSpec.preRow_of_cond 8 hx (by kernel_rfl) (fun k hk => by cases hk) (by kernel_rfl) (laid_met os _)

set_option maxRecDepth 100000 in
theorem prefix_lifted (os : Os) (started : os.Started) (H : Type) (enc : TypeId × Value → H) :
    ReturnsInTold none {} Tryf.checked os 4 .any Input.okWide ((OpenSpec.ofChange Rows.fnCutBoundPrefixFreeSpec).preRow enc Tryf.prog Tryf.f4 Rows.fnCutBoundPrefixFreeRow.domain false theLaid)
      (fun F => ((OpenSpec.ofChange Rows.fnCutBoundPrefixFreeSpec).at F).post enc Tryf.prog Tryf.f4 false true false false) (aloneAtReturn Tryf.prog) nothingAlways := by
  refine returnsInTold_of_row (C := Tryf.checked) (s := OpenSpec.ofChange Rows.fnCutBoundPrefixFreeSpec) (by kernel_rfl) own started (by kernel_rfl) Tryf.func4
    (fun F => ⟨World.laidAll Tryf.prog os theLaid, F.over fun _ _ => 0, ⟨#[], #[.slice none 0 0, .slice none 0 0], []⟩, World.laidAll_os _ _ _, shaped os F _, rfl, (Input.okWide_of_okWideB (by kernel_rfl)).2, witness_prefix os enc,
      ⟨by simp, by simp, fun _ => F.over_modest Modest.zero, by simp, by simp⟩, F.over_answers _⟩) ?_
  intro F W base args ds gs before _ hF hval0 hW _ _ _ hL _
  have hval : ∀ (j : Nat) t v, Tryf.f4.params[j]? = some t → args[j]? = some v → Value.okWide Tryf.prog W .any base t v := hval0
  have hW' := hW
  obtain ⟨p, q, hA0, hV0, rfl, _, _⟩ := hW
  have hA : DataW.TrodAll enc Tryf.prog W 0 (fun _ => true) true Tryf.f4.params.toList args.toList ds p := hA0
  rw [Tryf.params4] at hA hval
  obtain ⟨v0, v1, d0, d1, p0, p1, rfl, rfl, rfl, h0, h1⟩ := trodAll_two hA
  obtain ⟨rfl, rfl⟩ := trodVars_none hV0
  obtain ⟨n, S, hS⟩ := view (hval 0 26 v0 rfl rfl) h0
  obtain ⟨m, T, hT⟩ := view (hval 1 26 v1 rfl rfl) h1
  obtain ⟨a0, a1, hc0, hc1⟩ := of_laid hL
  clear hA0 hV0 hval0
  refine (prefix_any F.told v0 v1 n m S T W hF hS hT 63 63 _ _ hc0 hc1).mono fun e W' ⟨he, hb⟩ => ?_
  subst he
  have hlt0 : ∀ x ∈ p0, x.block < W.heap.size := fun x hx => hW'.lt x (by simp [hx])
  have hlt1 : ∀ x ∈ p1, x.block < W.heap.size := fun x hx => hW'.lt x (by simp [hx])
  refine ⟨_, rfl, _, _, _, [], p0 ++ p1, [], hW', trodAll_mk1 (shut_bool Tryf.underlying4 _), ?_, rfl, hb.frame _, fun h => by cases h⟩
  exact trodAll_mk2 (Below.trod laidOut (by kernel_rfl) (of_decide_eq_true (by kernel_rfl)) h0 hb hlt0) (Below.trod laidOut (by kernel_rfl) (of_decide_eq_true (by kernel_rfl)) h1 hb hlt1)

theorem prefix_holds : Rows.FnCutBoundPrefixFreeToldSaid :=
  Claim7.holds_of_told_tied_any_at .later 4 Tryf.f4 "fmt.Sprintf" ["fmt.errorf"] [] _ _ _ _ _ (by kernel_rfl) rfl rfl rfl laidOut (by kernel_rfl) rfl ⟨rfl, rfl, rfl, rfl, rfl, rfl, rfl⟩ rfl rfl (by kernel_rfl) (by kernel_rfl) Tryf.func4 (by kernel_rfl)
    (of_decide_eq_true (by kernel_rfl)) (of_decide_eq_true (by kernel_rfl)) stops.symm rfl stopKnobs.symm (by kernel_rfl)
    (by kernel_rfl) (by kernel_rfl) (by kernel_rfl) (by kernel_rfl) (by kernel_rfl) (by kernel_rfl) (by kernel_rfl) (by kernel_rfl) (by kernel_rfl) rfl (by kernel_rfl) rfl rfl
    rfl rfl
    rfl (by kernel_rfl) (by kernel_rfl) (by kernel_rfl) (by decide) (by kernel_rfl) fnCutBoundPrefixFree_row_tie
    (OpenClaim.moreEntering_of (by kernel_rfl) (by kernel_rfl) (by kernel_rfl) (by kernel_rfl) (by kernel_rfl) (by kernel_rfl) (by kernel_rfl) (by kernel_rfl) (by kernel_rfl) (by kernel_rfl))
    ⟨_, WideRow.started_initial, quiet _⟩
    (fun os started _ H enc _ => prefix_lifted os started H enc)

end Go.Proofs.Qxb6614453aFmt
