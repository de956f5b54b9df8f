/-
  What both cards of this seat want: the listed variables' cells, the witness' world, a slice of strings that came in.
-/
import Derived.Test.Qxb6614453aFmtE
import Derived.Test.Qxb6614453aFmtCards
import Derived.Test.Qxb6614453aFmtTie
import Derived.ProofKit
import Derived.Stop.JoinedAt
import Derived.Stop.Texts
import Derived.Stop.JoinedTold
import Derived.Stop.LaidErr
import Derived.SizedLaws
import Derived.SliceStrings
import Derived.Deep.Strs
import Derived.Lay
import Derived.SevenTiedAt
namespace Go.Proofs.Qxb6614453aFmt
open Go.ChangeShapes Go.WideShapes Go.ChangeAt Go.RowKit Go.Kit
open Go.ChangeMaps (open_string shut_string)
open Go.Extern.Stop Go.Stop Go.Extern

theorem own : ownKnob Tryf.prog.godebug = none := by kernel_rfl
theorem laidOut : laidOutB Tryf.pinned.checked.prog = true := by kernel_rfl
theorem stops : Tryf.pinned.checked.prog.stops = ["fmt.Sprintf", "fmt.errorf"] := by kernel_rfl
theorem stopKnobs : Tryf.pinned.checked.prog.stopKnobs = [] := by kernel_rfl
theorem quiet (os : Os) : Stop.quiet Tryf.pinned.checked.prog os := by
  intro k hk
  rw [stopKnobs] at hk
  cases hk
/-- The name of the type of the sentinels, off the given datum. -/
def nmE : String := match (Rows.laid_strconv_ErrRange (H := Unit)) with
  | .iface n _ => n
  | _ => default
theorem row63 (u : TypeId) (h : Tryf.prog.typeName? 3 u = some nmE) : u = 63 :=
  typeName_ptr_named (nm := "errors.errorString") (by kernel_rfl) (by kernel_rfl) (by decide) u (h.trans (congrArg some (by decide)))
theorem cells9 : Tryf.prog.cellsOf 9 = 1 := by kernel_rfl

def theLaid : List (String × DataW Unit) := Rows.fnCutBoundLastFieldRow.laid

theorem laidMet_drop {P : Program} {W : World} : ∀ (k : Nat) {l : List (String × DataW Unit)}, laidMet P l W → laidMet P (l.drop k) W
  | 0, _, h => h
  | _ + 1, [], h => h
  | k + 1, _ :: _, h => laidMet_drop k h.tail

def outOfRange : List UInt8 := [118, 97, 108, 117, 101, 32, 111, 117, 116, 32, 111, 102, 32, 114, 97, 110, 103, 101]
def invalid : List UInt8 := [105, 110, 118, 97, 108, 105, 100, 32, 115, 121, 110, 116, 97, 120]
theorem drop4 : theLaid.drop 4 = ("strconv.ErrRange", .iface nmE (.ptr (.agg [.lit (.string outOfRange)]))) :: theLaid.drop 5 := by kernel_rfl
theorem drop5 : theLaid.drop 5 = ("strconv.ErrSyntax", .iface nmE (.ptr (.agg [.lit (.string invalid)]))) :: theLaid.drop 6 := by kernel_rfl

/-- The two sentinels of strconv, off the condition. -/
theorem of_laid {W : World} (h : laidMetH Tryf.prog theLaid W) : ∃ a0 a1, W.cell? ⟨0, 0, none⟩ = some (.iface 63 (.pointer (some a0))) ∧ W.cell? ⟨1, 0, none⟩ = some (.iface 63 (.pointer (some a1))) := by
  rw [MakeChecks.laidMetH_plain _ _ _ (by kernel_rfl)] at h
  have h4 := laidMet_drop 4 h
  have h5 := laidMet_drop 5 h
  rw [drop4] at h4
  rw [drop5] at h5
  obtain ⟨a1, t1, hv1, -, -, -⟩ := laid_sentinel (g := 1) h4 (by kernel_rfl) (by kernel_rfl) Tryf.underlying30 row63 Tryf.underlying63 Tryf.underlying65 rfl rfl Tryf.underlying9 (by kernel_rfl) (by kernel_rfl)
  obtain ⟨a0, t0, hv0, -, -, -⟩ := laid_sentinel (g := 0) h5 (by kernel_rfl) (by kernel_rfl) Tryf.underlying30 row63 Tryf.underlying63 Tryf.underlying65 rfl rfl Tryf.underlying9 (by kernel_rfl) (by kernel_rfl)
  exact ⟨a0, a1, World.var?_cell (g := 0) (by kernel_rfl) hv0 0, World.var?_cell (g := 1) (by kernel_rfl) hv1 0⟩

set_option maxRecDepth 100000 in
/-- A slice of strings that came in. -/
theorem view {H : Type} {enc : TypeId × Value → H} {W : World} {base : Nat} {v : Value} {d : DataW H} {p : List MemPlace} (hok : Value.okWide Tryf.prog W .any base 26 v) (h : DataW.Trod enc Tryf.prog W 0 (fun _ => true) true 26 v d p) :
    ∃ n S, IsStrs W v n S := by
  obtain ⟨a0, len, cap, rfl⟩ := okWide_slice Tryf.underlying26 hok
  obtain ⟨fuel, hf⟩ := h
  rcases Deep.open_strs Tryf.underlying26 Tryf.underlying9 cells9 hf with ⟨hcs, -⟩ | ⟨a, len', cap', m, Sx, hcs, -, hl, hm, hmm, -, hx⟩
  · simp [Value.cells] at hcs
    obtain ⟨rfl, rfl, rfl⟩ := hcs
    exact ⟨0, fun _ => ⟨#[]⟩, none, 0, rfl, Nat.le_refl _, Nat.zero_le _, fun j h => absurd h (Nat.not_lt_zero _), fun j h => absurd h (Nat.not_lt_zero _)⟩
  · simp [Value.cells] at hcs
    obtain ⟨rfl, rfl, rfl⟩ := hcs
    simp at hmm
    subst hmm
    refine ⟨len, Sx, some a, m, rfl, hl, hm, fun j hj => (hx j (by omega)).2, fun j hj => ?_⟩
    obtain ⟨b, off, spot⟩ := a
    have hspot : spot = none := by simpa [Addr.add] using World.cell?_spot (hx 0 (by omega)).1
    subst hspot
    exact ⟨b, off, rfl, fun i hi => by rw [← add_plain]; exact (hx i (by omega)).1⟩

/-- The witness' world. -/
theorem shaped (os : Os) (F : Interp) (args : Array Value) : ((World.laidAll Tryf.prog os theLaid).forCall (F.over fun _ _ => 0) ⟨#[], args, []⟩).Shaped Tryf.prog :=
  World.shaped_of_ZipB (by kernel_rfl) (by kernel_rfl)
theorem laid_met (os : Os) (args : Array Value) : laidMetH Tryf.prog theLaid ((World.laidAll Tryf.prog os theLaid).forCall (fun _ _ => 0) ⟨#[], args, []⟩).memory := by
  rw [MakeChecks.laidMetH_plain _ _ _ (by kernel_rfl)]
  exact laidMet_laidAll _ (by kernel_rfl) (by kernel_rfl)
end Go.Proofs.Qxb6614453aFmt
