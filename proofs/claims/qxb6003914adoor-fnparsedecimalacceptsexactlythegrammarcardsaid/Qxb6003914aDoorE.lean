/-
  parseDecimal (18), walked: all texts.
-/
import Derived.Test.Qxb6003914aDoorM
import Derived.Test.Qxb6003914aDoorP
namespace Go.Proofs.Qxb6003914aDoor
open Go.RowKit

theorem parse_none (s : ByteArray) (w : World) (hp : ¬ 0 < s.size) :
    Calls Tryd.prog 18 #[.string s] w fun e w' => Parsed s.data.toList e ∧ Below w.heap.size w w' := by
  have hsl : s.data.toList = [] := list_nil s hp
  have hs : s.size ≤ 1048576 := by omega
  have HNE : Hid (numOk (unneg s.data.toList) = false) := by show _ = _; rw [hsl]; rfl
  generalize hL : s.data.toList = L at *
  go_enter Tryd.func18, Tryd.ntmps18
  go_wp2_with fail
  refine (skip_any s _ (by unfold maxLen; omega)).mono ?_
  rintro e w1 ⟨rfl, rfl⟩
  rw [hL, hsl]
  clear hL hsl
  go_wp2_with fail
  refine bodyPost_ret (v := .tuple #[.agg #[.bool false, .string ⟨#[]⟩, .string ⟨#[]⟩, .int .i64 0], .bool false]) (by simp [results, Tryd.results18, go_sem]) rfl ?_
  exact ⟨parsed_no (HNE.out), below_al (Below.refl _ _) _ _⟩

theorem parse_any (s : ByteArray) (w : World) (hs : s.size ≤ 1048576) :
    Calls Tryd.prog 18 #[.string s] w fun e w' => Parsed s.data.toList e ∧ Below w.heap.size w w' := by
  by_cases hp : 0 < s.size
  · by_cases hm : s[0].toNat = 45
    · exact parse_neg s w hs hp hm
    · exact parse_pos s w hs hp hm
  · exact parse_none s w hp
end Go.Proofs.Qxb6003914aDoor
