/-
  The bound on the lengths of the second law (14).
-/
import Derived.Test.Qxb6615015aDoorJ
namespace Go.Proofs.Qxb6615015aDoor
open Go.RowKit

set_option maxHeartbeats 2000000 in
set_option maxRecDepth 100000 in
theorem bytes14 (v : Value) (n : Nat) (D : Cons) (x : ByteArray) (u : Value) (N : Nat) (V : Nat → ByteArray) (b : Int) (w : World) (hv : IsCons w v n D) (hsx : x.size ≤ maxLen) (hu : IsStrs w u N V) :
    Calls Tryd.prog 14 #[v, .agg #[.string x, u], .int .i64 b] w fun e w' => IsBool e ∧ Below w.heap.size w w' := by
  obtain ⟨au, cu, eu⟩ := hu.shape
  subst eu
  have hal := below_alloc w (.cells #[.string x, .slice au N cu] 38)
  replace hv := hv.below hal
  replace hu := hu.below hal
  obtain ⟨a, c, rfl, hc, hm, hx⟩ := hv
  obtain ⟨au', cu', eu', hcu, hmu, -, hsu, hxu⟩ := hu
  cases eu'
  unfold maxLen at hm hmu
  have hsx' : x.size ≤ 2 ^ 63 - 1 := hsx
  clear hsx
  have HE : Hid (Below w.heap.size w (w.alloc (.cells #[.string x, .slice au N cu] 38))) := hal; clear hal
  have HX : Hid (∀ j, j < n → ∃ b o, a = some ⟨b, o, none⟩ ∧ ∀ i, i < n → (D.X i).size ≤ maxLen ∧ (w.alloc (.cells #[.string x, .slice au N cu] 38)).cell? ⟨b, o + i * 2, none⟩ = some (.string (D.X i)) ∧ ∃ u, (w.alloc (.cells #[.string x, .slice au N cu] 38)).cell? ⟨b, o + i * 2 + 1, none⟩ = some u ∧ IsStrs (w.alloc (.cells #[.string x, .slice au N cu] 38)) u (D.N i) (D.V i)) := hx; clear hx
  have HSU : Hid (∀ j, j < N → (V j).size ≤ 2 ^ 63 - 1) := hsu; clear hsu
  have HXU : Hid (∀ j, j < N → ∃ b o, au = some ⟨b, o, none⟩ ∧ ∀ i, i < N → (w.alloc (.cells #[.string x, .slice au N cu] 38)).cell? ⟨b, o + i, none⟩ = some (.string (V i))) := hxu; clear hxu
  go_enter Tryd.func14, Tryd.ntmps14
  go_wp2
  · go_ret
    exact ⟨isBool _, HE.out⟩
  go_loop [7, 8] (fun z i => ∃ (y : Int) (k : Nat), k ≤ n ∧ z = .int .i64 y ∧ i = .int .i64 k) (fun _ i => n - (intOf i).toNat)
  case atStart => exact ⟨_, 0, Nat.zero_le _, rfl, rfl⟩
  case round =>
    obtain ⟨y, k, hk, rfl, rfl⟩ := hrel
    by_cases hlt : k < n
    · obtain ⟨b', o, ha, hcell⟩ := HX.out k hlt
      subst ha
      obtain ⟨hsk, hc0, u, hc1, hu⟩ := hcell k hlt
      obtain ⟨a2, c2, e2, h2, h3, -, h4, hx2⟩ := hu
      subst e2
      clear hcell
      unfold maxLen at hsk h3 h4
      have HS2 : Hid (∀ j, j < D.N k → (D.V k j).size ≤ 2 ^ 63 - 1) := h4; clear h4
      have HX2 : Hid (∀ j, j < D.N k → ∃ b o, a2 = some ⟨b, o, none⟩ ∧ ∀ i, i < D.N k → (w.alloc (.cells #[.string x, .slice au N cu] 38)).cell? ⟨b, o + i, none⟩ = some (.string (D.V k i))) := hx2; clear hx2
      go_wp2
      · go_ret
        exact ⟨isBool _, HE.out⟩
      · go_ret
        exact ⟨isBool _, HE.out⟩
      · go_ret
        exact ⟨isBool _, HE.out⟩
      · go_ret
        exact ⟨isBool _, HE.out⟩
      go_loop [7, 9] (fun z i => ∃ (y : Int) (k2 : Nat), k2 ≤ D.N k ∧ z = .int .i64 y ∧ i = .int .i64 k2) (fun _ i => D.N k - (intOf i).toNat)
      case atStart => exact ⟨_, 0, Nat.zero_le _, rfl, rfl⟩
      case round =>
        obtain ⟨y2, k2, hk2, rfl, rfl⟩ := hrel
        by_cases hlt2 : k2 < D.N k
        · obtain ⟨b2, o2, ha2, hcell2⟩ := HX2.out k2 hlt2
          subst ha2
          have hck2 := hcell2 k2 hlt2
          have hsk2 := HS2.out k2 hlt2
          clear hcell2
          go_wp2
          · go_ret
            exact ⟨isBool _, HE.out⟩
          · go_ret
            exact ⟨isBool _, HE.out⟩
          · exact ⟨⟨_, k2 + 1, by omega, rfl, by go_num⟩, by simp [intOf]; omega⟩
        · go_wp2
          exact ⟨⟨_, k + 1, by omega, rfl, by go_num⟩, by simp [intOf]; omega⟩
    · go_wp2
      · go_ret
        exact ⟨isBool _, HE.out⟩
      · go_ret
        exact ⟨isBool _, HE.out⟩
      · go_ret
        exact ⟨isBool _, HE.out⟩
      · go_ret
        exact ⟨isBool _, HE.out⟩
      go_loop [7, 10] (fun z i => ∃ (y : Int) (k2 : Nat), k2 ≤ N ∧ z = .int .i64 y ∧ i = .int .i64 k2) (fun _ i => N - (intOf i).toNat)
      case atStart => exact ⟨_, 0, Nat.zero_le _, rfl, rfl⟩
      case round =>
        obtain ⟨y2, k2, hk2, rfl, rfl⟩ := hrel
        by_cases hlt2 : k2 < N
        · obtain ⟨b2, o2, ha2, hcell2⟩ := HXU.out k2 hlt2
          subst ha2
          have hck2 := hcell2 k2 hlt2
          have hsk2 := HSU.out k2 hlt2
          clear hcell2
          go_wp2
          · go_ret
            exact ⟨isBool _, HE.out⟩
          · go_ret
            exact ⟨isBool _, HE.out⟩
          · exact ⟨⟨_, k2 + 1, by omega, rfl, by go_num⟩, by simp [intOf]; omega⟩
        · go_wp2
          go_ret
          exact ⟨isBool _, HE.out⟩
end Go.Proofs.Qxb6615015aDoor
