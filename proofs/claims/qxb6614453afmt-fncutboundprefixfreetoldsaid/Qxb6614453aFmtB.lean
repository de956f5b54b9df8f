/-
  fmt.Errorf at the three formats of this seat, by its contract: a new error that is not nil; nothing old has turned.
-/
import Derived.Test.Qxb6614453aFmtA
import Derived.Stop.CallBack
import Derived.Stop.IfaceNil
import GoSem.ClaimData
import Derived.BigCall
import Derived.Handy
namespace Go.Proofs.Qxb6614453aFmt
open Go.RowKit Go.Extern.Stop Go.Stop Go.Extern

theorem call26 (args : Array Value) (w : World) : (callFunc 26 args).run Tryf.prog w = ((FmtStop.errorf #[9, 52] #[30] args).run Tryf.prog w).andThen fun v w' => .ok (.value v) w' :=
  run_callFunc_extern Tryf.func26 (by kernel_rfl) (by kernel_rfl) (by kernel_rfl) (by kernel_rfl) args w
theorem guard26 (name : String) (w : World) : (FmtStop.guard name).run Tryf.prog w = .ok () w := by kernel_rfl
theorem fmt0 : FmtStop.printed? ⟨#[117, 110, 107, 110, 111, 119, 110, 32, 108, 111, 99, 107, 32, 116, 121, 112, 101, 32, 37, 113]⟩ 1 = some [(0, 113, false)] := by kernel_rfl
theorem fmt0r (w : World) : (FmtDoors.printed ⟨#[117, 110, 107, 110, 111, 119, 110, 32, 108, 111, 99, 107, 32, 116, 121, 112, 101, 32, 37, 113]⟩ 1).run Tryf.prog w = .ok [(0, 113, false)] w := by kernel_rfl
theorem fmt1 : FmtStop.printed? ⟨#[117, 110, 107, 110, 111, 119, 110, 32, 100, 117, 114, 97, 116, 105, 111, 110, 32, 37, 113]⟩ 1 = some [(0, 113, false)] := by kernel_rfl
theorem fmt1r (w : World) : (FmtDoors.printed ⟨#[117, 110, 107, 110, 111, 119, 110, 32, 100, 117, 114, 97, 116, 105, 111, 110, 32, 37, 113]⟩ 1).run Tryf.prog w = .ok [(0, 113, false)] w := by kernel_rfl
def shape9 : List UInt8 := [12, 6, 0, 0, 0, 0, 0, 0, 0, 115, 116, 114, 105, 110, 103]
theorem op9 (name : String) (x : ByteArray) (w : World) : (FmtStop.operand name false 113 false (.iface 9 (.string x))).run Tryf.prog w = .ok (shape9, FmtStop.pack x.data.toList) w := by kernel_rfl
theorem op9w (name : String) (x : ByteArray) (w : World) : (FmtStop.operand name true 113 false (.iface 9 (.string x))).run Tryf.prog w = .ok (shape9, FmtStop.pack x.data.toList) w := by kernel_rfl
theorem ptr63 (w : World) : (FmtStop.ptrTo "errors.errorString").run Tryf.prog w = .ok 63 w := by kernel_rfl
theorem elem63 (w : World) : (elemOf 63).run Tryf.prog w = .ok 65 w := by kernel_rfl
theorem isError63 (w : World) : (FmtDoors.textMethod 63 "Error").run Tryf.prog w = .ok true w := by kernel_rfl
attribute [local go_sem] call26 guard26 fmt0 fmt0r fmt1 fmt1r op9 op9w ptr63 elem63 isError63

/-- The call returned an error that is not nil, and made memory alone. -/
def IsErr (w : World) (e : Ending) (w' : World) : Prop := ∃ p, e = .returned (.iface 63 p) ∧ Below w.heap.size w w'

set_option maxHeartbeats 400000 in
theorem errorf_lock (F : Interp) (s : ByteArray) (b : Nat) (w : World) (hF : F.answers w.tape) (hc : w.cell? ⟨b, 0, none⟩ = some (.iface 9 (.string s))) :
    Calls Tryf.prog 20 #[.string ⟨#[117, 110, 107, 110, 111, 119, 110, 32, 108, 111, 99, 107, 32, 116, 121, 112, 101, 32, 37, 113]⟩, .slice (some ⟨b, 0, none⟩) 1 1] w fun e w' => IsErr w e w' := by
  have hF' := answers_open hF
  go_enter Tryf.func20, Tryf.ntmps20
  go_wp2
  go_ret
  exact ⟨_, rfl, by go_grown⟩

set_option maxHeartbeats 400000 in
theorem errorf_dur (F : Interp) (s : ByteArray) (b : Nat) (w : World) (hF : F.answers w.tape) (hc : w.cell? ⟨b, 0, none⟩ = some (.iface 9 (.string s))) :
    Calls Tryf.prog 20 #[.string ⟨#[117, 110, 107, 110, 111, 119, 110, 32, 100, 117, 114, 97, 116, 105, 111, 110, 32, 37, 113]⟩, .slice (some ⟨b, 0, none⟩) 1 1] w fun e w' => IsErr w e w' := by
  have hF' := answers_open hF
  go_enter Tryf.func20, Tryf.ntmps20
  go_wp2
  go_ret
  exact ⟨_, rfl, by go_grown⟩

theorem fmt2 : FmtStop.printed? ⟨#[119, 97, 110, 116, 32, 116, 105, 109, 101, 111, 117, 116, 32, 78, 109, 115, 44, 32, 78, 32, 97, 32, 119, 104, 111, 108, 101, 32, 110, 117, 109, 98, 101, 114, 32, 111, 102, 32, 109, 105, 108, 108, 105, 115, 101, 99, 111, 110, 100, 115, 32, 102, 114, 111, 109, 32, 49, 32, 116, 111, 32, 37, 100, 44, 32, 110, 111, 116, 32, 37, 113]⟩ 2 = some [(0, 100, false), (1, 113, false)] := by kernel_rfl
theorem fmt2r (w : World) : (FmtDoors.printed ⟨#[119, 97, 110, 116, 32, 116, 105, 109, 101, 111, 117, 116, 32, 78, 109, 115, 44, 32, 78, 32, 97, 32, 119, 104, 111, 108, 101, 32, 110, 117, 109, 98, 101, 114, 32, 111, 102, 32, 109, 105, 108, 108, 105, 115, 101, 99, 111, 110, 100, 115, 32, 102, 114, 111, 109, 32, 49, 32, 116, 111, 32, 37, 100, 44, 32, 110, 111, 116, 32, 37, 113]⟩ 2).run Tryf.prog w = .ok [(0, 100, false), (1, 113, false)] w := by kernel_rfl
def shape2 : List UInt8 := [5, 5, 0, 0, 0, 0, 0, 0, 0, 105, 110, 116, 54, 52]
theorem op2 (name : String) (x : Int) (w : World) : (FmtStop.operand name false 100 false (.iface 2 (.int .i64 x))).run Tryf.prog w = .ok (shape2, Go.Extern.Stop.digits 8 (x % 2 ^ 64).toNat) w := by kernel_rfl
theorem op2w (name : String) (x : Int) (w : World) : (FmtStop.operand name true 100 false (.iface 2 (.int .i64 x))).run Tryf.prog w = .ok (shape2, Go.Extern.Stop.digits 8 (x % 2 ^ 64).toNat) w := by kernel_rfl
attribute [local go_sem] fmt2 fmt2r op2 op2w

set_option maxHeartbeats 400000 in
theorem errorf_want (F : Interp) (s : ByteArray) (b : Nat) (n : Int) (w : World) (hF : F.answers w.tape) (hc : w.cell? ⟨b, 0, none⟩ = some (.iface 2 (.int .i64 n))) (hc1 : w.cell? ⟨b, 1, none⟩ = some (.iface 9 (.string s))) :
    Calls Tryf.prog 20 #[.string ⟨#[119, 97, 110, 116, 32, 116, 105, 109, 101, 111, 117, 116, 32, 78, 109, 115, 44, 32, 78, 32, 97, 32, 119, 104, 111, 108, 101, 32, 110, 117, 109, 98, 101, 114, 32, 111, 102, 32, 109, 105, 108, 108, 105, 115, 101, 99, 111, 110, 100, 115, 32, 102, 114, 111, 109, 32, 49, 32, 116, 111, 32, 37, 100, 44, 32, 110, 111, 116, 32, 37, 113]⟩, .slice (some ⟨b, 0, none⟩) 2 2] w fun e w' => IsErr w e w' := by
  have hF' := answers_open hF
  go_enter Tryf.func20, Tryf.ntmps20
  go_wp2
  go_ret
  exact ⟨_, rfl, by go_grown⟩

/-- WHAT ParseLockType AND ParseDuration GIVE: the text and nil where it is one, else an error that is not nil. -/
def IsParsed (yes : Bool) (w : World) (e : Ending) (w' : World) : Prop :=
  ∃ t v, e = .returned (.tuple #[.string t, v]) ∧ ((yes = true ∧ v = .nilIface) ∨ (yes = false ∧ ∃ p, v = .iface 63 p)) ∧ Below w.heap.size w w'
def lockB (s : ByteArray) : Bool := decide (0 ≤ posF s)
def durB (s : ByteArray) : Bool := decide (rankF s ≠ 0)

set_option maxHeartbeats 400000 in
theorem parseLock (F : Interp) (s : ByteArray) (w : World) (hF : F.answers w.tape) :
    Calls Tryf.prog 15 #[.string s] w fun e w' => IsParsed (lockB s) w e w' := by
  by_cases h : posF s < 0
  · go_enter Tryf.func15, Tryf.ntmps15
    go_wp2_with (first | (go_at_call 19; refine (pos_any _ _).mono ?_; rintro e w' ⟨rfl, rfl⟩))
    refine (errorf_lock F s _ _ (by exact hF) (by go_simp)).mono ?_
    rintro e w' ⟨p, rfl, hb⟩
    go_wp2
    go_ret2
    exact ⟨_, _, rfl, Or.inr ⟨by simp [lockB]; omega, _, rfl⟩, ((Below.refl _ _).alloc (Nat.le_refl _) _).trans (hb.mono (by simp))⟩
  · go_enter Tryf.func15, Tryf.ntmps15
    go_wp2_with (first | (go_at_call 19; refine (pos_any _ _).mono ?_; rintro e w' ⟨rfl, rfl⟩))
    go_ret2
    exact ⟨_, _, rfl, Or.inl ⟨by simp [lockB]; omega, rfl⟩, Below.refl _ _⟩

set_option maxHeartbeats 400000 in
theorem parseDur (F : Interp) (s : ByteArray) (w : World) (hF : F.answers w.tape) :
    Calls Tryf.prog 16 #[.string s] w fun e w' => IsParsed (durB s) w e w' := by
  by_cases h : rankF s = 0
  · have h' : (rankF s == 0) = true := beq_iff_eq.2 h
    go_enter Tryf.func16, Tryf.ntmps16
    go_wp2_with (first | (go_at_call 21; refine (rank_any _ _).mono ?_; rintro e w' ⟨rfl, rfl⟩))
    refine (errorf_dur F s _ _ (by exact hF) (by go_simp)).mono ?_
    rintro e w' ⟨p, rfl, hb⟩
    go_wp2
    go_ret2
    exact ⟨_, _, rfl, Or.inr ⟨by simp [durB, h], _, rfl⟩, ((Below.refl _ _).alloc (Nat.le_refl _) _).trans (hb.mono (by simp))⟩
  · have h' : (rankF s == 0) = false := beq_eq_false_iff_ne.2 h
    go_enter Tryf.func16, Tryf.ntmps16
    go_wp2_with (first | (go_at_call 21; refine (rank_any _ _).mono ?_; rintro e w' ⟨rfl, rfl⟩))
    go_ret2
    exact ⟨_, _, rfl, Or.inl ⟨by simp [durB, h], rfl⟩, Below.refl _ _⟩

end Go.Proofs.Qxb6614453aFmt
