/-
  net/netip's leaves: BitLen, Is6, Is4, IsValid, Zone, isZero, addOne.
-/
import Derived.Test.YbulkingDoorLeaf
namespace Go.Proofs.YbulkingDoor
open Go.RowKit
set_option linter.unusedVariables false

def bl : Hd → Int
  | .lt => 0
  | .eq => 32
  | .gt => 128

variable {w : World} {a4 a6 : Addr}

theorem Ybad.guard33 : Ybad.prog.eqGuardType Ybad.prog.depth 33 = false := by kernel_rfl

/-- The struct that a parameter of type Addr is laid out as. -/
def boxA (a4 a6 : Addr) (hi lo : Int) (i : Hd) : Obj := .cells #[.int .u64 hi, .int .u64 lo, .pointer (hnd a4 a6 i)] 35
abbrev agA (a4 a6 : Addr) (hi lo : Int) (i : Hd) : Value := .agg #[.int .u64 hi, .int .u64 lo, .pointer (hnd a4 a6 i)]

set_option maxHeartbeats 800000 in
set_option maxRecDepth 100000 in
theorem bitlen (hi lo : Int) (i : Hd) (h : Zs w a4 a6) :
    Calls Ybad.prog 28 #[agA a4 a6 hi lo i] w fun e w' => e = .returned (.int .i64 (bl i)) ∧ Later w w' := by
  have z1 := h.later ((Later.refl w).alloc (boxA a4 a6 hi lo i))
  have e0 := eqH0 z1 i
  have e1 := eqH4 z1 i
  have g0 := z1.g0
  have g1 := z1.g1
  have gd := Ybad.guard33
  simp only [boxA] at e0 e1 g0 g1
  clear z1
  cases i <;> simp at e0 e1 <;> (
    go_enter Ybad.func28, Ybad.ntmps28
    go_wp2
    go_ret
    exact ⟨rfl, (Later.refl w).alloc _⟩)

set_option maxHeartbeats 800000 in
set_option maxRecDepth 100000 in
theorem is6 (hi lo : Int) (i : Hd) (h : Zs w a4 a6) :
    Calls Ybad.prog 29 #[agA a4 a6 hi lo i] w fun e w' => e = .returned (.bool (decide (i = .gt))) ∧ Later w w' := by
  have z1 := h.later ((Later.refl w).alloc (boxA a4 a6 hi lo i))
  have e0 := eqH0 z1 i
  have e1 := eqH4 z1 i
  have g0 := z1.g0
  have g1 := z1.g1
  have gd := Ybad.guard33
  simp only [boxA] at e0 e1 g0 g1
  clear z1
  cases i <;> simp at e0 e1 <;> (
    go_enter Ybad.func29, Ybad.ntmps29
    go_wp2
    go_ret
    exact ⟨rfl, (Later.refl w).alloc _⟩)

set_option maxHeartbeats 800000 in
set_option maxRecDepth 100000 in
theorem is4 (hi lo : Int) (i : Hd) (h : Zs w a4 a6) :
    Calls Ybad.prog 32 #[agA a4 a6 hi lo i] w fun e w' => e = .returned (.bool (decide (i = .eq))) ∧ Later w w' := by
  have z1 := h.later ((Later.refl w).alloc (boxA a4 a6 hi lo i))
  have e0 := eqH0 z1 i
  have e1 := eqH4 z1 i
  have g0 := z1.g0
  have g1 := z1.g1
  have gd := Ybad.guard33
  simp only [boxA] at e0 e1 g0 g1
  clear z1
  cases i <;> simp at e0 e1 <;> (
    go_enter Ybad.func32, Ybad.ntmps32
    go_wp2
    go_ret
    exact ⟨rfl, (Later.refl w).alloc _⟩)

set_option maxHeartbeats 800000 in
set_option maxRecDepth 100000 in
theorem isvalid (hi lo : Int) (i : Hd) (h : Zs w a4 a6) :
    Calls Ybad.prog 25 #[agA a4 a6 hi lo i] w fun e w' => e = .returned (.bool (!decide (i = .lt))) ∧ Later w w' := by
  have z1 := h.later ((Later.refl w).alloc (boxA a4 a6 hi lo i))
  have e0 := eqH0 z1 i
  have e1 := eqH4 z1 i
  have g0 := z1.g0
  have g1 := z1.g1
  have gd := Ybad.guard33
  simp only [boxA] at e0 e1 g0 g1
  clear z1
  cases i <;> simp at e0 e1 <;> (
    go_enter Ybad.func25, Ybad.ntmps25
    go_wp2
    go_ret
    exact ⟨rfl, (Later.refl w).alloc _⟩)

end Go.Proofs.YbulkingDoor
