/-
  The state word: poolCapacity, withCapacity, and the few facts on its bits.
-/
import Derived.Test.YbulkijmDoorLeaf
import Derived.Laws.Bits64b
namespace Go.Proofs.YbulkijmDoor
open Go.RowKit

/-- A capacity as a pool keeps it. -/
def capOf (c : Int) : Int := if c ≤ 0 ∨ 2147483647 ≤ c then 2147483647 else c
theorem capOf_bd (c : Int) : 1 ≤ capOf c ∧ capOf c ≤ 2147483647 := by unfold capOf; split <;> omega

set_option maxHeartbeats 800000 in
set_option maxRecDepth 100000 in
theorem cap_any (c : Int) (w : World) : Calls Ybad.prog 4 #[.int .i64 c] w fun e w' => e = .returned (.int .i64 (capOf c)) ∧ w = w' := by
  by_cases h1 : c ≤ 0
  · have e : capOf c = 2147483647 := by unfold capOf; rw [if_pos (.inl h1)]
    rw [e]
    go_enter Ybad.func4, Ybad.ntmps4
    go_wp2
    go_ret
    exact ⟨rfl, rfl⟩
  · have h1' : decide (c ≤ 0) = false := by simp; omega
    by_cases h2 : 2147483647 ≤ c
    · have e : capOf c = 2147483647 := by unfold capOf; rw [if_pos (.inr h2)]
      rw [e]
      go_enter Ybad.func4, Ybad.ntmps4
      go_wp2
      go_ret
      exact ⟨rfl, rfl⟩
    · have e : capOf c = c := by unfold capOf; rw [if_neg (by omega)]
      have h2' : decide (2147483647 ≤ c) = false := by simp; omega
      rw [e]
      clear e
      go_enter Ybad.func4, Ybad.ntmps4
      go_wp2
      go_ret
      exact ⟨rfl, rfl⟩

set_option maxHeartbeats 800000 in
set_option maxRecDepth 100000 in
theorem withCap_any (c : Int) (h0 : 1 ≤ c) (h1 : c ≤ 2147483647) (w : World) : Calls Ybad.prog 5 #[.int .u64 0, .int .i64 c] w fun e w' => e = .returned (.int .u64 (bits .or .u64 (bits .andNot .u64 0 4611686016279904256) (c * 2147483648))) ∧ w = w' := by
  go_enter Ybad.func5, Ybad.ntmps5
  go_wp2
  go_ret
  exact ⟨rfl, rfl⟩

theorem bits_eq (op : BinOp) (x y : Int) : bits op .u64 x y = (((match op with
    | .and => BitVec.ofInt 64 x &&& BitVec.ofInt 64 y
    | .or => BitVec.ofInt 64 x ||| BitVec.ofInt 64 y
    | .xor => BitVec.ofInt 64 x ^^^ BitVec.ofInt 64 y
    | _ => BitVec.ofInt 64 x &&& ~~~BitVec.ofInt 64 y) : BitVec 64).toNat : Int) := by
  have h : ∀ v : BitVec 64, IntKind.u64.wrap (v.toNat : Int) = (v.toNat : Int) := fun v => by
    rw [IntKind.wrap_u64]
    have := v.isLt
    exact Int.emod_eq_of_lt (by omega) (by omega)
  exact h _

theorem ofInt_toNat (v : BitVec 64) : BitVec.ofInt 64 (v.toNat : Int) = v := by
  rw [BitVec.ofInt_natCast, BitVec.ofNat_toNat, BitVec.setWidth_eq]

/-- Release's mark; the mask of the running count. -/
abbrev CLv : BitVec 64 := BitVec.ofInt 64 9223372036854775808
abbrev MKv : BitVec 64 := BitVec.ofInt 64 2147483647

theorem or_and_same (x c : BitVec 64) : (x ||| c) &&& c = c := by
  ext i hi
  simp only [BitVec.getElem_and, BitVec.getElem_or]
  cases x[i] <;> cases c[i] <;> rfl
theorem or_andNot (x c : BitVec 64) : (x ||| c) &&& ~~~c = x &&& ~~~c := by
  ext i hi
  simp only [BitVec.getElem_and, BitVec.getElem_or, BitVec.getElem_not]
  cases x[i] <;> cases c[i] <;> rfl
theorem join_and (A r M : BitVec 64) (C : BitVec 64) (hA : A &&& M = 0#64) (hC : C &&& M = 0#64) : ((A ||| (r &&& M)) ||| C) &&& M = r &&& M := by
  ext i hi
  have a := congrArg (fun v : BitVec 64 => v[i]) hA
  have c := congrArg (fun v : BitVec 64 => v[i]) hC
  simp only [BitVec.getElem_and, BitVec.getElem_or, BitVec.getElem_zero] at *
  cases hM : M[i] <;> cases hx : A[i] <;> cases hy : C[i] <;> simp_all
theorem join_and0 (A r M C : BitVec 64) (hA : A &&& C = 0#64) (hM : M &&& C = 0#64) : (A ||| (r &&& M)) &&& C = 0#64 := by
  ext i hi
  have a := congrArg (fun v : BitVec 64 => v[i]) hA
  have m := congrArg (fun v : BitVec 64 => v[i]) hM
  simp only [BitVec.getElem_and, BitVec.getElem_or, BitVec.getElem_zero] at *
  cases hc : C[i] <;> cases hx : A[i] <;> cases hy : M[i] <;> simp_all

/-- The capacity's part of the state word. -/
def capBits (c : Int) : Int := bits .or .u64 (bits .andNot .u64 0 4611686016279904256) (c * 2147483648)

theorem capBits_v (c : Int) (h0 : 1 ≤ c) (h1 : c ≤ 2147483647) : ∃ k : Nat, k ≤ 2147483647 ∧ BitVec.ofInt 64 (capBits c) = BitVec.ofNat 64 (k * 2147483648) := by
  obtain ⟨k, rfl⟩ := Int.eq_ofNat_of_zero_le (show 0 ≤ c by omega)
  refine ⟨k, by omega, ?_⟩
  unfold capBits
  rw [bits_eq .or, ofInt_toNat, bits_eq .andNot, ofInt_toNat]
  simp only
  have e1 : BitVec.ofInt 64 0 &&& ~~~BitVec.ofInt 64 4611686016279904256 = 0#64 := by decide
  have e2 : BitVec.ofInt 64 ((k : Int) * 2147483648) = BitVec.ofNat 64 (k * 2147483648) := by
    rw [show ((k : Int) * 2147483648) = ((k * 2147483648 : Nat) : Int) by omega, BitVec.ofInt_natCast]
  rw [e1, e2, BitVec.zero_or]

theorem cap_mask (k : Nat) (hk : k ≤ 2147483647) : BitVec.ofNat 64 (k * 2147483648) &&& MKv = 0#64 := by
  apply BitVec.eq_of_toNat_eq
  rw [BitVec.toNat_and, BitVec.toNat_ofNat, Nat.mod_eq_of_lt (by omega), show MKv.toNat = 2 ^ 31 - 1 by decide, Nat.and_two_pow_sub_one_eq_mod]
  simp
theorem cap_closed (k : Nat) (hk : k ≤ 2147483647) : BitVec.ofNat 64 (k * 2147483648) &&& CLv = 0#64 := by
  apply BitVec.eq_of_toNat_eq
  rw [BitVec.toNat_and, BitVec.toNat_ofNat, Nat.mod_eq_of_lt (by omega), show CLv.toNat = 2 ^ 63 by decide]
  apply Nat.eq_of_testBit_eq
  intro i
  rw [Nat.testBit_and, Nat.testBit_two_pow]
  by_cases e : 63 = i
  · subst e
    rw [Nat.testBit_lt_two_pow (by omega)]
    simp
  · simp [e]

/-- The state word of an open pool. -/
def word (c r : Int) : Int := bits .or .u64 (capBits c) (bits .and .u64 r 2147483647)

theorem word_open (c r : Int) (h0 : 1 ≤ c) (h1 : c ≤ 2147483647) : (bits .and .u64 (word c r) 9223372036854775808 != 0) = false := by
  obtain ⟨k, hk, e⟩ := capBits_v c h0 h1
  unfold word
  rw [bits_eq .and, bits_eq .or, ofInt_toNat, bits_eq .and, ofInt_toNat]
  simp only [e]
  rw [join_and0 _ _ _ _ (cap_closed k hk) (by decide)]
  rfl
theorem or_closed (x : Int) : (bits .and .u64 (bits .or .u64 x 9223372036854775808) 9223372036854775808 != 0) = true := by
  rw [bits_eq .and, bits_eq .or, ofInt_toNat]
  simp only
  rw [or_and_same]
  decide
theorem or_rest (x : Int) : bits .andNot .u64 (bits .or .u64 x 9223372036854775808) 9223372036854775808 = bits .andNot .u64 x 9223372036854775808 := by
  rw [bits_eq .andNot, bits_eq .or, ofInt_toNat, bits_eq .andNot]
  simp only
  rw [or_andNot]
theorem word_running (c r : Int) (h0 : 1 ≤ c) (h1 : c ≤ 2147483647) : bits .and .u64 (bits .or .u64 (word c r) 9223372036854775808) 2147483647 = bits .and .u64 r 2147483647 := by
  obtain ⟨k, hk, e⟩ := capBits_v c h0 h1
  unfold word
  rw [bits_eq .and, bits_eq .or, ofInt_toNat, bits_eq .or, ofInt_toNat, bits_eq .and, ofInt_toNat]
  simp only [e]
  rw [join_and _ _ _ _ (cap_mask k hk) (by decide)]
theorem mask_bd (r : Int) : 0 ≤ bits .and .u64 r 2147483647 ∧ bits .and .u64 r 2147483647 ≤ 2147483647 := by
  rw [bits_eq .and]
  simp only
  rw [BitVec.toNat_and]
  have := Nat.and_le_right (n := (BitVec.ofInt 64 r).toNat) (m := (BitVec.ofInt 64 2147483647).toNat)
  have e : (BitVec.ofInt 64 2147483647).toNat = 2147483647 := by decide
  omega
end Go.Proofs.YbulkijmDoor
