/-
  Compare and Next in the terms of the plain law's numbers.
-/
import Derived.Test.YbulkingDoorMerge
namespace Go.Proofs.YbulkingDoor
set_option linter.unusedVariables false

theorem cmp_key (u v : Bool) (a b : Nat) (ha : a ≤ 255) (hb : b ≤ 255) :
    cmpR (hiOf u) (loOf u a) (hdOf u) (hiOf v) (loOf v b) (hdOf v) = if fam u + a < fam v + b then -1 else if fam v + b < fam u + a then 1 else 0 := by
  cases u <;> cases v
  · simp [cmpR, hiOf, loOf, hdOf, bl, fam]
  · simp only [fam, Bool.false_eq_true, if_false, if_true]
    rw [if_pos (by omega)]
    simp [cmpR, hdOf, bl]
  · simp only [fam, Bool.false_eq_true, if_false, if_true]
    rw [if_neg (by omega), if_pos (by omega)]
    simp [cmpR, hdOf, bl]
  · simp [cmpR, hiOf, loOf, hdOf, bl, fam]

theorem next_key (u v : Bool) (a b : Nat) (ha : a ≤ 255) (hb : b ≤ 255) :
    (hiOf u = hiOf v ∧ loOf u a = loOf v b + 1 ∧ hdOf u = hdOf v) ↔ fam u + a = fam v + b + 1 := by
  cases u <;> cases v <;> simp [hiOf, loOf, hdOf, fam] <;> omega
end Go.Proofs.YbulkingDoor
