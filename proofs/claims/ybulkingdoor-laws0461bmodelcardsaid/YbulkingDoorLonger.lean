/-
  The last Range of an owned row made longer: three cells written.
-/
import Derived.Test.YbulkingDoorEq
namespace Go.Proofs.YbulkingDoor
set_option linter.unusedVariables false
variable {a4 a6 : Addr}

theorem flat_len (M : List (Bool × Nat × Nat)) : (M.flatMap (enc3 a4 a6)).length = M.length * 6 := by
  induction M with
  | nil => rfl
  | cons x r ih => rw [List.flatMap_cons, List.length_append, ih]; simp [enc3]; omega

/-- The world behind the three stores. -/
abbrev put3w (wr : World) (a4 a6 : Addr) (gu o : Nat) (v : Bool) (re : Nat) : World :=
  ((wr.setCell ⟨gu, o + 3, none⟩ (.int .u64 (hiOf v))).setCell ⟨gu, o + 4, none⟩ (.int .u64 (loOf v re))).setCell ⟨gu, o + 5, none⟩ (.pointer (hnd a4 a6 (hdOf v)))

theorem set6 (l : List Value) (o : Nat) (h : l.length = o) (a b c d e f x y z : Value) : (((l ++ [a, b, c, d, e, f]).set (o + 3) x).set (o + 4) y).set (o + 5) z = l ++ [a, b, c, x, y, z] := by
  subst h
  simp

theorem own_longer {wr : World} {base gu cq : Nat} {M : List (Bool × Nat × Nat)} {lv : Bool} {lo hi' re : Nat} (hg : base ≤ gu) {cur : Array Value} (hcu : wr.heap[gu]? = some (.cells cur 37 (0, 0))) (hcq : M.length + 1 ≤ cq) (hmq : cq ≤ maxLen) (hcz : cur.size = cq * 6)
    (htq : cur.toList.take ((M ++ [(lv, lo, hi')]).length * 6) = (M ++ [(lv, lo, hi')]).flatMap (enc3 a4 a6)) :
    (put3w wr a4 a6 gu (M.length * 6) lv re).ownsRow base 37 6 (.slice (some ⟨gu, 0, none⟩) (M.length + 1) cq) (M ++ [(lv, lo, re)]).length ((M ++ [(lv, lo, re)]).flatMap (enc3 a4 a6)) := by
  refine ⟨flat_len _, .inr ⟨gu, cq, _, by simp, hg, heap_set _ _ (heap_set _ _ (heap_set _ _ hcu)), by simpa using hcq, hmq, by simpa using hcz, ?_⟩⟩
  simp only [Array.toList_setIfInBounds, List.length_append, List.length_singleton] at htq ⊢
  rw [List.take_set, List.take_set, List.take_set, htq]
  simp only [List.flatMap_append, List.flatMap_cons, List.flatMap_nil, List.append_nil]
  exact set6 _ _ (flat_len M) _ _ _ _ _ _ _ _ _
end Go.Proofs.YbulkingDoor
