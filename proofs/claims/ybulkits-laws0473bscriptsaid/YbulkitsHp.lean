/-
  The heap of links in memory; its five methods.
-/
import Derived.Test.YbulkitsMeth
import Derived.Test.YbulkitsOrd
import Derived.Deep.QuietTactic
import Derived.BigQuiet
import Derived.Deep.DeepCutAuto
import Derived.Deep.RegionHeld3
import Derived.Deep.AppendLies
import Derived.RegionTactic
import Derived.Below
import Derived.Handy
namespace Go.Proofs.Ybulkits
open Go.RowKit
set_option linter.unusedVariables false
set_option linter.unusedSimpArgs false

def ptr (x : Nat) : Value := .pointer (some ⟨x, 0, none⟩)

variable {w : World}

set_option maxRecDepth 100000 in
theorem len38 (p : Option Addr) (n c : Nat) (w : World) : Calls Yba.prog 38 #[.slice p n c] w fun e w' => e = .returned (.int .i64 n) ∧ w' = w := by
  go_enter Yba.func38, Yba.ntmps38
  go_wp2
  go_ret
  exact ⟨rfl, rfl⟩

set_option maxRecDepth 100000 in
set_option maxHeartbeats 1600000 in
theorem less39 (R i j x y g o len c g' o' len' c' n cap k k' : Nat) (hi : i < n) (hj : j < n) (hx : w.cell? ⟨R, i, none⟩ = some (.pointer (some ⟨x, 0, none⟩))) (hy : w.cell? ⟨R, j, none⟩ = some (.pointer (some ⟨y, 0, none⟩)))
    (qx : w.cell? ⟨x, 2, none⟩ = some (.slice (some ⟨g, o, none⟩) len c)) (qy : w.cell? ⟨y, 2, none⟩ = some (.slice (some ⟨g', o', none⟩) len' c')) (hl : 0 < len) (hl' : 0 < len')
    (kx : w.cell? ⟨g, o + 2, none⟩ = some (.int .i64 k)) (ky : w.cell? ⟨g', o' + 2, none⟩ = some (.int .i64 k')) :
    Calls Yba.prog 39 #[.slice (some ⟨R, 0, none⟩) n cap, .int .i64 i, .int .i64 j] w fun e w' => e = .returned (.bool (decide (k < k'))) ∧ ∃ m, w' = w.drewN m := by
  have hi1 : (0 : Int) ≤ (i : Int) := by omega
  have hi2 : (i : Int) < (n : Int) := by omega
  have hj1 : (0 : Int) ≤ (j : Int) := by omega
  have hj2 : (j : Int) < (n : Int) := by omega
  have hl1 : (0 : Int) < (len : Int) := by omega
  have hl2 : (0 : Int) < (len' : Int) := by omega
  go_enter Yba.func39, Yba.ntmps39
  go_wp2_with fail
  go_quiet (fail)
  go_wp2
  go_ret
  exact ⟨by simp, _, rfl⟩

set_option maxRecDepth 100000 in
set_option maxHeartbeats 1600000 in
theorem swap40 (R i j x y n cap : Nat) (hi : i < n) (hj : j < n) (hx : w.cell? ⟨R, i, none⟩ = some (.pointer (some ⟨x, 0, none⟩))) (hy : w.cell? ⟨R, j, none⟩ = some (.pointer (some ⟨y, 0, none⟩))) (fR : ∀ o, w.frozen? ⟨R, o, none⟩ = false) (fx : w.frozen? ⟨x, 4, none⟩ = false) (fy : w.frozen? ⟨y, 4, none⟩ = false) (vx vy : Value)
    (cx : w.cell? ⟨x, 4, none⟩ = some vx) (cy : w.cell? ⟨y, 4, none⟩ = some vy) (hxR : x ≠ R) (hyR : y ≠ R) (hxy : x ≠ y) (hij : i ≠ j) :
    Calls Yba.prog 40 #[.slice (some ⟨R, 0, none⟩) n cap, .int .i64 i, .int .i64 j] w fun e w' => e = .returned (.tuple #[]) ∧ ∃ m, w' = (((((w.drewN m).setCell ⟨R, i, none⟩ (.pointer (some ⟨y, 0, none⟩))).setCell ⟨R, j, none⟩ (.pointer (some ⟨x, 0, none⟩))).setCell ⟨y, 4, none⟩ (.int .i64 i)).setCell ⟨x, 4, none⟩ (.int .i64 j)) := by
  have hi1 : (0 : Int) ≤ (i : Int) := by omega
  have hi2 : (i : Int) < (n : Int) := by omega
  have hj1 : (0 : Int) ≤ (j : Int) := by omega
  have hj2 : (j : Int) < (n : Int) := by omega
  go_enter Yba.func40, Yba.ntmps40
  go_wp2_with fail
  go_region
  go_wp2_with fail
  go_end0
  exact ⟨rfl, 1, rfl⟩

set_option maxRecDepth 100000 in
set_option maxHeartbeats 1600000 in
theorem pop41 (B R x n cap : Nat) (hB : w.cell? ⟨B, 3, none⟩ = some (.slice (some ⟨R, 0, none⟩) (n + 1) cap)) (hx : w.cell? ⟨R, n, none⟩ = some (.pointer (some ⟨x, 0, none⟩))) (hn : n + 1 ≤ cap) (hc : n ≤ 100) (fR : ∀ o, w.frozen? ⟨R, o, none⟩ = false) (fB : w.frozen? ⟨B, 3, none⟩ = false) (hBR : B ≠ R) :
    Calls Yba.prog 41 #[.pointer (some ⟨B, 3, none⟩)] w fun e w' => e = .returned (.iface 50 (.pointer (some ⟨x, 0, none⟩))) ∧ ∃ m, w' = ((w.drewN m).setCell ⟨R, n, none⟩ (.pointer none)).setCell ⟨B, 3, none⟩ (.slice (some ⟨R, 0, none⟩) n cap) := by
  have hn0 : (0 : Int) ≤ (n : Int) := by omega
  have hn1 : (n : Int) < (n : Int) + 1 := by omega
  have hn2 : IntKind.i64.wrap (n : Int) = (n : Int) := by rw [IntKind.wrap_i64]; omega
  have hn3 : (n : Int) ≤ (cap : Int) := by omega
  go_enter Yba.func41, Yba.ntmps41
  go_wp2_with fail
  go_ret
  exact ⟨rfl, 0, rfl⟩

/-! ### the heap as a whole -/
/-- The heap of links: the net's block B (its other three cells n0, n1, n2), the row, the links A with their places. -/
structure Hp (w : World) (base B : Nat) (n0 n1 n2 rdy : Value) (A : List Nat) : Prop where
  net : w.heap[B]? = some (.cells #[n0, n1, n2, rdy] 49 (0, 0))
  hB : base ≤ B
  row : w.ownsRow base 50 1 rdy A.length (A.map ptr)
  link : ∀ i x, A[i]? = some x → base ≤ x ∧ ∃ a b q h, w.heap[x]? = some (.cells #[a, b, q, h, .int .i64 (i : Nat)] 56 (0, 0))
  few : A.length ≤ 9

/-- What a step of the heap leaves alone. -/
structure To (base : Nat) (w w' : World) (B : Nat) (rdy : Value) (A : List Nat) : Prop where
  below : Below base w w'
  size : w.heap.size ≤ w'.heap.size
  same : ∀ b, b ≠ B → (∀ c, w.heap[b]? ≠ some (.cells c 50 (0, 0))) → b ∉ A → b < w.heap.size → w'.heap[b]? = w.heap[b]?
  link : ∀ x ∈ A, ∀ a b q h (i : Int), w.heap[x]? = some (.cells #[a, b, q, h, .int .i64 i] 56 (0, 0)) → ∃ i' : Int, w'.heap[x]? = some (.cells #[a, b, q, h, .int .i64 i'] 56 (0, 0))

/-- The key of a link: the number of its first message. -/
def KeyAt (w : World) (x k : Nat) : Prop := ∃ a b g o len cap h, ∃ i : Int, ∃ cur, w.heap[x]? = some (.cells #[a, b, .slice (some ⟨g, o, none⟩) len cap, h, .int .i64 i] 56 (0, 0)) ∧ 0 < len ∧ w.heap[g]? = some (.cells cur 58 (0, 0)) ∧ cur[o + 2]? = some (.int .i64 (k : Nat))

theorem ob {w : World} {b : Nat} {c : Array Value} {t : TypeId} (h : w.heap[b]? = some (.cells c t (0, 0))) (o : Nat) : w.cell? ⟨b, o, none⟩ = c[o]? ∧ w.frozen? ⟨b, o, none⟩ = false := by
  simp [World.cell?, World.frozen?, h]
theorem ne_tag {w : World} {b b' : Nat} {c c' : Array Value} {t t' : TypeId} (h : w.heap[b]? = some (.cells c t (0, 0))) (h' : w.heap[b']? = some (.cells c' t' (0, 0))) (ht : t ≠ t') : b ≠ b' := by
  rintro rfl
  rw [h] at h'
  simp at h'
  exact ht h'.2
theorem set_same {wx : World} {b : Nat} {cs : Array Value} {t : TypeId} (o : Nat) (v : Value) (h : wx.heap[b]? = some (.cells cs t (0, 0))) : (wx.setCell ⟨b, o, none⟩ v).heap[b]? = some (.cells (cs.setIfInBounds o v) t (0, 0)) := by
  simp only [World.setCell, Array.getElem?_modify, if_true, h]
  rfl
end Go.Proofs.Ybulkits
