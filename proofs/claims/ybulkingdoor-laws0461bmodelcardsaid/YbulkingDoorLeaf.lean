/-
  net/netip's handles z0, z4, z6noz; a world later than another; equality of handles and addresses.
-/
import Derived.Test.YbulkingDoorChecked
import Derived.WalkKit
import Derived.ProofKit
import Derived.Laws.StructEq
import Derived.LaidEql
import Derived.Sort.Grow
import Derived.Deep.Draws
namespace Go.Proofs.YbulkingDoor
open Go.RowKit
set_option linter.unusedVariables false

/-- What lies in w lies so in w'; w' has drawn no less. -/
structure Later (w w' : World) : Prop where
  below : Below w.heap.size w w'
  drawn : w.drawn ≤ w'.drawn

theorem Later.refl (w : World) : Later w w := ⟨Below.refl _ _, Nat.le_refl _⟩
theorem Later.trans {w w1 w2 : World} (h : Later w w1) (k : Later w1 w2) : Later w w2 :=
  ⟨⟨k.below.os.trans h.below.os, k.below.tape.trans h.below.tape, k.below.output.trans h.below.output, Nat.le_trans h.below.size k.below.size, fun i hi => (k.below.block i (Nat.lt_of_lt_of_le hi h.below.size)).trans (h.below.block i hi)⟩, Nat.le_trans h.drawn k.drawn⟩
theorem Later.alloc {w w1 : World} (h : Later w w1) (o : Obj) : Later w (w1.alloc o) := ⟨h.below.alloc h.below.size o, h.drawn⟩
theorem Later.drew {w w1 : World} (h : Later w w1) : Later w w1.drew := ⟨h.below.drew, Nat.le_trans h.drawn (Nat.le_succ _)⟩
theorem Later.drewN {w w1 : World} (h : Later w w1) (n : Nat) : Later w (w1.drewN n) := ⟨⟨h.below.os, h.below.tape, h.below.output, h.below.size, h.below.block⟩, Nat.le_trans h.drawn (Nat.le_add_right _ _)⟩
theorem Later.setCell {w w1 : World} (h : Later w w1) (a : Addr) (v : Value) (ha : w.heap.size ≤ a.block) : Later w (w1.setCell a v) := ⟨h.below.setCell ha v, h.drawn⟩
theorem Later.cell {w w1 : World} (h : Later w w1) {a : Addr} {v : Value} (e : w.cell? a = some v) : w1.cell? a = some v := by
  have hb : a.block < w.heap.size := by
    rcases Nat.lt_or_ge a.block w.heap.size with hl | hl
    · exact hl
    · simp [World.cell?, Array.getElem?_eq_none hl] at e
  rw [h.below.cell hb]; exact e
theorem Later.blk {w w1 : World} (h : Later w w1) {b : Nat} {o : Obj} (e : w.heap[b]? = some o) : w1.heap[b]? = some o := by
  rw [h.below.block b (Array.getElem?_eq_some_iff.1 e).1]; exact e
theorem Later.grows {w w1 : World} (h : Later w w1) : ∃ q os, w1 = Sort.grow (w.drewN q) os := by
  obtain ⟨⟨h1, h2, h3, h4, h5⟩, h6⟩ := h
  refine ⟨w1.drawn - w.drawn, w1.heap.extract w.heap.size w1.heap.size, ?_⟩
  obtain ⟨hp, tp, dr, os, op⟩ := w1
  simp only at h1 h2 h3 h4 h5 h6
  subst h1 h2 h3
  simp only [Sort.grow, World.drewN]
  congr 1
  · apply Array.ext_getElem?
    intro i
    rcases Nat.lt_or_ge i w.heap.size with hi | hi
    · rw [Array.getElem?_append_left hi]; exact h5 i hi
    · rw [Array.getElem?_append_right hi, Array.getElem?_extract]
      by_cases h : i < hp.size
      · rw [if_pos (by omega)]; congr 1; omega
      · rw [if_neg (by omega), Array.getElem?_eq_none (by omega)]
  · omega

/-- The package's three handles. -/
structure Zs (w : World) (a4 a6 : Addr) : Prop where
  g0 : w.cell? ⟨0, 0, none⟩ = some (.pointer none)
  g1 : w.cell? ⟨1, 0, none⟩ = some (.pointer (some a4))
  g2 : w.cell? ⟨2, 0, none⟩ = some (.pointer (some a6))
  ne : a4 ≠ a6
  b4 : ∃ c t, w.heap[a4.block]? = some (.cells c t (0, 0))
  b6 : ∃ c t, w.heap[a6.block]? = some (.cells c t (0, 0))
  s0 : w.cell? (a6.add 0) = some (.bool true)
  s1 : w.cell? (a6.add 1) = some (.string ⟨#[]⟩)

theorem Zs.later {w w' : World} {a4 a6 : Addr} (h : Zs w a4 a6) (k : Later w w') : Zs w' a4 a6 :=
  ⟨k.cell h.g0, k.cell h.g1, k.cell h.g2, h.ne, let ⟨c, t, e⟩ := h.b4; ⟨c, t, k.blk e⟩, let ⟨c, t, e⟩ := h.b6; ⟨c, t, k.blk e⟩, k.cell h.s0, k.cell h.s1⟩

theorem Ybad.info102 : (Ybad.prog.info? 102).map (·.size) = some 2 := by kernel_rfl
theorem Ybad.stood33 : Ybad.prog.stoodInHeld 33 = false := by kernel_rfl
theorem Ybad.struct33 : Ybad.prog.underlying 33 = some (.struct (Ybad.prog.fieldsOf 33)) := by kernel_rfl

/-- Which handle: z0 (lt), z4 (eq), z6noz (gt). -/
abbrev Hd : Type := Ordering
def hnd (a4 a6 : Addr) : Hd → Option Addr
  | .lt => none
  | .eq => some a4
  | .gt => some a6

theorem eqPtr {w : World} {a4 a6 : Addr} (h : Zs w a4 a6) (i j : Hd) (d : Nat) : (Op.equalIn (d + 1) 31 (.pointer (hnd a4 a6 i)) (.pointer (hnd a4 a6 j))).run Ybad.prog w = .ok (decide (i = j)) w := by
  obtain ⟨k, hk, hs⟩ := Option.map_eq_some_iff.1 Ybad.info102
  obtain ⟨c4, t4, e4⟩ := h.b4
  obtain ⟨c6, t6, e6⟩ := h.b6
  have hne := h.ne
  have h1 := run_sameAddr_same (P := Ybad.prog) w a4
  have h2 := run_sameAddr_same (P := Ybad.prog) w a6
  have h3 := run_sameAddr_other (P := Ybad.prog) w hne e4 e6
  have h4 := run_sameAddr_other (P := Ybad.prog) w hne.symm e6 e4
  cases i <;> cases j <;> simp [hnd, Op.equalIn, run_underlying Ybad.underlying31, sizeOf, typeInfo, hk, hs, h1, h2, h3, h4]

theorem eqHnd {w : World} {a4 a6 : Addr} (h : Zs w a4 a6) (i j : Hd) (d : Nat) : (Op.equalIn (d + 2) 33 (.agg #[.pointer (hnd a4 a6 i)]) (.agg #[.pointer (hnd a4 a6 j)])).run Ybad.prog w = .ok (decide (i = j)) w := by
  have e := eqPtr h i j d
  have u31 := Ybad.underlying31
  have a31 := Ybad.isAgg31
  have z31 := Ybad.sizeOf31
  rw [run_equalIn_agg w (d + 1) 33 _ _ Ybad.struct33 Ybad.stood33]
  simp only [Program.fieldsOf, Ybad.underlying33]
  go_simp
  by_cases hij : i = j <;> simp [hij]

theorem eqH0 {w : World} {a4 a6 : Addr} (h : Zs w a4 a6) (i : Hd) : (Op.equalIn 9999 31 (.pointer (hnd a4 a6 i)) (.pointer none)).run Ybad.prog w = .ok (decide (i = .lt)) w := eqPtr h i .lt 9998
theorem eqH4 {w : World} {a4 a6 : Addr} (h : Zs w a4 a6) (i : Hd) : (Op.equalIn 9999 31 (.pointer (hnd a4 a6 i)) (.pointer (some a4))).run Ybad.prog w = .ok (decide (i = .eq)) w := eqPtr h i .eq 9998
end Go.Proofs.YbulkingDoor
