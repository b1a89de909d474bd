/-
  The listed variables and the argument: what the row's condition gives the walk; a world that meets it.
-/
import Derived.Test.YbulkingDoorRows
import Derived.Test.YbulkingDoorLeaf
import Derived.WalkKit
import Derived.ProofKit
import Derived.LaidMore
import Derived.Lay
import Derived.LaidLaws
import Derived.LaidEql
import Derived.OpenShut
import Derived.OpenVars
import Derived.Stop.Joined
import Derived.Deep.Slices
import Derived.Lib.SmallJoins
namespace Go.Proofs.YbulkingDoor
open Go.ChangeShapes Go.WideShapes Go.ChangeAt Go.RowKit Go.Joins
set_option linter.unusedVariables false

theorem own : ownKnob Ybad.prog.godebug = none := by kernel_rfl
theorem Ybad.laidOut : laidOutB Ybad.prog = true := by kernel_rfl
/-- The listed variables' names, off the given row. -/
def Ybad.nz0 : String := Rows.lawS0461BModelRow.named.getD 2 ""
def Ybad.nz4 : String := Rows.lawS0461BModelRow.named.getD 1 ""
def Ybad.nz6 : String := Rows.lawS0461BModelRow.named.getD 0 ""
theorem Ybad.gz0 : Ybad.prog.globalNamed Ybad.nz0 = some 0 := by kernel_rfl
theorem Ybad.gz4 : Ybad.prog.globalNamed Ybad.nz4 = some 1 := by kernel_rfl
theorem Ybad.gz6 : Ybad.prog.globalNamed Ybad.nz6 = some 2 := by kernel_rfl
theorem Ybad.tz0 : (Ybad.prog.globals[0]?).map (·.type) = some 33 := by kernel_rfl
theorem Ybad.tz4 : (Ybad.prog.globals[1]?).map (·.type) = some 33 := by kernel_rfl
theorem Ybad.tz6 : (Ybad.prog.globals[2]?).map (·.type) = some 33 := by kernel_rfl
theorem Ybad.cells33 : Ybad.prog.cellsOf 33 = 1 := by kernel_rfl
theorem Ybad.cells31 : Ybad.prog.cellsOf 31 = 1 := by kernel_rfl
theorem Ybad.cells102 : Ybad.prog.cellsOf 102 = 2 := by kernel_rfl
theorem Ybad.cells4 : Ybad.prog.cellsOf 4 = 1 := by kernel_rfl
theorem Ybad.cells9 : Ybad.prog.cellsOf 9 = 1 := by kernel_rfl
theorem Ybad.cells5 : Ybad.prog.cellsOf 5 = 1 := by kernel_rfl
theorem Ybad.cells69 : Ybad.prog.cellsOf 69 = 4 := by kernel_rfl

abbrev laid3 : List (String × DataW Unit) := [(Ybad.nz4, Rows.laid_net_netip_z4), (Ybad.nz6, Rows.laid_net_netip_z6noz), (Ybad.nz0, Rows.laid_net_netip_z0)]

set_option maxRecDepth 100000 in
/-- A handle that is laid. -/
theorem handle_of {H : Type} {enc : TypeId × Value → H} {W : World} {base : Nat} {sp : Nat → Bool} {held : Bool} {fuel : Nat} {cs : List Value} {b : Bool} {p : List MemPlace}
    (h : DataW.trod enc Ybad.prog W base sp held fuel 33 cs = some (.agg [.ptr (.agg [.lit (.bool b), .lit (.string [])])], p)) :
    ∃ a : Addr, cs = [.pointer (some a)] ∧ W.cell? (a.add 0) = some (.bool b) ∧ W.cell? (a.add 1) = some (.string ⟨#[]⟩) ∧ MemPlace.cell a.block a.off ∈ p := by
  obtain ⟨y0, n, hx, hl, h0⟩ := trod_struct1 Ybad.underlying33 h
  rw [Ybad.cells33] at hl
  obtain ⟨c, rfl⟩ : ∃ c, cs = [c] := by
    match cs, hl with
    | [c], _ => exact ⟨c, rfl⟩
  simp only [Ybad.cells31, List.drop_zero, List.take_succ_cons, List.take_zero] at h0
  simp only [Prod.mk.injEq, DataW.agg.injEq, List.cons.injEq, and_true] at hx
  obtain ⟨y, q⟩ := y0
  obtain ⟨rfl, rfl⟩ := hx
  obtain ⟨f2, a, cs', q', hv, hcells, h2, rfl⟩ := ptr_of_trod Ybad.underlying31 h0
  rw [Ybad.cells102] at hcells ⊢
  obtain ⟨_, hlen, hcell⟩ := World.cells?_some hcells
  obtain ⟨z0, z1, m, hx, _, t0, t1⟩ := trod_struct2 Ybad.underlying102 h2
  match cs', hlen with
  | [v0, v1], _ =>
  simp only [Ybad.cells4, Ybad.cells9, List.drop_zero, List.drop_succ_cons, List.take_succ_cons, List.take_zero] at t0 t1
  obtain ⟨b0, e0, x0⟩ := DataW.trod_bool Ybad.underlying4 t0
  obtain ⟨b1, e1, x1, _⟩ := DataW.trod_string Ybad.underlying9 t1
  simp only [List.cons.injEq, and_true] at e0 e1
  subst e0 e1 x0 x1
  simp only [Prod.mk.injEq, DataW.agg.injEq, List.cons.injEq, DataW.lit.injEq, Lit.bool.injEq, Lit.string.injEq, and_true] at hx
  obtain ⟨⟨rfl, hs⟩, _⟩ := hx
  have hb1 : b1 = ⟨#[]⟩ := by
    obtain ⟨⟨l⟩⟩ := b1
    simp at hs
    subst hs
    rfl
  subst hb1
  exact ⟨a, hv, by simpa using hcell 0 (by omega), by simpa using hcell 1 (by omega), List.mem_append_left _ (MemPlace.mem_row.2 ⟨0, by omega, by simp⟩)⟩

set_option maxRecDepth 100000 in
theorem of_laid {W : World} (h : laidMetH Ybad.prog laid3 W) : ∃ a4 a6, Zs W a4 a6 := by
  rw [MakeChecks.laidMetH_plain _ _ _ (by kernel_rfl)] at h
  obtain ⟨ps, ⟨g1, t1, cs1, f1, p1, q1, hg1, ht1, hv1, hd1, ⟨g2, t2, cs2, f2, p2, q2, hg2, ht2, hv2, hd2, ⟨g0, t0, cs0, f0, p0, q0, hg0, ht0, hv0, hd0, hq, e0⟩, e2⟩, e1⟩, hnd, hrows⟩ := h
  obtain rfl := Option.some.inj (Ybad.gz0.symm.trans hg0)
  obtain rfl := Option.some.inj (Ybad.tz0.symm.trans ht0)
  obtain rfl := Option.some.inj (Ybad.gz4.symm.trans hg1)
  obtain rfl := Option.some.inj (Ybad.tz4.symm.trans ht1)
  obtain rfl := Option.some.inj (Ybad.gz6.symm.trans hg2)
  obtain rfl := Option.some.inj (Ybad.tz6.symm.trans ht2)
  subst e0 e2 e1
  obtain ⟨l0⟩ := cs0
  obtain ⟨l1⟩ := cs1
  obtain ⟨l2⟩ := cs2
  obtain ⟨a4, hl1, r0, r1, rm⟩ := handle_of hd1
  obtain ⟨a6, hl2, s0, s1, sm⟩ := handle_of hd2
  have hl0 : l0 = [.pointer none] := by
    obtain ⟨y0, n, hx, hl, h0⟩ := trod_struct1 Ybad.underlying33 hd0
    rw [Ybad.cells33] at hl
    obtain ⟨c, rfl⟩ : ∃ c, l0 = [c] := by
      match l0, hl with
      | [c], _ => exact ⟨c, rfl⟩
    simp only [Ybad.cells31, List.drop_zero, List.take_succ_cons, List.take_zero] at h0
    simp only [Rows.laid_net_netip_z0, Prod.mk.injEq, DataW.agg.injEq, List.cons.injEq, and_true] at hx
    obtain ⟨y, q⟩ := y0
    obtain ⟨rfl, rfl⟩ := hx
    cases n with
    | zero => simp [DataW.trod] at h0
    | succ n =>
      cases c <;> simp [DataW.trod, Ybad.underlying31] at h0
      rename_i o
      cases o with
      | none => rfl
      | some a =>
        simp only [Option.bind_eq_some_iff, Function.comp, Option.map_eq_some_iff, Prod.mk.injEq] at h0
        obtain ⟨_, _, _, _, h, _⟩ := h0
        cases h
  subst hl0
  simp only at hl1 hl2
  subst hl1 hl2
  refine ⟨a4, a6, ⟨by simpa using World.var?_cell hg0 hv0 0, by simpa using World.var?_cell hg1 hv1 0, by simpa using World.var?_cell hg2 hv2 0, ?_, (hrows a4.block a4.off ?_).1, (hrows a6.block a6.off ?_).1, s0, s1⟩⟩
  · rintro rfl
    rw [r0] at s0
    simp at s0
  · simp [rm]
  · simp [sm]

/-- A world that is laid by the data meets the condition. -/
theorem laid_met (os : Os) (args : Array Value) : laidMetH Ybad.prog laid3 ((World.laidAll Ybad.prog os laid3).forCall (fun _ _ => 0) ⟨#[], args, []⟩).memory := by
  rw [MakeChecks.laidMetH_plain _ _ _ (by kernel_rfl)]
  exact laidMet_laidAll _ (by kernel_rfl) (by kernel_rfl)

/-- One span as it lies at an address. -/
def SpanAt (w : World) (a : Addr) (x : Int × Int × Bool × Bool) : Prop :=
  w.cell? a = some (.int .u8 x.1) ∧ w.cell? (a.add 1) = some (.int .u8 x.2.1) ∧ w.cell? (a.add 2) = some (.bool x.2.2.1) ∧ w.cell? (a.add 3) = some (.bool x.2.2.2) ∧ (Lit.int .u8 x.1).wf = true ∧ (Lit.int .u8 x.2.1).wf = true

set_option maxRecDepth 100000 in
theorem span_of {H : Type} {enc : TypeId × Value → H} {w : World} {base : Nat} {spare : Nat → Bool} {held : Bool} {n : Nat} {a : Addr} {cs : List Value} {y : DataW H × List MemPlace}
    (hc : w.cells? base a 4 = some cs) (h : DataW.trod enc Ybad.prog w base spare held n 69 cs = some y) : ∃ x, SpanAt w a x := by
  obtain ⟨_, hlen, hcell⟩ := World.cells?_some hc
  obtain ⟨y0, y1, y2, y3, m, _, _, t0, t1, t2, t3⟩ := trod_struct4 Ybad.underlying69 h
  match cs, hlen with
  | [v0, v1, v2, v3], _ =>
  simp only [Ybad.cells4, Ybad.cells5, List.drop_zero, List.drop_succ_cons, List.take_succ_cons, List.take_zero] at t0 t1 t2 t3
  obtain ⟨b0, e0, _, w0⟩ := DataW.trod_int Ybad.underlying5 t0
  obtain ⟨b1, e1, _, w1⟩ := DataW.trod_int Ybad.underlying5 t1
  obtain ⟨b2, e2, _⟩ := DataW.trod_bool Ybad.underlying4 t2
  obtain ⟨b3, e3, _⟩ := DataW.trod_bool Ybad.underlying4 t3
  simp only [List.cons.injEq, and_true] at e0 e1 e2 e3
  subst e0 e1 e2 e3
  have c0 := hcell 0 (by omega)
  have c1 := hcell 1 (by omega)
  have c2 := hcell 2 (by omega)
  have c3 := hcell 3 (by omega)
  exact ⟨(b0, b1, b2, b3), by simpa [Addr.add] using c0, by simpa using c1, by simpa using c2, by simpa using c3, w0, w1⟩

/-- What the walk is told of the slice that came in. -/
def IsSpans (w : World) (a : Option Addr) (len cap : Nat) : Prop :=
  (a = none ∧ len = 0 ∧ cap = 0) ∨ ∃ (x : Addr) (Z : Nat → Int × Int × Bool × Bool), a = some x ∧ len ≤ cap ∧ cap ≤ maxLen ∧ ∀ i, i < cap → SpanAt w (x.add (i * 4)) (Z i)
end Go.Proofs.YbulkingDoor
