/-
  THE PROOF OF 'Rows.LawS0473BScriptSaid'.
-/
import Derived.Test.YbulkitsRows
import Derived.Test.YbulkitsLaw
import Derived.WalkKit
import Derived.ProofKit
import Derived.OpenShut
import Derived.ShutString
import Derived.ChangeOld
import Derived.Below
import Derived.Deep.Slices
import Derived.Lib.SmallJoins
namespace Go.Proofs.Ybulkits.lawS0473BScript
open Go.ChangeShapes Go.WideShapes Go.ChangeAt Go.RowKit Go.Deep Go.Joins
set_option linter.unusedVariables false

theorem own : ownKnob Yba.prog.godebug = none := by kernel_rfl
theorem laidOut : laidOutB Yba.prog = true := by kernel_rfl
theorem cells28 : Yba.prog.cellsOf 28 = 2 := by kernel_rfl
theorem cells5 : Yba.prog.cellsOf 5 = 1 := by kernel_rfl

/-- One step as it lies at an address. -/
def StepAt (w : World) (a : Addr) (x : Int × Int) : Prop :=
  w.cell? a = some (.int .u8 x.1) ∧ w.cell? (a.add 1) = some (.int .u8 x.2) ∧ (Lit.int .u8 x.1).wf = true ∧ (Lit.int .u8 x.2).wf = true

theorem step_of {H : Type} {enc : TypeId × Value → H} {w : World} {base : Nat} {spare : Nat → Bool} {held : Bool} {n : Nat} {a : Addr} {cs : List Value} {y : DataW H × List MemPlace}
    (hc : w.cells? base a 2 = some cs) (h : DataW.trod enc Yba.prog w base spare held n 28 cs = some y) : ∃ x, StepAt w a x := by
  obtain ⟨_, hlen, hcell⟩ := World.cells?_some hc
  obtain ⟨y0, y1, m, _, _, t0, t1⟩ := trod_struct2 Yba.underlying28 h
  match cs, hlen with
  | [v0, v1], _ =>
  simp only [cells5, List.drop_zero, List.drop_succ_cons, List.take_succ_cons, List.take_zero] at t0 t1
  obtain ⟨b0, e0, _, w0⟩ := DataW.trod_int Yba.underlying5 t0
  obtain ⟨b1, e1, _, w1⟩ := DataW.trod_int Yba.underlying5 t1
  simp only [List.cons.injEq, and_true] at e0 e1
  subst e0 e1
  have c0 := hcell 0 (by omega)
  have c1 := hcell 1 (by omega)
  exact ⟨(b0, b1), by simpa [Addr.add] using c0, by simpa using c1, w0, w1⟩

/-- What the walk is told of the slice that came in. -/
def IsSteps (w : World) (a : Option Addr) (len cap : Nat) : Prop :=
  (a = none ∧ len = 0 ∧ cap = 0) ∨ ∃ (x : Addr) (Z : Nat → Int × Int), a = some x ∧ len ≤ cap ∧ cap ≤ maxLen ∧ ∀ i, i < cap → StepAt w (x.add (i * 2)) (Z i)

theorem walk (a0 : Option Addr) (len0 cap0 : Nat) (w : World) (w0 : IsSteps w a0 len0 cap0) :
    Calls Yba.prog 3 #[.slice a0 len0 cap0] w fun e w' => e = .returned (.bool true) ∧ Below w.heap.size w w' := by
  have empty : ∀ (sa : Option Addr) (c : Nat), Calls Yba.prog 3 #[.slice sa 0 c] w fun e w' => e = .returned (.bool true) ∧ Below w.heap.size w w' := fun sa c =>
    law3 sa 0 0 c [] ⟨fun i x h => by simp at h, by simp⟩ (fun h => by simp at h) (by simp)
  rcases w0 with ⟨rfl, rfl, rfl⟩ | ⟨x, Z, rfl, hl, hm, hcell⟩
  · exact empty none 0
  · by_cases h0 : len0 = 0
    · subst h0
      exact empty _ cap0
    · by_cases h1 : 1024 < len0
      · exact law_long _ len0 cap0 w h1 (by omega)
      · obtain ⟨b, off, spot⟩ := x
        have hc := (hcell 0 (by omega)).1
        have hspot : spot = none := by simpa [Addr.add] using World.cell?_spot hc
        subst hspot
        have hb : b < w.heap.size := by
          have := World.block_lt_of_cell? w _ hc
          simpa [Addr.add] using this
        have ha : ∀ i, (⟨b, off, none⟩ : Addr).add (i * 2) = ⟨b, off + i * 2, none⟩ := fun i => by
          unfold Addr.add
          by_cases e : i * 2 = 0
          · rw [if_pos e, e]
            rfl
          · rw [if_neg e]
        have hS : ∀ i, i < cap0 → StepAt w ⟨b, off + i * 2, none⟩ (Z i) := fun i hi => by rw [← ha]; exact hcell i hi
        have hxl : ((List.range len0).map fun i => ((Z i).1.toNat, (Z i).2.toNat)).length = len0 := by simp
        have hget : ∀ (i : Nat) (x : Nat × Nat), ((List.range len0).map fun i => ((Z i).1.toNat, (Z i).2.toNat))[i]? = some x → i < len0 ∧ x = ((Z i).1.toNat, (Z i).2.toNat) := fun i x hx => by
          have hi : i < len0 := by have := (List.getElem?_eq_some_iff.1 hx).1; simpa using this
          refine ⟨hi, ?_⟩
          rw [List.getElem?_map, List.getElem?_range hi] at hx
          exact (Option.some.inj hx).symm
        have := law3 (w := w) (some ⟨b, off, none⟩) b off cap0 ((List.range len0).map fun i => ((Z i).1.toNat, (Z i).2.toNat)) ⟨fun i x hx => ?_, fun x hx => ?_⟩ (fun _ => ⟨rfl, hb⟩) (by rw [hxl]; omega)
        · rw [hxl] at this
          exact this
        · obtain ⟨hi, rfl⟩ := hget i x hx
          obtain ⟨c0, c1, w0, w1⟩ := hS i (by omega)
          have b0 := bounds_u8 w0
          have b1 := bounds_u8 w1
          refine ⟨?_, ?_⟩
          · rw [c0]; simp only; rw [Int.toNat_of_nonneg b0.1]
          · rw [Int.toNat_of_nonneg b1.1]; simpa [Addr.add] using c1
        · obtain ⟨i, hx'⟩ := List.mem_iff_getElem?.1 hx
          obtain ⟨hi, rfl⟩ := hget i x hx'
          obtain ⟨_, _, w0, w1⟩ := hS i (by omega)
          have b0 := bounds_u8 w0
          have b1 := bounds_u8 w1
          exact ⟨by simp only; omega, by simp only; omega⟩

set_option maxRecDepth 100000 in
theorem lifted (os : Os) (started : os.Started) (H : Type) (enc : TypeId × Value → H) :
    ReturnsInHanded {} Yba.checked os 3 .any (Rows.lawS0473BScriptSpec.pre6 enc Yba.prog Yba.f3 Rows.lawS0473BScriptRow.domain false) (Rows.lawS0473BScriptSpec.post enc Yba.prog Yba.f3 false true false false) := by
  refine returnsInHanded_of_change (C := Yba.checked) own started (by kernel_rfl) Yba.func3
    (ChangeSpec.witness6 (enc := enc) (C := Yba.checked) false ⟨#[], #[.slice none 0 0], []⟩ 8 (by kernel_rfl) (by kernel_rfl) (by kernel_rfl) (by kernel_rfl)) ?_
  intro W base args ds gs before hval0 hW hcnd _
  have hval : ∀ (j : Nat) t v, Yba.f3.params[j]? = some t → args[j]? = some v → Value.okWide Yba.prog W .any base t v := hval0
  have hW' := hW
  obtain ⟨p, q, hA0, hV, rfl, hfz, hnd⟩ := hW
  have hA : DataW.TrodAll enc Yba.prog W 0 (fun _ => true) true Yba.f3.params.toList args.toList ds p := hA0
  rw [Yba.params3] at hA hval
  obtain ⟨v0, vs0, d0, ds0, p0, q0, hargs, rfl, rfl, h0, r0⟩ := trodAll_cons hA
  obtain ⟨rfl, rfl, rfl⟩ := trodAll_nil r0
  obtain rfl : args = #[v0] := by cases args; simp_all
  obtain ⟨rfl, rfl⟩ := trodVars_none hV
  obtain ⟨a0, len0, cap0, rfl⟩ := okWide_slice Yba.underlying22 (hval 0 22 v0 rfl rfl)
  have k0 := h0
  have lt0 : ∀ x ∈ p0, x.block < W.heap.size := by obtain ⟨m, hm⟩ := k0; exact DataW.trod_lt m _ _ _ hm
  have w0 : IsSteps W a0 len0 cap0 := by
    obtain ⟨fuel, hf⟩ := h0
    rcases open_slice Yba.underlying22 hf with ⟨hcs, _⟩ | ⟨x, l, c, m, n, D, Pl, hcs, _, hl, hm, hmm, _, hcell⟩
    · simp [Value.cells] at hcs
      obtain ⟨rfl, rfl, rfl⟩ := hcs
      exact .inl ⟨rfl, rfl, rfl⟩
    · simp [Value.cells] at hcs
      obtain ⟨rfl, rfl, rfl⟩ := hcs
      simp only [if_true] at hmm
      subst hmm
      rw [cells28] at hcell
      obtain ⟨Z, hZ⟩ := choose_lt (α := Int × Int) (p := fun i z => StepAt W (x.add (i * 2)) z) (fun i hi => by
        obtain ⟨cs', h1, h2⟩ := hcell i hi
        exact step_of h1 h2)
      exact .inr ⟨_, Z, rfl, hl, hm, hZ⟩
  clear hA0 hval0
  refine (walk a0 len0 cap0 W w0).mono fun e W' ⟨he, bel⟩ => ?_
  subst he
  exact ⟨_, rfl, _, _, _, [], _, [], hW', trodAll_mk1 (shut_bool Yba.underlying4 _), (trodAll_cons_mk (Below.trod laidOut (by kernel_rfl) (of_decide_eq_true (by kernel_rfl)) k0 bel lt0) trodAll_mk0), rfl, bel.frame _, fun h => by cases h⟩

theorem over : Rows.lawS0473BScriptRow.holds Yba.pinned (OpenSpec.ofChange Rows.lawS0473BScriptSpec) :=
  OpenClaim.holds_of_wide 3 Yba.f3 rfl rfl rfl rfl rfl rfl rfl ⟨rfl, rfl, rfl, rfl, rfl⟩ rfl rfl rfl rfl rfl (by kernel_rfl) Yba.func3 (by kernel_rfl)
    (of_decide_eq_true (by kernel_rfl)) (by unfold Func.isWrapper; first | (rw [if_pos (by decide +kernel)]; kernel_rfl) | (rw [if_neg (by decide +kernel)]; exact ⟨rfl, rfl⟩))
    (fun os started H enc _ => lifted os started H enc)

/-- THE STATEMENT -/
theorem proved : Rows.LawS0473BScriptSaid :=
  over
end Go.Proofs.Ybulkits.lawS0473BScript
