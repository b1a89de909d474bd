/-
  THE PROOF OF 'Rows.LawS0461BModelCardSaid'.
-/
import Derived.Test.YbulkingDoorRowP
import Derived.Test.YbulkingDoorLaw
import Derived.Test.YbulkingDoorTie
import Derived.Test.YbulkingDoorCards
import Derived.SevenTiedAt
import Derived.ChangeOld
import Derived.Below
namespace Go.Proofs.YbulkingDoor.lawS0461BModel
open Go.ChangeShapes Go.WideShapes Go.ChangeAt Go.RowKit Go.Deep Go.Joins
set_option linter.unusedVariables false

theorem walk (a0 : Option Addr) (len0 cap0 : Nat) (w : World) (a4 a6 : Addr) (hz : Zs w a4 a6) (w0 : IsSpans w a0 len0 cap0) :
    Calls Ybad.prog 3 #[.slice a0 len0 cap0] w fun e w' => e = .returned (.bool true) ∧ Below w.heap.size w w' := by
  have empty : ∀ (sa : Option Addr) (c : Nat), Calls Ybad.prog 3 #[.slice sa 0 c] w fun e w' => e = .returned (.bool true) ∧ Below w.heap.size w w' := fun sa c =>
    law_short sa 0 0 c [] hz ⟨fun i x h => by simp at h, by simp⟩ (by simp) (fun h => by simp at h)
  rcases w0 with ⟨rfl, rfl, rfl⟩ | ⟨x, Z, rfl, hl, hm, hcell⟩
  · exact empty none 0
  · by_cases h0 : len0 = 0
    · subst h0
      exact empty _ cap0
    · by_cases h1 : 1024 < len0
      · exact law_long _ len0 cap0 h1 (by omega) w
      · obtain ⟨b, off, spot⟩ := x
        have hc := (hcell 0 (by omega)).1
        have hspot : spot = none := by simpa [Addr.add] using World.cell?_spot hc
        subst hspot
        have hb : b < w.heap.size := by
          have := World.block_lt_of_cell? w _ hc
          simpa [Addr.add] using this
        have ha : ∀ i, (⟨b, off, none⟩ : Addr).add (i * 4) = ⟨b, off + i * 4, none⟩ := fun i => by
          unfold Addr.add
          by_cases e : i * 4 = 0
          · rw [if_pos e, e]
            rfl
          · rw [if_neg e]
        have hS : ∀ i, i < cap0 → SpanAt w ⟨b, off + i * 4, none⟩ (Z i) := fun i hi => by rw [← ha]; exact hcell i hi
        have hxl : ((List.range len0).map fun i => (⟨(Z i).1.toNat, (Z i).2.1.toNat, (Z i).2.2.1, (Z i).2.2.2⟩ : Spn)).length = len0 := by simp
        have hget : ∀ (i : Nat) (x : Spn), ((List.range len0).map fun i => (⟨(Z i).1.toNat, (Z i).2.1.toNat, (Z i).2.2.1, (Z i).2.2.2⟩ : Spn))[i]? = some x → i < len0 ∧ x = ⟨(Z i).1.toNat, (Z i).2.1.toNat, (Z i).2.2.1, (Z i).2.2.2⟩ := fun i x hx => by
          have hi : i < len0 := by have := (List.getElem?_eq_some_iff.1 hx).1; simpa using this
          refine ⟨hi, ?_⟩
          rw [List.getElem?_map, List.getElem?_range hi] at hx
          exact (Option.some.inj hx).symm
        have := law_short (some ⟨b, off, none⟩) b off cap0 ((List.range len0).map fun i => (⟨(Z i).1.toNat, (Z i).2.1.toNat, (Z i).2.2.1, (Z i).2.2.2⟩ : Spn)) hz ⟨fun i x hx => ?_, fun x hx => ?_⟩ (by rw [hxl]; omega) (fun _ => ⟨rfl, hb⟩)
        · rw [hxl] at this
          exact this
        · obtain ⟨hi, rfl⟩ := hget i x hx
          obtain ⟨c0, c1, c2, c3, w0, w1⟩ := hS i (by omega)
          have b0 := bounds_u8 w0
          have b1 := bounds_u8 w1
          refine ⟨?_, ?_, ?_, ?_⟩
          · rw [c0]; simp only; rw [Int.toNat_of_nonneg b0.1]
          · rw [Int.toNat_of_nonneg b1.1]; simpa [Addr.add] using c1
          · simpa [Addr.add] using c2
          · simpa [Addr.add] using c3
        · obtain ⟨i, hx'⟩ := List.mem_iff_getElem?.1 hx
          obtain ⟨hi, rfl⟩ := hget i x hx'
          obtain ⟨_, _, _, _, w0, w1⟩ := hS i (by omega)
          have b0 := bounds_u8 w0
          have b1 := bounds_u8 w1
          exact ⟨by simp only; omega, by simp only; omega⟩

set_option maxRecDepth 100000 in
theorem lifted (os : Os) (started : os.Started) (H : Type) (enc : TypeId × Value → H) :
    ReturnsInHanded {} Ybad.checked os 3 .any (fun w args => (Rows.lawS0461BModelSpec.pre enc Ybad.prog Ybad.f3 [] false w args ∧ laidMetH Ybad.prog laid3 w) ∧ sizedMet enc Ybad.prog Ybad.f3 (OpenSpec.ofChange Rows.lawS0461BModelSpec) false w args)
      (Rows.lawS0461BModelSpec.post enc Ybad.prog Ybad.f3 false true false false) := by
  refine returnsInHanded_of_change_and (C := Ybad.checked) (X := fun w _ => laidMetH Ybad.prog laid3 w) (fun _ _ _ hh h => h.of_heap hh) own started (by kernel_rfl) Ybad.func3
    (ChangeSpec.witness_shaped (enc := enc) (C := Ybad.checked) (os := os) (X := fun w _ => laidMetH Ybad.prog laid3 w) false (World.laidAll Ybad.prog os laid3) #[.slice none 0 0] 8 (World.laidAll_os _ _ _) (World.shaped_of_ZipB (by kernel_rfl) (by kernel_rfl)) (by kernel_rfl) (by kernel_rfl) (by kernel_rfl) (laid_met os _)) ?_
  intro W base args ds gs before hval0 hW _ _ hL _
  have hval : ∀ (j : Nat) t v, Ybad.f3.params[j]? = some t → args[j]? = some v → Value.okWide Ybad.prog W .any base t v := hval0
  have hW' := hW
  obtain ⟨p, q, hA0, hV, rfl, hfz, hnd⟩ := hW
  have hA : DataW.TrodAll enc Ybad.prog W 0 (fun _ => true) true Ybad.f3.params.toList args.toList ds p := hA0
  rw [Ybad.params3] at hA hval
  obtain ⟨v0, vs0, d0, ds0, p0, q0, hargs, rfl, rfl, h0, r0⟩ := trodAll_cons hA
  obtain ⟨rfl, rfl, rfl⟩ := trodAll_nil r0
  obtain rfl : args = #[v0] := by cases args; simp_all
  obtain ⟨rfl, rfl⟩ := trodVars_none hV
  obtain ⟨a0, len0, cap0, rfl⟩ := okWide_slice Ybad.underlying22 (hval 0 22 v0 rfl rfl)
  have k0 := h0
  have lt0 : ∀ x ∈ p0, x.block < W.heap.size := by obtain ⟨m, hm⟩ := k0; exact DataW.trod_lt m _ _ _ hm
  have w0 : IsSpans W a0 len0 cap0 := by
    obtain ⟨fuel, hf⟩ := h0
    rcases open_slice Ybad.underlying22 hf with ⟨hcs, _⟩ | ⟨x, l, c, m, n, D, Pl, hcs, _, hl, hm, hmm, _, hcell⟩
    · simp [Value.cells] at hcs
      obtain ⟨rfl, rfl, rfl⟩ := hcs
      exact .inl ⟨rfl, rfl, rfl⟩
    · simp [Value.cells] at hcs
      obtain ⟨rfl, rfl, rfl⟩ := hcs
      simp only [if_true] at hmm
      subst hmm
      rw [Ybad.cells69] at hcell
      obtain ⟨Z, hZ⟩ := choose_lt (α := Int × Int × Bool × Bool) (p := fun i z => SpanAt W (x.add (i * 4)) z) (fun i hi => by
        obtain ⟨cs', h1, h2⟩ := hcell i hi
        exact span_of h1 h2)
      exact .inr ⟨_, Z, rfl, hl, hm, hZ⟩
  obtain ⟨a4, a6, hz⟩ := of_laid hL
  clear hA0 hval0
  refine (walk a0 len0 cap0 W a4 a6 hz w0).mono fun e W' ⟨he, bel⟩ => ?_
  subst he
  exact ⟨_, rfl, _, _, _, [], _, [], hW', trodAll_mk1 (shut_bool Ybad.underlying4 _), (trodAll_cons_mk (Below.trod Ybad.laidOut (by kernel_rfl) (of_decide_eq_true (by kernel_rfl)) k0 bel lt0) trodAll_mk0), rfl, bel.frame _, fun h => by cases h⟩

theorem over : Rows.LawS0461BModelSaid :=
  OpenClaim.holds_of_wide 3 Ybad.f3 rfl rfl rfl rfl rfl rfl rfl ⟨rfl, rfl, rfl, rfl, rfl⟩ rfl rfl rfl rfl rfl (by kernel_rfl) Ybad.func3 (by kernel_rfl)
    (of_decide_eq_true (by kernel_rfl)) (by unfold Func.isWrapper; first | (rw [if_pos (by decide +kernel)]; kernel_rfl) | (rw [if_neg (by decide +kernel)]; exact ⟨rfl, rfl⟩))
    (fun os started H enc _ => lifted os started H enc)

/-- ████ THE STATEMENT ████ -/
theorem proved : Rows.LawS0461BModelCardSaid :=
  Claim7.holds_tied_plain_at .later [] [.called, .called, .zero] true (true, "082c5fec1ef216905552eb97494c7666e1dd7b16428fb8398678fb32e8dbe792") false
    over (fun _ h => by cases h) (by kernel_rfl) (fun _ h => by cases h) lawS0461BModel_row_tie rfl ⟨rfl, rfl⟩ (by kernel_rfl) rfl
    (fun f fn hf hfn => by
      obtain rfl : f = 3 := Option.some.inj ((show Ybad.prog.funcNamed Rows.lawS0461BModelRow.func = some 3 by kernel_rfl).symm.trans hf) |>.symm
      obtain rfl : fn = Ybad.f3 := (Option.some.inj (Ybad.func3.symm.trans hfn)).symm
      exact ⟨by kernel_rfl, fun j t ht => by
        rw [Ybad.params3] at ht
        have hm : t ∈ [22] := by simpa using Array.mem_of_getElem? ht
        have hall : ([22].all fun u => !Ybad.prog.wantsStandIn u) = true := by kernel_rfl
        exact (show Ybad.prog.wantsStandIn t = false by simpa using List.all_eq_true.1 hall t hm)⟩)
    (by kernel_rfl)
end Go.Proofs.YbulkingDoor.lawS0461BModel
