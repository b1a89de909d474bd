/-
  zzs0461beq on two rows that hold the same Ranges.
-/
import Derived.Test.YbulkingDoorBuild
namespace Go.Proofs.YbulkingDoor
open Go.RowKit Go.Shelf
set_option linter.unusedVariables false
set_option linter.unusedSimpArgs false

variable {w : World} {a4 a6 : Addr}

/-- The cells of a row of Ranges. -/
def Rowed (w : World) (a4 a6 : Addr) (g : Nat) (L : List (Bool × Nat × Nat)) : Prop :=
  ∀ i x, L[i]? = some x → w.cell? ⟨g, i * 6, none⟩ = some (.int .u64 (hiOf x.1)) ∧ w.cell? ⟨g, i * 6 + 1, none⟩ = some (.int .u64 (loOf x.1 x.2.1)) ∧ w.cell? ⟨g, i * 6 + 2, none⟩ = some (.pointer (hnd a4 a6 (hdOf x.1))) ∧
    w.cell? ⟨g, i * 6 + 3, none⟩ = some (.int .u64 (hiOf x.1)) ∧ w.cell? ⟨g, i * 6 + 4, none⟩ = some (.int .u64 (loOf x.1 x.2.2)) ∧ w.cell? ⟨g, i * 6 + 5, none⟩ = some (.pointer (hnd a4 a6 (hdOf x.1)))

theorem Ybad.stood35 : Ybad.prog.stoodInHeld 35 = false := by kernel_rfl
theorem Ybad.stood30 : Ybad.prog.stoodInHeld 30 = false := by kernel_rfl
theorem Ybad.struct35 : Ybad.prog.underlying 35 = some (.struct (Ybad.prog.fieldsOf 35)) := by kernel_rfl
theorem Ybad.struct30 : Ybad.prog.underlying 30 = some (.struct (Ybad.prog.fieldsOf 30)) := by kernel_rfl
theorem Ybad.guard35 : Ybad.prog.eqGuardType Ybad.prog.depth 35 = false := by kernel_rfl

/-- '==' on addresses. -/
theorem eqAddr (hz : Zs w a4 a6) (h l h' l' : Int) (i i' : Hd) : (Op.equalIn 10000 35 (agA a4 a6 h l i) (agA a4 a6 h' l' i')).run Ybad.prog w = .ok (decide (h = h' ∧ l = l' ∧ i = i')) w := by
  have e := eqPtr hz i i' 9997
  have u31 := Ybad.underlying31
  have a31 := Ybad.isAgg31
  have z31 := Ybad.sizeOf31
  have u28 := Ybad.underlying28
  have a28 := Ybad.isAgg28
  have z28 := Ybad.sizeOf28
  have a30 := Ybad.isAgg30
  have z30 := Ybad.sizeOf30
  have a33 := Ybad.isAgg33
  have z33 := Ybad.sizeOf33
  rw [show (10000 : Nat) = 9999 + 1 from rfl, run_equalIn_agg w 9999 35 _ _ Ybad.struct35 Ybad.stood35]
  simp only [Program.fieldsOf, Ybad.underlying35]
  go_simp
  by_cases h1 : h = h' <;> by_cases h2 : l = l' <;> by_cases h3 : i = i' <;> simp [h1, h2, h3]

set_option maxHeartbeats 1600000 in
set_option maxRecDepth 100000 in
theorem eq9 (ga gb ca cb : Nat) (L : List (Bool × Nat × Nat)) (hL : L.length ≤ 5000) (hz : Zs w a4 a6) (hA : Rowed w a4 a6 ga L) (hB : Rowed w a4 a6 gb L) :
    Calls Ybad.prog 9 #[.slice (some ⟨ga, 0, none⟩) L.length ca, .slice (some ⟨gb, 0, none⟩) L.length cb] w fun e w' => e = .returned (.bool true) ∧ Later w w' := by
  obtain ⟨m, hm⟩ : ∃ m, L.length = m := ⟨_, rfl⟩
  rw [hm]
  have hmI : (m : Int) ≤ 5000 := by omega
  go_enter Ybad.func9, Ybad.ntmps9
  go_wp2_with fail
  go_loopw [5] (fun i wr => ∃ k q : Nat, k ≤ m ∧ i = .int .i64 k ∧ wr = w.drewN q) (fun i _ => m - (intOf i).toNat)
  case atStart => exact ⟨0, 0, Nat.zero_le _, rfl, rfl⟩
  case round =>
    obtain ⟨k, q, hk, rfl, rfl⟩ := hrel
    by_cases hlt : k < m
    · obtain ⟨x, hx⟩ : ∃ x, L[k]? = some x := ⟨_, List.getElem?_eq_getElem (by omega)⟩
      obtain ⟨a0, a1, a2, a3, a4', a5⟩ := hA k x hx
      obtain ⟨b0, b1, b2, b3, b4, b5⟩ := hB k x hx
      have hI : (k : Int) < (m : Int) := by omega
      have ep : ∀ q, (Op.equalIn 9998 31 (.pointer (hnd a4 a6 (hdOf x.1))) (.pointer (hnd a4 a6 (hdOf x.1)))).run Ybad.prog (w.drewN q) = .ok true (w.drewN q) := fun q => by
        have := eqPtr (hz.later ((Later.refl w).drewN q)) (hdOf x.1) (hdOf x.1) 9997
        simpa using this
      have gd := Ybad.guard35
      clear hA hB
      go_wp2_with fail
      go_quiet (fail)
      go_wp2
      go_roundw
      case rel => exact ⟨k + 1, _, by omega, by go_num, rfl⟩
      case measure => simp [intOf]; omega
    · go_wp2
      go_ret
      exact ⟨rfl, (Later.refl w).drewN _⟩

set_option maxHeartbeats 1600000 in
set_option maxRecDepth 100000 in
theorem eq9_none (pa pb : Option Addr) (ca cb : Nat) (w : World) :
    Calls Ybad.prog 9 #[.slice pa 0 ca, .slice pb 0 cb] w fun e w' => e = .returned (.bool true) ∧ Later w w' := by
  go_enter Ybad.func9, Ybad.ntmps9
  go_wp2_with fail
  go_loopw [5] (fun i wr => i = .int .i64 0 ∧ wr = w) (fun i _ => 0)
  case atStart => exact ⟨rfl, rfl⟩
  case round =>
    obtain ⟨rfl, rfl⟩ := hrel
    go_wp2
    go_ret
    exact ⟨rfl, Later.refl _⟩
end Go.Proofs.YbulkingDoor
