/-
  The region 'wt.value.done <- ErrPoolClosed' of Release, in whatever order its operands are taken.
-/
import Derived.Test.YbulkijmDoorSel
namespace Go.Proofs.YbulkijmDoor
open Go.RowKit Go.Conc

/-- Release's region 9, as the translation has it. -/
abbrev sendOps (ps : String) : Array Oper := #[{ dst := some 42, op := Op.move (Operand.tmp 2), type := 55, pos := ps, after := #[], guard := none }, { dst := some 43, op := Op.nilCheck (Operand.tmp 42), type := 0, pos := ps, after := #[{ on := 0, ground := Ground.data }], guard := none }, { dst := some 44, op := Op.fieldAddr 73 (Operand.tmp 43) 0, type := 0, pos := ps, after := #[{ on := 1, ground := Ground.data }], guard := none }, { dst := some 45, op := Op.fieldAddr 71 (Operand.tmp 44) 1, type := 0, pos := ps, after := #[{ on := 2, ground := Ground.data }], guard := none }, { dst := some 46, op := Op.load 69 (Operand.tmp 45), type := 69, pos := ps, after := #[{ on := 3, ground := Ground.data }], guard := none }, { dst := some 47, op := Op.load 81 (Operand.global 0), type := 81, pos := ps, after := #[], guard := none }, { dst := none, op := Op.send (Operand.tmp 46) (Operand.tmp 47), type := 0, pos := ps, after := #[{ on := 4, ground := Ground.data }, { on := 5, ground := Ground.data }], guard := none }]

variable {ps : String}

theorem ready51 : Region.ready .any (sendOps ps) #[true, true, true, true, true, true, false] = [6] := by kernel_rfl
theorem ready41 : Region.ready .any (sendOps ps) #[true, true, true, true, false, true, false] = [4] := by kernel_rfl
theorem ready50 : Region.ready .any (sendOps ps) #[true, true, true, true, true, false, false] = [5] := by kernel_rfl
theorem ready31 : Region.ready .any (sendOps ps) #[true, true, true, false, false, true, false] = [3] := by kernel_rfl
theorem ready40 : Region.ready .any (sendOps ps) #[true, true, true, true, false, false, false] = [4, 5] := by kernel_rfl
theorem ready21 : Region.ready .any (sendOps ps) #[true, true, false, false, false, true, false] = [2] := by kernel_rfl
theorem ready30 : Region.ready .any (sendOps ps) #[true, true, true, false, false, false, false] = [3, 5] := by kernel_rfl
theorem ready11 : Region.ready .any (sendOps ps) #[true, false, false, false, false, true, false] = [1] := by kernel_rfl
theorem ready20 : Region.ready .any (sendOps ps) #[true, true, false, false, false, false, false] = [2, 5] := by kernel_rfl
theorem ready01 : Region.ready .any (sendOps ps) #[false, false, false, false, false, true, false] = [0] := by kernel_rfl
theorem ready10 : Region.ready .any (sendOps ps) #[true, false, false, false, false, false, false] = [1, 5] := by kernel_rfl
theorem ready00 : Region.ready .any (sendOps ps) #[false, false, false, false, false, false, false] = [0, 5] := by kernel_rfl

set_option maxRecDepth 100000 in
theorem send_region (x0 x1 x3 x4 x5 x6 x7 x8 x9 x10 x11 x12 x13 x14 x15 x16 x17 x18 x19 x20 x21 x22 x23 x24 x25 x26 x27 x28 x29 x30 x31 x32 x33 x34 x35 x36 x37 x38 x39 x40 x41 x42 x43 x44 x45 x46 x47 x48 x49 E : Value) (nd c s r : Nat) (tm : Bool) (ds : List Deferred) (w : World) (Q : Exit → Act → World → Prop)
    (h1 : w.cell? ⟨nd, 1, none⟩ = some (.chan (some c))) (hE : w.cell? ⟨0, 0, none⟩ = some E) (hc : w.heap[c]? = some (.chan 1 #[] false s r tm))
    (hQ : Q .normal ⟨#[x0, x1, pt nd, x3, x4, x5, x6, x7, x8, x9, x10, x11, x12, x13, x14, x15, x16, x17, x18, x19, x20, x21, x22, x23, x24, x25, x26, x27, x28, x29, x30, x31, x32, x33, x34, x35, x36, x37, x38, x39, x40, x41, pt nd, pt nd, pt nd, .pointer (some ⟨nd, 1, none⟩), .chan (some c), E, x48, x49], ds⟩ (w.drew.setChan c 1 #[E] false (s + 1) r tm)) :
    Comm.wpN Ybad.prog (Code.region 9 (sendOps ps) true) Q ⟨#[x0, x1, pt nd, x3, x4, x5, x6, x7, x8, x9, x10, x11, x12, x13, x14, x15, x16, x17, x18, x19, x20, x21, x22, x23, x24, x25, x26, x27, x28, x29, x30, x31, x32, x33, x34, x35, x36, x37, x38, x39, x40, x41, x42, x43, x44, x45, x46, x47, x48, x49], ds⟩ w := by
  have h1' : w.drew.cell? ⟨nd, 1, none⟩ = some (.chan (some c)) := h1
  have hE' : w.drew.cell? ⟨0, 0, none⟩ = some E := hE
  have L51 : ∀ t, Comm.rest Ybad.prog (sendOps ps) Q (Region.linearise.go .any (sendOps ps) 1 t #[true, true, true, true, true, true, false] []) ⟨#[x0, x1, pt nd, x3, x4, x5, x6, x7, x8, x9, x10, x11, x12, x13, x14, x15, x16, x17, x18, x19, x20, x21, x22, x23, x24, x25, x26, x27, x28, x29, x30, x31, x32, x33, x34, x35, x36, x37, x38, x39, x40, x41, pt nd, pt nd, pt nd, .pointer (some ⟨nd, 1, none⟩), .chan (some c), E, x48, x49], ds⟩ w.drew := by
    intro t
    rw [Comm.go_one ready51]
    exact Comm.rest_send (c := c) (cap := 1) (buf := #[]) (s := s) (r := r) (tm := tm) (v := E) (z := .tuple #[]) rfl rfl (by simp [go_sem, scase]) hc (by simp) (Comm.rest_nil hQ)
  have L41 : ∀ t, Comm.rest Ybad.prog (sendOps ps) Q (Region.linearise.go .any (sendOps ps) 2 t #[true, true, true, true, false, true, false] []) ⟨#[x0, x1, pt nd, x3, x4, x5, x6, x7, x8, x9, x10, x11, x12, x13, x14, x15, x16, x17, x18, x19, x20, x21, x22, x23, x24, x25, x26, x27, x28, x29, x30, x31, x32, x33, x34, x35, x36, x37, x38, x39, x40, x41, pt nd, pt nd, pt nd, .pointer (some ⟨nd, 1, none⟩), x46, E, x48, x49], ds⟩ w.drew := by
    intro t
    rw [Comm.go_one ready41]
    refine Comm.rest_value (v := .chan (some c)) (w' := w.drew) rfl rfl (by simp [go_sem, h1']) (L51 _)
  have L50 : ∀ t, Comm.rest Ybad.prog (sendOps ps) Q (Region.linearise.go .any (sendOps ps) 2 t #[true, true, true, true, true, false, false] []) ⟨#[x0, x1, pt nd, x3, x4, x5, x6, x7, x8, x9, x10, x11, x12, x13, x14, x15, x16, x17, x18, x19, x20, x21, x22, x23, x24, x25, x26, x27, x28, x29, x30, x31, x32, x33, x34, x35, x36, x37, x38, x39, x40, x41, pt nd, pt nd, pt nd, .pointer (some ⟨nd, 1, none⟩), .chan (some c), x47, x48, x49], ds⟩ w.drew := by
    intro t
    rw [Comm.go_one ready50]
    refine Comm.rest_value (v := E) (w' := w.drew) rfl rfl (by simp [go_sem, hE']) (L51 _)
  have L31 : ∀ t, Comm.rest Ybad.prog (sendOps ps) Q (Region.linearise.go .any (sendOps ps) 3 t #[true, true, true, false, false, true, false] []) ⟨#[x0, x1, pt nd, x3, x4, x5, x6, x7, x8, x9, x10, x11, x12, x13, x14, x15, x16, x17, x18, x19, x20, x21, x22, x23, x24, x25, x26, x27, x28, x29, x30, x31, x32, x33, x34, x35, x36, x37, x38, x39, x40, x41, pt nd, pt nd, pt nd, x45, x46, E, x48, x49], ds⟩ w.drew := by
    intro t
    rw [Comm.go_one ready31]
    refine Comm.rest_value (v := .pointer (some ⟨nd, 1, none⟩)) (w' := w.drew) rfl rfl (by simp [go_sem]) (L41 _)
  have L40 : ∀ t, Comm.rest Ybad.prog (sendOps ps) Q (Region.linearise.go .any (sendOps ps) 3 t #[true, true, true, true, false, false, false] []) ⟨#[x0, x1, pt nd, x3, x4, x5, x6, x7, x8, x9, x10, x11, x12, x13, x14, x15, x16, x17, x18, x19, x20, x21, x22, x23, x24, x25, x26, x27, x28, x29, x30, x31, x32, x33, x34, x35, x36, x37, x38, x39, x40, x41, pt nd, pt nd, pt nd, .pointer (some ⟨nd, 1, none⟩), x46, x47, x48, x49], ds⟩ w.drew := by
    intro t
    rcases Comm.go_two (f := 2) (t := t) ready40 with e | e
    · rw [e]
      refine Comm.rest_value (v := .chan (some c)) (w' := w.drew) rfl rfl (by simp [go_sem, h1']) (L50 _)
    · rw [e]
      refine Comm.rest_value (v := E) (w' := w.drew) rfl rfl (by simp [go_sem, hE']) (L41 _)
  have L21 : ∀ t, Comm.rest Ybad.prog (sendOps ps) Q (Region.linearise.go .any (sendOps ps) 4 t #[true, true, false, false, false, true, false] []) ⟨#[x0, x1, pt nd, x3, x4, x5, x6, x7, x8, x9, x10, x11, x12, x13, x14, x15, x16, x17, x18, x19, x20, x21, x22, x23, x24, x25, x26, x27, x28, x29, x30, x31, x32, x33, x34, x35, x36, x37, x38, x39, x40, x41, pt nd, pt nd, x44, x45, x46, E, x48, x49], ds⟩ w.drew := by
    intro t
    rw [Comm.go_one ready21]
    refine Comm.rest_value (v := pt nd) (w' := w.drew) rfl rfl (by simp [go_sem]) (L31 _)
  have L30 : ∀ t, Comm.rest Ybad.prog (sendOps ps) Q (Region.linearise.go .any (sendOps ps) 4 t #[true, true, true, false, false, false, false] []) ⟨#[x0, x1, pt nd, x3, x4, x5, x6, x7, x8, x9, x10, x11, x12, x13, x14, x15, x16, x17, x18, x19, x20, x21, x22, x23, x24, x25, x26, x27, x28, x29, x30, x31, x32, x33, x34, x35, x36, x37, x38, x39, x40, x41, pt nd, pt nd, pt nd, x45, x46, x47, x48, x49], ds⟩ w.drew := by
    intro t
    rcases Comm.go_two (f := 3) (t := t) ready30 with e | e
    · rw [e]
      refine Comm.rest_value (v := .pointer (some ⟨nd, 1, none⟩)) (w' := w.drew) rfl rfl (by simp [go_sem]) (L40 _)
    · rw [e]
      refine Comm.rest_value (v := E) (w' := w.drew) rfl rfl (by simp [go_sem, hE']) (L31 _)
  have L11 : ∀ t, Comm.rest Ybad.prog (sendOps ps) Q (Region.linearise.go .any (sendOps ps) 5 t #[true, false, false, false, false, true, false] []) ⟨#[x0, x1, pt nd, x3, x4, x5, x6, x7, x8, x9, x10, x11, x12, x13, x14, x15, x16, x17, x18, x19, x20, x21, x22, x23, x24, x25, x26, x27, x28, x29, x30, x31, x32, x33, x34, x35, x36, x37, x38, x39, x40, x41, pt nd, x43, x44, x45, x46, E, x48, x49], ds⟩ w.drew := by
    intro t
    rw [Comm.go_one ready11]
    refine Comm.rest_value (v := pt nd) (w' := w.drew) rfl rfl (by simp [go_sem]) (L21 _)
  have L20 : ∀ t, Comm.rest Ybad.prog (sendOps ps) Q (Region.linearise.go .any (sendOps ps) 5 t #[true, true, false, false, false, false, false] []) ⟨#[x0, x1, pt nd, x3, x4, x5, x6, x7, x8, x9, x10, x11, x12, x13, x14, x15, x16, x17, x18, x19, x20, x21, x22, x23, x24, x25, x26, x27, x28, x29, x30, x31, x32, x33, x34, x35, x36, x37, x38, x39, x40, x41, pt nd, pt nd, x44, x45, x46, x47, x48, x49], ds⟩ w.drew := by
    intro t
    rcases Comm.go_two (f := 4) (t := t) ready20 with e | e
    · rw [e]
      refine Comm.rest_value (v := pt nd) (w' := w.drew) rfl rfl (by simp [go_sem]) (L30 _)
    · rw [e]
      refine Comm.rest_value (v := E) (w' := w.drew) rfl rfl (by simp [go_sem, hE']) (L21 _)
  have L01 : ∀ t, Comm.rest Ybad.prog (sendOps ps) Q (Region.linearise.go .any (sendOps ps) 6 t #[false, false, false, false, false, true, false] []) ⟨#[x0, x1, pt nd, x3, x4, x5, x6, x7, x8, x9, x10, x11, x12, x13, x14, x15, x16, x17, x18, x19, x20, x21, x22, x23, x24, x25, x26, x27, x28, x29, x30, x31, x32, x33, x34, x35, x36, x37, x38, x39, x40, x41, x42, x43, x44, x45, x46, E, x48, x49], ds⟩ w.drew := by
    intro t
    rw [Comm.go_one ready01]
    refine Comm.rest_value (v := pt nd) (w' := w.drew) rfl rfl (by simp [go_sem]) (L11 _)
  have L10 : ∀ t, Comm.rest Ybad.prog (sendOps ps) Q (Region.linearise.go .any (sendOps ps) 6 t #[true, false, false, false, false, false, false] []) ⟨#[x0, x1, pt nd, x3, x4, x5, x6, x7, x8, x9, x10, x11, x12, x13, x14, x15, x16, x17, x18, x19, x20, x21, x22, x23, x24, x25, x26, x27, x28, x29, x30, x31, x32, x33, x34, x35, x36, x37, x38, x39, x40, x41, pt nd, x43, x44, x45, x46, x47, x48, x49], ds⟩ w.drew := by
    intro t
    rcases Comm.go_two (f := 5) (t := t) ready10 with e | e
    · rw [e]
      refine Comm.rest_value (v := pt nd) (w' := w.drew) rfl rfl (by simp [go_sem]) (L20 _)
    · rw [e]
      refine Comm.rest_value (v := E) (w' := w.drew) rfl rfl (by simp [go_sem, hE']) (L11 _)
  have L00 : ∀ t, Comm.rest Ybad.prog (sendOps ps) Q (Region.linearise.go .any (sendOps ps) 7 t #[false, false, false, false, false, false, false] []) ⟨#[x0, x1, pt nd, x3, x4, x5, x6, x7, x8, x9, x10, x11, x12, x13, x14, x15, x16, x17, x18, x19, x20, x21, x22, x23, x24, x25, x26, x27, x28, x29, x30, x31, x32, x33, x34, x35, x36, x37, x38, x39, x40, x41, x42, x43, x44, x45, x46, x47, x48, x49], ds⟩ w.drew := by
    intro t
    rcases Comm.go_two (f := 6) (t := t) ready00 with e | e
    · rw [e]
      refine Comm.rest_value (v := pt nd) (w' := w.drew) rfl rfl (by simp [go_sem]) (L10 _)
    · rw [e]
      refine Comm.rest_value (v := E) (w' := w.drew) rfl rfl (by simp [go_sem, hE']) (L01 _)
  exact Comm.wpN_region_draw (by kernel_rfl) (fun t => L00 t)
end Go.Proofs.YbulkijmDoor
