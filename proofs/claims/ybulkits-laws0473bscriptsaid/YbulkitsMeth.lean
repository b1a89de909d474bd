/-
  The five methods of the heap of links, as the interface finds them.
-/
import Derived.Test.YbulkitsKey
namespace Go.Proofs.Ybulkits
open Go.RowKit
set_option linter.unusedVariables false
set_option linter.unusedSimpArgs false

theorem meth60 : (Yba.prog.info? 60).map (fun i => (["Len", "Less", "Swap", "Push", "Pop"].map fun n => (i.methods.find? (·.name == n)).map fun m => (m.path.toList.isEmpty, m.path.isEmpty, m.func))) = some [some (true, true, some (38, false)), some (true, true, some (39, false)), some (true, true, some (40, false)), some (true, true, some (42, true)), some (true, true, some (41, true))] := by kernel_rfl

theorem meth_parts : ∃ i, Yba.prog.info? 60 = some i ∧ (∃ m, i.methods.find? (·.name == "Len") = some m ∧ m.path.toList = [] ∧ m.path.isEmpty = true ∧ m.func = some (38, false)) ∧ (∃ m, i.methods.find? (·.name == "Less") = some m ∧ m.path.toList = [] ∧ m.path.isEmpty = true ∧ m.func = some (39, false)) ∧
    (∃ m, i.methods.find? (·.name == "Swap") = some m ∧ m.path.toList = [] ∧ m.path.isEmpty = true ∧ m.func = some (40, false)) ∧ (∃ m, i.methods.find? (·.name == "Push") = some m ∧ m.path.toList = [] ∧ m.path.isEmpty = true ∧ m.func = some (42, true)) ∧ (∃ m, i.methods.find? (·.name == "Pop") = some m ∧ m.path.toList = [] ∧ m.path.isEmpty = true ∧ m.func = some (41, true)) := by
  obtain ⟨i, hi, h⟩ := Option.map_eq_some_iff.1 meth60
  simp only [List.map_cons, List.map_nil, List.cons.injEq, and_true, Option.map_eq_some_iff, Prod.mk.injEq] at h
  obtain ⟨⟨m1, a1, b1, c1, d1⟩, ⟨m2, a2, b2, c2, d2⟩, ⟨m3, a3, b3, c3, d3⟩, ⟨m4, a4, b4, c4, d4⟩, ⟨m5, a5, b5, c5, d5⟩⟩ := h
  exact ⟨i, hi, ⟨m1, a1, by simpa using b1, c1, d1⟩, ⟨m2, a2, by simpa using b2, c2, d2⟩, ⟨m3, a3, by simpa using b3, c3, d3⟩, ⟨m4, a4, by simpa using b4, c4, d4⟩, ⟨m5, a5, by simpa using b5, c5, d5⟩⟩

theorem fuel60 : Yba.prog.types.size + Made.depth = (Yba.prog.types.size + Made.depth - 1) + 1 := by kernel_rfl

variable {w : World} {a : Addr} {p : Option Addr} {l c : Nat}

theorem chk (n : String) : (Builtin.ssaWrapNilChk_ #[60] 60 #[.pointer (some a), strVal "", strVal n]).run Yba.prog w = .ok (.pointer (some a)) w := rfl
theorem load47 (h : w.cell? a = some (.slice p l c)) : (loadVar 47 a).run Yba.prog w = .ok (.slice p l c) w := by
  have := Yba.isAgg47 w
  have := Yba.sizeOf47 w
  simp [loadVar, go_sem, h, *]

theorem m_len (h : w.cell? a = some (.slice p l c)) : (method (Yba.prog.types.size + Made.depth) 60 (.pointer (some a)) "Len").run Yba.prog w = .ok (38, .slice p l c) w := by
  obtain ⟨i, hi, ⟨m, h1, h2, h3, h4⟩, _⟩ := meth_parts
  have h3 : m.path = #[] := by simpa using h3
  rw [fuel60]
  unfold method
  simp [typeInfo, hi, h1, h2, h3, h4, follow, receiverAt, Place.get, chk, asAddr, load47 h]
theorem m_less (h : w.cell? a = some (.slice p l c)) : (method (Yba.prog.types.size + Made.depth) 60 (.pointer (some a)) "Less").run Yba.prog w = .ok (39, .slice p l c) w := by
  obtain ⟨i, hi, _, ⟨m, h1, h2, h3, h4⟩, _⟩ := meth_parts
  have h3 : m.path = #[] := by simpa using h3
  rw [fuel60]
  unfold method
  simp [typeInfo, hi, h1, h2, h3, h4, follow, receiverAt, Place.get, chk, asAddr, load47 h]
theorem m_swap (h : w.cell? a = some (.slice p l c)) : (method (Yba.prog.types.size + Made.depth) 60 (.pointer (some a)) "Swap").run Yba.prog w = .ok (40, .slice p l c) w := by
  obtain ⟨i, hi, _, _, ⟨m, h1, h2, h3, h4⟩, _⟩ := meth_parts
  have h3 : m.path = #[] := by simpa using h3
  rw [fuel60]
  unfold method
  simp [typeInfo, hi, h1, h2, h3, h4, follow, receiverAt, Place.get, chk, asAddr, load47 h]
theorem m_push : (method (Yba.prog.types.size + Made.depth) 60 (.pointer (some a)) "Push").run Yba.prog w = .ok (42, .pointer (some a)) w := by
  obtain ⟨i, hi, _, _, _, ⟨m, h1, h2, h3, h4⟩, _⟩ := meth_parts
  rw [fuel60]
  unfold method
  simp [typeInfo, hi, h1, h2, h4, follow, receiverAt, Place.get]
theorem m_pop : (method (Yba.prog.types.size + Made.depth) 60 (.pointer (some a)) "Pop").run Yba.prog w = .ok (41, .pointer (some a)) w := by
  obtain ⟨i, hi, _, _, _, _, ⟨m, h1, h2, h3, h4⟩⟩ := meth_parts
  rw [fuel60]
  unfold method
  simp [typeInfo, hi, h1, h2, h4, follow, receiverAt, Place.get]

theorem fuelN : Yba.prog.types.size + Made.depth = 187 := by kernel_rfl
theorem n_len (h : w.cell? a = some (.slice p l c)) : (method 187 60 (.pointer (some a)) "Len").run Yba.prog w = .ok (38, .slice p l c) w := by rw [← fuelN]; exact m_len h
theorem n_less (h : w.cell? a = some (.slice p l c)) : (method 187 60 (.pointer (some a)) "Less").run Yba.prog w = .ok (39, .slice p l c) w := by rw [← fuelN]; exact m_less h
theorem n_swap (h : w.cell? a = some (.slice p l c)) : (method 187 60 (.pointer (some a)) "Swap").run Yba.prog w = .ok (40, .slice p l c) w := by rw [← fuelN]; exact m_swap h
theorem n_push : (method 187 60 (.pointer (some a)) "Push").run Yba.prog w = .ok (42, .pointer (some a)) w := by rw [← fuelN]; exact m_push
theorem n_pop : (method 187 60 (.pointer (some a)) "Pop").run Yba.prog w = .ok (41, .pointer (some a)) w := by rw [← fuelN]; exact m_pop
end Go.Proofs.Ybulkits
