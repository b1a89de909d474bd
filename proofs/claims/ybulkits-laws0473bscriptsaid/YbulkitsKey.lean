/-
  The map's keys: nine pairs of sites. What the map's operations do to the entries.
-/
import Derived.Test.YbulkitsChecked
import Derived.WalkKit
import Derived.ProofKit
import Derived.Outline
namespace Go.Proofs.Ybulkits
open Go.RowKit
set_option linter.unusedVariables false

def site (i : Nat) : ByteArray := if i = 0 then ⟨#[97]⟩ else if i = 1 then ⟨#[98]⟩ else ⟨#[99]⟩
def keyV (p : Nat) : Value := .agg #[.string (site (p / 3)), .string (site (p % 3))]

theorem lt9 {p : Nat} (h : p < 9) : p = 0 ∨ p = 1 ∨ p = 2 ∨ p = 3 ∨ p = 4 ∨ p = 5 ∨ p = 6 ∨ p = 7 ∨ p = 8 := by omega

theorem eqKey {p q : Nat} (hp : p < 9) (hq : q < 9) (w : World) : (Op.equal 53 (keyV p) (keyV q)).run Yba.prog w = .ok (decide (p = q)) w := by
  rcases lt9 hp with rfl | rfl | rfl | rfl | rfl | rfl | rfl | rfl | rfl <;> rcases lt9 hq with rfl | rfl | rfl | rfl | rfl | rfl | rfl | rfl | rfl <;> kernel_rfl

theorem checkKey_ok (b : Bool) (p : Nat) (w : World) : (Instr.checkKey b 10000 53 (keyV p)).run Yba.prog w = .ok () w := by
  kernel_rfl
theorem site_self (i : Nat) : (site i == site i) = true := by
  unfold site
  split
  · rfl
  · split <;> rfl
theorem sameBits_key (p : Nat) : Instr.sameBits 10000 (keyV p) (keyV p) = true := by
  unfold keyV
  simp [Instr.sameBits, site_self]

/-- The entries: the pair, the link's block, the stamp. -/
def ents (l : List (Nat × Nat × Nat)) : List MapEntry := l.map fun x => ⟨keyV x.1, .pointer (some ⟨x.2.1, 0, none⟩), x.2.2⟩
/-- Where the pair p lies, and its link's block. -/
def findL : List (Nat × Nat × Nat) → Nat → Nat → Option (Nat × Nat)
  | [], _, _ => none
  | x :: r, p, i => if p = x.1 then some (i, x.2.1) else findL r p (i + 1)
def Nine (l : List (Nat × Nat × Nat)) : Prop := ∀ x ∈ l, x.1 < 9
def ptrOf : Option (Nat × Nat) → Value
  | some y => .pointer (some ⟨y.2, 0, none⟩)
  | none => .pointer none

theorem asking_run {p : Nat} (hp : p < 9) (w : World) : ∀ (l : List (Nat × Nat × Nat)) (i : Nat), Nine l →
    (Instr.findAsking 53 (keyV p) (ents l) i).run Yba.prog w = .ok ((findL l p i).map fun y => (y.1, .pointer (some ⟨y.2, 0, none⟩))) w
  | [], i, _ => rfl
  | x :: r, i, h => by
    have hx : x.1 < 9 := h x List.mem_cons_self
    have hr : Nine r := fun y hy => h y (List.mem_cons_of_mem _ hy)
    have e := eqKey hp hx w
    simp only [ents, List.map_cons, Instr.findAsking]
    by_cases c : p = x.1
    · rw [decide_eq_true c] at e
      simp [e, findL, if_pos c]
    · have := asking_run hp w r (i + 1) hr
      simp only [ents] at this
      simp [e, c, findL, this]

theorem find_run {p : Nat} (hp : p < 9) (w : World) (l : List (Nat × Nat × Nat)) (h : Nine l) :
    (Instr.findKey 53 (keyV p) (ents l)).run Yba.prog w = .ok ((findL l p 0).map fun y => (y.1, .pointer (some ⟨y.2, 0, none⟩))) w := by
  have u := Yba.underlying53
  have ha := asking_run hp w l 0 h
  unfold Instr.findKey
  cases l with
  | nil => simp [ents, Instr.findNow, findL, underlying, u]
  | cons x r => simp [Instr.findNow, Instr.sameNow, keyV, ents, underlying, u] at ha ⊢; exact ha

theorem zero50 (w : World) : (zeroValue 50).run Yba.prog w = .ok (.pointer none) w := by kernel_rfl
theorem ents_erase : ∀ (l : List (Nat × Nat × Nat)) (i : Nat), (ents l).eraseIdx i = ents (l.eraseIdx i)
  | [], _ => by simp [ents]
  | x :: r, 0 => rfl
  | x :: r, i + 1 => by
    have := ents_erase r i
    simp only [ents] at this ⊢
    simp [this]

theorem lookup_run {p b clock : Nat} {l : List (Nat × Nat × Nat)} {w : World} (hp : p < 9) (h : Nine l) (hb : w.heap[b]? = some (.map (ents l).toArray clock)) :
    (Instr.lookup 45 (.map (some b)) (keyV p) false).run Yba.prog w = .ok (ptrOf (findL l p 0)) w := by
  have hf := find_run hp w l h
  have hc := fun e => checkKey_ok e p w
  unfold Instr.lookup
  simp [hf, hc, getObj, Sem.run, hb]
  cases findL l p 0 with
  | none => exact zero50 w
  | some y => rfl

theorem update_run {p b clock L : Nat} {l : List (Nat × Nat × Nat)} {w : World} (hp : p < 9) (h : Nine l) (hb : w.heap[b]? = some (.map (ents l).toArray clock)) (hn : findL l p 0 = none) :
    (Instr.mapUpdate 45 (.map (some b)) (keyV p) (.pointer (some ⟨L, 0, none⟩))).run Yba.prog w = .ok () { w with heap := w.heap.setIfInBounds b (.map (ents (l ++ [(p, L, clock)])).toArray (clock + 1)) } := by
  have hf := find_run hp w l h
  have hc := fun e => checkKey_ok e p w
  unfold Instr.mapUpdate
  simp [hf, hc, getObj, setObj, Sem.run, hb, hn]
  simp [ents]

theorem delete_run {p b clock i L : Nat} {l : List (Nat × Nat × Nat)} {w : World} {ty : TypeId} (hp : p < 9) (h : Nine l) (hb : w.heap[b]? = some (.map (ents l).toArray clock)) (hn : findL l p 0 = some (i, L)) :
    (Builtin.delete_ #[45, 53] ty #[.map (some b), keyV p]).run Yba.prog w = .ok (.tuple #[]) { w with heap := w.heap.setIfInBounds b (.map (ents (l.eraseIdx i)).toArray clock) } := by
  have hf := find_run hp w l h
  have hc := fun e => checkKey_ok e p w
  unfold Builtin.delete_
  simp [hf, hc, getObj, setObj, Sem.run, hb, hn]
  rw [ents_erase]
end Go.Proofs.Ybulkits
