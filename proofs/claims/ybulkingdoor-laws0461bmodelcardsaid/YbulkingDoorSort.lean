/-
  slices.SortFunc on a row of Ranges.
-/
import Derived.Test.YbulkingDoorModel
import Derived.Test.YbulkingDoorEq
import Derived.Test.YbulkingDoorShelfS
namespace Go.Proofs.YbulkingDoor
open Go.RowKit Go.Shelf Go.Sort Go.Lib
set_option linter.unusedVariables false
set_option linter.unusedSimpArgs false

variable {w : World} {a4 a6 : Addr}

/-- Where a Range begins. -/
def k1 (x : Bool × Nat × Nat) : Nat := fam x.1 + x.2.1
def cf (x y : Bool × Nat × Nat) : Int := cmpR (hiOf x.1) (loOf x.1 x.2.1) (hdOf x.1) (hiOf y.1) (loOf y.1 y.2.1) (hdOf y.1)

theorem ltOf_cf (x y : Bool × Nat × Nat) : ltOf cf x y = decide ((x.1 = false ∧ y.1 = true) ∨ (x.1 = y.1 ∧ x.2.1 < y.2.1)) := by
  obtain ⟨xv, xs, xe⟩ := x
  obtain ⟨yv, ys, ye⟩ := y
  unfold ltOf
  apply decide_eq_decide.2
  cases xv <;> cases yv <;> simp [cf, cmpR, hiOf, loOf, hdOf, bl]
  · by_cases h1 : xs < ys
    · rw [if_pos (by omega)]; simp [h1]
    · rw [if_neg (by omega)]
      by_cases h2 : ys < xs
      · rw [if_pos (by omega)]; simp [h1]
      · rw [if_neg (by omega)]; simp [h1]
  · by_cases h1 : xs < ys
    · rw [if_pos (by omega)]; simp [h1]
    · rw [if_neg (by omega)]
      by_cases h2 : ys < xs
      · rw [if_pos (by omega)]; simp [h1]
      · rw [if_neg (by omega)]; simp [h1]

theorem swo : SWO (ltOf cf) where
  irrefl x := by rw [ltOf_cf]; simp
  trans x y z h1 h2 := by
    rw [ltOf_cf] at *
    simp only [decide_eq_true_eq] at *
    obtain ⟨xv, xs, xe⟩ := x
    obtain ⟨yv, ys, ye⟩ := y
    obtain ⟨zv, zs, ze⟩ := z
    cases xv <;> cases yv <;> cases zv <;> simp at * <;> omega
  ntrans x y z h1 h2 := by
    rw [ltOf_cf] at *
    simp only [decide_eq_false_iff_not] at *
    obtain ⟨xv, xs, xe⟩ := x
    obtain ⟨yv, ys, ye⟩ := y
    obtain ⟨zv, zs, ze⟩ := z
    cases xv <;> cases yv <;> cases zv <;> simp at * <;> omega


theorem enc3_len (a4 a6 : Addr) (x : Bool × Nat × Nat) : (enc3 a4 a6 x).length = 6 := rfl

theorem flat_get (enc : (Bool × Nat × Nat) → List Value) (hk : ∀ x, (enc x).length = 6) : ∀ (V : List (Bool × Nat × Nat)) (t : Nat), t < V.length * 6 → (V.flatMap enc)[t]? = some ((enc V[t / 6]!)[t % 6]!)
  | [], t, h => by simp at h
  | x :: r, t, h => by
    simp only [List.flatMap_cons]
    have hx := hk x
    by_cases h6 : t < 6
    · rw [List.getElem?_append_left (by omega), show t / 6 = 0 by omega, show t % 6 = t by omega]
      simp only [List.getElem!_cons_zero]
      rw [List.getElem?_eq_getElem (by omega), getElem!_pos _ _ (by omega)]
    · rw [List.getElem?_append_right (by omega), hx, flat_get enc hk r (t - 6) (by simp at h; omega), show t / 6 = (t - 6) / 6 + 1 by omega, show t % 6 = (t - 6) % 6 by omega]
      simp only [List.getElem!_cons_succ]

/-- A row that the call owns, as the sort asks for it. -/
theorem holds_of_own {base g cap : Nat} {V : List (Bool × Nat × Nat)} {cur : Array Value} (hg : w.heap[g]? = some (.cells cur 37 (0, 0))) (ht : cur.toList.take (V.length * 6) = V.flatMap (enc3 a4 a6)) :
    HoldsK (enc3 a4 a6) 6 w g 0 V.toArray := by
  intro j hj
  rw [size_flatK] at hj
  simp only [List.size_toArray] at hj
  refine ⟨?_, by simp [World.frozen?, hg]⟩
  rw [get_flatK _ _ _ _ (by simpa using hj), Nat.zero_add]
  have h1 := flat_get (enc3 a4 a6) (enc3_len a4 a6) V j hj
  rw [← ht, List.getElem?_take_of_lt hj] at h1
  simpa [World.cell?, hg] using h1

/-- .. and what the sorted row's cells hold. -/
theorem rowed_of_holds {g : Nat} {d : Array (Bool × Nat × Nat)} (h : HoldsK (enc3 a4 a6) 6 w g 0 d) : Rowed w a4 a6 g d.toList := by
  intro i x hx
  have hi : i < d.size := by
    have := (List.getElem?_eq_some_iff.1 hx).1
    simpa using this
  have e : d[i]! = x := by
    rw [getElem!_pos d i hi]
    have := (List.getElem?_eq_some_iff.1 hx).2
    simpa using this
  have c : ∀ t, t < 6 → w.cell? ⟨g, i * 6 + t, none⟩ = some ((enc3 a4 a6 x)[t]!) := fun t ht => by
    have := (h (i * 6 + t) (by rw [size_flatK]; omega)).1
    rw [get_flatK _ _ _ _ (by omega), Nat.zero_add, show (i * 6 + t) / 6 = i by omega, show (i * 6 + t) % 6 = t by omega, e] at this
    exact this
  exact ⟨c 0 (by omega), c 1 (by omega), c 2 (by omega), c 3 (by omega), c 4 (by omega), c 5 (by omega)⟩

theorem cmpLays (blk size : Nat) (hz : ∀ m os (dk : Array (Bool × Nat × Nat)), dk.size = size → Zs (sortWorldK (enc3 a4 a6) 6 w blk 0 m dk os) a4 a6) : CmpLays Ybad.prog 18 #[] (enc3 a4 a6) 6 cf blk 0 size w := by
  intro m os dk hd x y
  exact (closure18 _ _ _ _ _ _ _ _ _ _ _ _ (hz m os dk hd)).mono fun e w' ⟨h1, h2⟩ => ⟨h1, h2.grows⟩

theorem sw_block (enc : (Bool × Nat × Nat) → List Value) (blk m : Nat) (dk : Array (Bool × Nat × Nat)) (os : Array Obj) (b : Nat) (hb : b < w.heap.size) (hne : b ≠ blk) : (sortWorldK enc 6 w blk 0 m dk os).heap[b]? = w.heap[b]? := by
  unfold sortWorldK grow putRowK putRow mapBlock Sort.ahead
  simp only
  rw [Array.getElem?_append_left (by simpa using hb), Array.getElem?_modify, if_neg (by omega)]
theorem sw_size (enc : (Bool × Nat × Nat) → List Value) (blk m : Nat) (dk : Array (Bool × Nat × Nat)) (os : Array Obj) : w.heap.size ≤ (sortWorldK enc 6 w blk 0 m dk os).heap.size := by
  unfold sortWorldK grow putRowK putRow mapBlock Sort.ahead
  simp

theorem sw_below {w0 : World} (enc : (Bool × Nat × Nat) → List Value) (blk m : Nat) (dk : Array (Bool × Nat × Nat)) (os : Array Obj) (hb : Below w0.heap.size w0 w) (hg : w0.heap.size ≤ blk) : Below w0.heap.size w0 (sortWorldK enc 6 w blk 0 m dk os) :=
  ⟨hb.os, hb.tape, hb.output, Nat.le_trans hb.size (sw_size enc blk m dk os), fun k hk => (sw_block enc blk m dk os k (Nat.lt_of_lt_of_le hk hb.size) (by omega)).trans (hb.block k hk)⟩

theorem sort17 {w0 : World} {g cap : Nat} {V : List (Bool × Nat × Nat)} {cur : Array Value} (hz0 : Zs w0 a4 a6) (hbel : Below w0.heap.size w0 w) (hgb : w0.heap.size ≤ g) (hg : w.heap[g]? = some (.cells cur 37 (0, 0))) (ht : cur.toList.take (V.length * 6) = V.flatMap (enc3 a4 a6)) (hV : V.length ≤ 1024) :
    Calls Ybad.prog 17 #[.slice (some ⟨g, 0, none⟩) V.length cap, .func (.func 18) #[] #[]] w fun e w' => e = .returned (.tuple #[]) ∧ ∃ V' : List (Bool × Nat × Nat), V'.Perm V ∧ (∀ (i j : Nat) (x y : Bool × Nat × Nat), i < j → V'[i]? = some x → V'[j]? = some y → ltOf cf y x = false) ∧ Rowed w' a4 a6 g V' ∧ Below w0.heap.size w0 w' ∧ w.heap.size ≤ w'.heap.size := by
  have eg : ∀ args w, (callFunc 18 args).run Ybad.prog w = .ok (.enter 18 args) w := enters_of Ybad.func18 (by kernel_rfl) rfl
  have hH := holds_of_own (base := 0) (cap := cap) hg ht
  have hgl := (Array.getElem?_eq_some_iff.1 hg).1
  have hcon := AnyQ.slices_SortFunc Ybad.sortR 6 Ybad.isAgg37 Ybad.sizeOf37 (enc3 a4 a6) (enc3_len a4 a6) (enc3_one a4 a6) cf swo 18 #[] g 0 cap V.toArray w eg
    (cmpLays g V.toArray.size (fun m os dk hd => hz0.below (sw_below _ _ _ _ _ hbel hgb))) hH hgl (by simp; omega)
  change Calls Ybad.prog 17 _ _ _ at hcon
  simp only [List.size_toArray] at hcon
  refine hcon.mono ?_
  rintro e w' ⟨rfl, d', n, os, ⟨hp1, hp2, hp3⟩, hs, rfl⟩
  simp only [List.size_toArray] at hp1
  refine ⟨rfl, d'.toList, ?_, ?_, ?_, sw_below _ _ _ _ _ hbel hgb, sw_size _ _ _ _ _⟩
  · have e1 : d'.extract 0 V.length = d' := by rw [← hp1]; simp
    have e2 : V.toArray.extract 0 V.length = V.toArray := by simp
    rw [e1, e2] at hp3
    simpa using hp3
  · intro i j x y hij hx hy
    have hj : j < d'.size := by have := (List.getElem?_eq_some_iff.1 hy).1; simpa using this
    have hi : i < d'.size := by omega
    have ex : d'[i]! = x := by rw [getElem!_pos d' i hi]; simpa using (List.getElem?_eq_some_iff.1 hx).2
    have ey : d'[j]! = y := by rw [getElem!_pos d' j hj]; simpa using (List.getElem?_eq_some_iff.1 hy).2
    have := hs i j (Nat.zero_le _) hij (by omega)
    rw [ex, ey] at this
    exact this
  · exact rowed_of_holds (holdsK_grow _ _ _ _ _ _ _ (by unfold putRowK putRow mapBlock Sort.ahead; simpa using hgl) (holdsK_putRowK _ _ _ _ _ V.toArray _ (holdsK_ahead _ _ _ _ _ _ _ hH) (by simpa using hp1)))
end Go.Proofs.YbulkingDoor
