/-
  Next; the law's end; a Range's IsValid; Union's comparison.
-/
import Derived.Test.YbulkingDoorAddr
import Derived.Test.YbulkingDoorShelf
namespace Go.Proofs.YbulkingDoor
open Go.RowKit Go.Shelf
set_option linter.unusedVariables false
set_option linter.unusedSimpArgs false

variable {w : World} {a4 a6 : Addr}

theorem add64 (x : Int) (hx : 0 ≤ x) (h2 : x < 18446744073709551615) (w : World) : (callFunc 49 #[.int .u64 x, .int .u64 1, .int .u64 0]).run Ybad.prog w =
    .ok (.value (.tuple #[.int .u64 (x + 1), .int .u64 0])) w := by
  obtain ⟨x, rfl⟩ := Int.eq_ofNat_of_zero_le hx
  have e1 : (x + 1 + 0) % 18446744073709551616 = x + 1 := by omega
  have e2 : (x + 1 + 0) / 18446744073709551616 = 0 := by omega
  have h := Any7.bits_Add64 Ybad.lays25 x 1 0 (by omega) w
  rw [e1, e2] at h
  exact h

set_option maxHeartbeats 800000 in
set_option maxRecDepth 100000 in
theorem addOne (h l : Int) (h0 : 0 ≤ h) (h1 : h < 18446744073709551616) (l0 : 0 ≤ l) (l1 : l < 18446744073709551615) :
    Calls Ybad.prog 31 #[.agg #[.int .u64 h, .int .u64 l]] w fun e w' => e = .returned (.agg #[.int .u64 h, .int .u64 (l + 1)]) ∧ Later w w' := by
  have ha := add64 l l0 l1
  go_enter Ybad.func31, Ybad.ntmps31
  go_wp2
  go_returns
  exact ⟨rfl, ((Later.refl w).alloc _).alloc _⟩

set_option maxHeartbeats 800000 in
set_option maxRecDepth 100000 in
theorem isZero (h l : Int) (hne : (bits .or .u64 h l == 0) = false) :
    Calls Ybad.prog 33 #[.agg #[.int .u64 h, .int .u64 l]] w fun e w' => e = .returned (.bool false) ∧ Later w w' := by
  go_enter Ybad.func33, Ybad.ntmps33
  go_wp2
  go_ret
  exact ⟨by rw [← hne]; rfl, (Later.refl w).alloc _⟩

/-- The law's end of a span. -/
def endOf (s l : Nat) : Nat := min (s + l % 16) 255

set_option maxHeartbeats 800000 in
set_option maxRecDepth 100000 in
theorem bend (s l : Nat) (v6 sk : Bool) (hs : s ≤ 255) (hl : l ≤ 255) :
    Calls Ybad.prog 22 #[.agg #[.int .u8 s, .int .u8 l, .bool v6, .bool sk]] w fun e w' => e = .returned (.int .i64 (endOf s l)) ∧ Later w w' := by
  have hsI : (s : Int) ≤ 255 := by omega
  have hlI : (l : Int) ≤ 255 := by omega
  by_cases h : 255 < s + l % 16
  · have h' : (255 : Int) < s + l % 16 := by omega
    go_enter Ybad.func22, Ybad.ntmps22
    go_wp2
    go_ret
    refine ⟨?_, (Later.refl w).alloc _⟩
    rw [show endOf s l = 255 by unfold endOf; omega]
    rfl
  · have h' : ¬ (255 : Int) < s + l % 16 := by omega
    go_enter Ybad.func22, Ybad.ntmps22
    go_wp2
    go_ret
    refine ⟨?_, (Later.refl w).alloc _⟩
    rw [show endOf s l = s + l % 16 by unfold endOf; omega]
    simp

abbrev agR (a4 a6 : Addr) (h l : Int) (i : Hd) (h' l' : Int) (i' : Hd) : Value := .agg #[.int .u64 h, .int .u64 l, .pointer (hnd a4 a6 i), .int .u64 h', .int .u64 l', .pointer (hnd a4 a6 i')]

set_option maxHeartbeats 800000 in
set_option maxRecDepth 100000 in
theorem rvalid (h l h' l' : Int) (i i' : Hd) (hz : Zs w a4 a6) :
    Calls Ybad.prog 16 #[agR a4 a6 h l i h' l' i'] w fun e w' => e = .returned (.bool (!decide (i = .lt))) ∧ Later w w' := by
  go_enter Ybad.func16, Ybad.ntmps16
  go_wp2_with fail
  refine (isvalid _ _ _ (hz.later ((Later.refl w).alloc _))).mono ?_
  rintro e w1 ⟨rfl, k⟩
  go_wp2
  go_ret
  exact ⟨rfl, ((Later.refl w).alloc _).trans k⟩

set_option maxHeartbeats 800000 in
set_option maxRecDepth 100000 in
theorem closure18 (h l h' l' : Int) (i i' : Hd) (g m g' m' : Int) (j j' : Hd) (hz : Zs w a4 a6) :
    Calls Ybad.prog 18 #[agR a4 a6 h l i h' l' i', agR a4 a6 g m j g' m' j'] w fun e w' => e = .returned (.int .i64 (cmpR h l i g m j)) ∧ Later w w' := by
  go_enter Ybad.func18, Ybad.ntmps18
  go_wp2_with fail
  refine (compare _ _ _ _ _ _ (hz.later (((Later.refl w).alloc _).alloc _))).mono ?_
  rintro e w1 ⟨rfl, k⟩
  go_wp2
  go_ret
  exact ⟨rfl, (((Later.refl w).alloc _).alloc _).trans k⟩

theorem or6_all : ((List.range 257).all fun b => (bits .or .u64 2306124484190404608 (b : Int) == 0) == false) = true := by kernel_rfl
theorem or6 (b : Nat) (hb : b ≤ 255) : (bits .or .u64 2306124484190404608 ((b : Int) + 1) == 0) = false := by
  have := List.all_eq_true.1 or6_all (b + 1) (List.mem_range.2 (by omega))
  simpa using this

theorem hi_bd (v6 : Bool) : 0 ≤ hiOf v6 ∧ hiOf v6 < 18446744073709551616 := by cases v6 <;> simp [hiOf]
theorem lo_bd (v6 : Bool) (b : Nat) (hb : b ≤ 255) : 0 ≤ loOf v6 b ∧ loOf v6 b < 18446744073709551615 := by cases v6 <;> simp [loOf] <;> omega

theorem cells3 {W : World} {b : Nat} {x y z : Value} (h : W.heap[b]? = some (.cells #[x, y, z] 35 (0, 0))) : W.cell? ⟨b, 0, none⟩ = some x ∧ W.cell? ⟨b, 1, none⟩ = some y ∧ W.cell? ⟨b, 2, none⟩ = some z ∧ ∀ o, W.frozen? ⟨b, o, none⟩ = false := by
  simp [World.cell?, World.frozen?, h]

set_option maxHeartbeats 1600000 in
set_option maxRecDepth 100000 in
theorem next (v6 : Bool) (b : Nat) (hb : b ≤ 255) (hz : Zs w a4 a6) :
    Calls Ybad.prog 20 #[adr a4 a6 v6 b] w fun e w' => e = .returned (agA a4 a6 (hiOf v6) (loOf v6 b + 1) (hdOf v6)) ∧ Later w w' := by
  have hn1 := ((Later.refl _).alloc (.cells #[.int .u64 0, .int .u64 0, .pointer none] 35)).blk (heap_alloc_new w (.cells #[.int .u64 (hiOf v6), .int .u64 (loOf v6 b), .pointer (hnd a4 a6 (hdOf v6))] 35))
  have hn2 := heap_alloc_new (w.alloc (.cells #[.int .u64 (hiOf v6), .int .u64 (loOf v6 b), .pointer (hnd a4 a6 (hdOf v6))] 35)) (.cells #[.int .u64 0, .int .u64 0, .pointer none] 35)
  rw [show (w.alloc (.cells #[.int .u64 (hiOf v6), .int .u64 (loOf v6 b), .pointer (hnd a4 a6 (hdOf v6))] 35)).heap.size = w.heap.size + 1 by simp] at hn2
  have ha := addOne (w := (w.alloc (.cells #[.int .u64 (hiOf v6), .int .u64 (loOf v6 b), .pointer (hnd a4 a6 (hdOf v6))] 35)).alloc (.cells #[.int .u64 0, .int .u64 0, .pointer none] 35)) (hiOf v6) (loOf v6 b) (hi_bd v6).1 (hi_bd v6).2 (lo_bd v6 b hb).1 (lo_bd v6 b hb).2
  go_enter Ybad.func20, Ybad.ntmps20
  go_wp2_with fail
  refine ha.mono ?_
  rintro e w1 ⟨rfl, k⟩
  have b1 := k.blk hn1
  have b2 := k.blk hn2
  have k1 := (((Later.refl w).alloc _).alloc _).trans k
  clear ha hn1 hn2 k
  obtain ⟨c0, c1, c2, fz⟩ := cells3 b1
  have b3 : ((w1.setCell ⟨w.heap.size, 0, none⟩ (.int .u64 (hiOf v6))).setCell ⟨w.heap.size, 1, none⟩ (.int .u64 (loOf v6 b + 1))).heap[w.heap.size]? = some (.cells #[.int .u64 (hiOf v6), .int .u64 (loOf v6 b + 1), .pointer (hnd a4 a6 (hdOf v6))] 35 (0, 0)) := by
    rw [heap_set _ _ (heap_set _ _ b1)]; simp
  have b4 : ((w1.setCell ⟨w.heap.size, 0, none⟩ (.int .u64 (hiOf v6))).setCell ⟨w.heap.size, 1, none⟩ (.int .u64 (loOf v6 b + 1))).heap[w.heap.size + 1]? = some (.cells #[.int .u64 0, .int .u64 0, .pointer none] 35 (0, 0)) := by
    rw [Below.heap_setCell _ _ _ _ (by simp), Below.heap_setCell _ _ _ _ (by simp)]; exact b2
  have k2 : Later w ((w1.setCell ⟨w.heap.size, 0, none⟩ (.int .u64 (hiOf v6))).setCell ⟨w.heap.size, 1, none⟩ (.int .u64 (loOf v6 b + 1))) := (k1.setCell _ _ (by simp)).setCell _ _ (by simp)
  go_wp2_with fail
  clear c0 c1 c2 fz b1 b2 k1
  generalize ((w1.setCell ⟨w.heap.size, 0, none⟩ (.int .u64 (hiOf v6))).setCell ⟨w.heap.size, 1, none⟩ (.int .u64 (loOf v6 b + 1))) = W2 at *
  refine (is4 _ _ _ (hz.later k2)).mono ?_
  rintro e w3 ⟨rfl, k3⟩
  have b5 := k3.blk b3
  have b6 := k3.blk b4
  have k4 := k2.trans k3
  clear b3 b4 k2 k3
  obtain ⟨c0, c1, c2, _⟩ := cells3 b5
  cases v6 with
  | true =>
    simp only [hdOf, reduceCtorEq, decide_false, if_true, Bool.false_eq_true]
    have hor : (bits .or .u64 (hiOf true) (loOf true b + 1) == 0) = false := or6 b hb
    go_wp2_with fail
    refine (isZero _ _ hor).mono ?_
    rintro e w5 ⟨rfl, k5⟩
    have b7 := k5.blk b5
    have b8 := k5.blk b6
    have k6 := k4.trans k5
    clear b5 b6 k4 k5 c0 c1 c2 hor
    obtain ⟨c0, c1, c2, _⟩ := cells3 b7
    obtain ⟨r0, r1, r2, rf⟩ := cells3 b8
    go_wp2
    obtain ⟨hl, d0, d1, d2⟩ := put3 (x := .int .u64 (hiOf true)) (y := .int .u64 (loOf true b + 1)) (z := .pointer (hnd a4 a6 (hdOf true))) (Nat.le_succ _) b8 rfl k6
    simp [bodyPost, results, Ybad.results20, go_sem, d0, d1, d2]
    exact hl
  | false =>
    simp only [hdOf, decide_true, if_true, Bool.false_eq_true, if_false]
    have hwe : IntKind.u32.wrap (loOf false b + 1) = 167772161 + (b : Int) := by simp [IntKind.wrap, IntKind.signed, IntKind.bits, loOf]; omega
    have hw : ((167772161 + (b : Int)) == 0) = false := by simp; omega
    obtain ⟨r0, r1, r2, rf⟩ := cells3 b6
    go_wp2
    obtain ⟨hl, d0, d1, d2⟩ := put3 (x := .int .u64 (hiOf false)) (y := .int .u64 (loOf false b + 1)) (z := .pointer (hnd a4 a6 (hdOf false))) (Nat.le_succ _) b6 rfl k4
    simp [bodyPost, results, Ybad.results20, go_sem, d0, d1, d2]
    exact hl
end Go.Proofs.YbulkingDoor
