/-
  netip.AddrFrom4, netip.AddrFrom16, the law's own addresses.
-/
import Derived.Test.YbulkingDoorCmp
namespace Go.Proofs.YbulkingDoor
open Go.RowKit
set_option linter.unusedVariables false

variable {w : World} {a4 a6 : Addr}

/-- Eight bytes, the greatest first. -/
def be (x0 x1 x2 x3 x4 x5 x6 x7 : Int) : Int :=
  bits .or .u64 (bits .or .u64 (bits .or .u64 (bits .or .u64 (bits .or .u64 (bits .or .u64 (bits .or .u64 (IntKind.u64.wrap x7) (IntKind.u64.wrap (IntKind.u64.wrap x6 * 256))) (IntKind.u64.wrap (IntKind.u64.wrap x5 * 65536))) (IntKind.u64.wrap (IntKind.u64.wrap x4 * 16777216)))
    (IntKind.u64.wrap (IntKind.u64.wrap x3 * 4294967296))) (IntKind.u64.wrap (IntKind.u64.wrap x2 * 1099511627776))) (IntKind.u64.wrap (IntKind.u64.wrap x1 * 281474976710656))) (IntKind.u64.wrap (IntKind.u64.wrap x0 * 72057594037927936))

theorem be_hi : be 32 1 0 0 0 0 0 0 = 2306124484190404608 := by kernel_rfl
theorem be_lo_all : ((List.range 256).all fun b => be 0 0 0 0 0 0 0 (b : Int) == (b : Int)) = true := by kernel_rfl
theorem be_lo (b : Nat) (hb : b ≤ 255) : be 0 0 0 0 0 0 0 (b : Int) = b := by
  have := List.all_eq_true.1 be_lo_all b (List.mem_range.2 (by omega))
  simpa using this

set_option maxHeartbeats 1600000 in
set_option maxRecDepth 100000 in
theorem be64 (blk off cap : Nat) (x0 x1 x2 x3 x4 x5 x6 x7 : Int) (w : World) (h0 : w.cell? ⟨blk, off, none⟩ = some (.int .u8 x0)) (h1 : w.cell? ⟨blk, off + 1, none⟩ = some (.int .u8 x1)) (h2 : w.cell? ⟨blk, off + 2, none⟩ = some (.int .u8 x2)) (h3 : w.cell? ⟨blk, off + 3, none⟩ = some (.int .u8 x3))
    (h4 : w.cell? ⟨blk, off + 4, none⟩ = some (.int .u8 x4)) (h5 : w.cell? ⟨blk, off + 5, none⟩ = some (.int .u8 x5)) (h6 : w.cell? ⟨blk, off + 6, none⟩ = some (.int .u8 x6)) (h7 : w.cell? ⟨blk, off + 7, none⟩ = some (.int .u8 x7)) :
    Calls Ybad.prog 50 #[.slice (some ⟨blk, off, none⟩) 8 cap] w fun e w' => e = .returned (.int .u64 (be x0 x1 x2 x3 x4 x5 x6 x7)) ∧ Later w w' := by
  go_enter Ybad.func50, Ybad.ntmps50
  go_wp2_with fail
  go_quiet (fail)
  go_wp2
  go_ret
  exact ⟨rfl, (Later.refl w).drewN _⟩

def l4 (b : Int) : Int := bits .or .u64 (bits .or .u64 (bits .or .u64 (bits .or .u64 281470681743360 167772160) 0) 0) b
theorem l4_all : ((List.range 256).all fun b => l4 (b : Int) == 281470849515520 + (b : Int)) = true := by kernel_rfl
theorem l4_eq (b : Nat) (hb : b ≤ 255) : l4 (b : Int) = 281470849515520 + b := by
  have := List.all_eq_true.1 l4_all b (List.mem_range.2 (by omega))
  simpa using this

set_option maxHeartbeats 1600000 in
set_option maxRecDepth 100000 in
theorem from4 (b : Nat) (hb : b ≤ 255) (hz : Zs w a4 a6) :
    Calls Ybad.prog 35 #[.agg #[.int .u8 10, .int .u8 0, .int .u8 0, .int .u8 b]] w fun e w' => e = .returned (agA a4 a6 0 (281470849515520 + b) .eq) ∧ Later w w' := by
  have g1 := (hz.later (((Later.refl w).alloc (.cells #[.int .u8 10, .int .u8 0, .int .u8 0, .int .u8 b] 87)).alloc (.cells #[.int .u64 0, .int .u64 0, .pointer none] 35))).g1
  go_enter Ybad.func35, Ybad.ntmps35
  go_wp2
  rw [← l4_eq b hb]
  go_returns
  exact ⟨rfl, ((Later.refl w).alloc _).alloc _⟩

def val (b o : Nat) : Int := if o = 0 then 2306124484190404608 else b
/-- The sixteen bytes. -/
abbrev c16 (b : Nat) : Array Value := #[.int .u8 32, .int .u8 1, .int .u8 0, .int .u8 0, .int .u8 0, .int .u8 0, .int .u8 0, .int .u8 0, .int .u8 0, .int .u8 0, .int .u8 0, .int .u8 0, .int .u8 0, .int .u8 0, .int .u8 0, .int .u8 b]
abbrev two16 (w : World) (b : Nat) : World := w.alloc (.cells (c16 b) 84)
def rd (w wx : World) (o : Nat) : Value := (wx.cell? ⟨w.heap.size + 1, o, none⟩).getD undef
theorem lay16 {b : Nat} {wx : World} {cs : Array Value} (hz : Zs w a4 a6) (k : Later (two16 w b) wx) (hc : wx.heap[w.heap.size + 1]? = some (.cells cs 35 (0, 0))) (h3 : cs.size = 3) : wx.cell? ⟨2, 0, none⟩ = some (.pointer (some a6)) ∧
    wx.cell? ⟨w.heap.size + 1, 0, none⟩ = some (rd w wx 0) ∧ wx.cell? ⟨w.heap.size + 1, 1, none⟩ = some (rd w wx 1) ∧ wx.cell? ⟨w.heap.size + 1, 2, none⟩ = some (rd w wx 2) ∧
    (∀ o, wx.frozen? ⟨w.heap.size + 1, o, none⟩ = false) ∧ Later (two16 w b) wx ∧ ∃ cs, wx.heap[w.heap.size + 1]? = some (.cells cs 35 (0, 0)) ∧ cs.size = 3 := by
  have e : ∀ o, o < 3 → wx.cell? ⟨w.heap.size + 1, o, none⟩ = some (rd w wx o) := fun o ho => by
    have : wx.cell? ⟨w.heap.size + 1, o, none⟩ = some (cs[o]'(by omega)) := by simp [World.cell?, hc]
    rw [rd, this]; rfl
  exact ⟨((hz.later ((Later.refl w).alloc _)).later k).g2, e 0 (by omega), e 1 (by omega), e 2 (by omega), fun o => by simp [World.frozen?, hc], k, cs, hc, h3⟩
theorem heap_set {wx : World} {b : Nat} {cs : Array Value} {t : TypeId} (o : Nat) (v : Value) (h : wx.heap[b]? = some (.cells cs t (0, 0))) : (wx.setCell ⟨b, o, none⟩ v).heap[b]? = some (.cells (cs.setIfInBounds o v) t (0, 0)) := by
  simp only [World.setCell, Array.getElem?_modify, if_true, h]
  rfl
theorem start16 (w : World) (b : Nat) : (((two16 w b).alloc (.cells #[.int .u64 0, .int .u64 0, .pointer none] 35)).drew).heap[w.heap.size + 1]? = some (.cells #[.int .u64 0, .int .u64 0, .pointer none] 35 (0, 0)) := by
  have := heap_alloc_new (w.alloc (.cells (c16 b) 84)) (.cells #[.int .u64 0, .int .u64 0, .pointer none] 35)
  have e : (w.alloc (.cells (c16 b) 84)).heap.size = w.heap.size + 1 := by simp
  rw [e] at this
  exact this

set_option maxHeartbeats 1600000 in
set_option maxRecDepth 100000 in
theorem from16 (b : Nat) (hb : b ≤ 255) (hz : Zs w a4 a6) :
    Calls Ybad.prog 34 #[.agg (c16 b)] w fun e w' => e = .returned (agA a4 a6 2306124484190404608 b .gt) ∧ Later w w' := by
  have k0 : Later w (two16 w b) := (Later.refl w).alloc _
  have r : ∀ o wx cap, (o = 0 ∨ o = 8) → Later (two16 w b) wx → Calls Ybad.prog 50 #[.slice (some ⟨w.heap.size, o, none⟩) 8 cap] wx fun e w' => e = .returned (.int .u64 (val b o)) ∧ Later (two16 w b) w' ∧ Later wx w' := by
    intro o wx cap ho k
    rcases ho with rfl | rfl
    · have := be64 w.heap.size 0 cap 32 1 0 0 0 0 0 0 wx (k.cell (by simp [go_sem])) (k.cell (by simp [go_sem])) (k.cell (by simp [go_sem])) (k.cell (by simp [go_sem])) (k.cell (by simp [go_sem])) (k.cell (by simp [go_sem])) (k.cell (by simp [go_sem])) (k.cell (by simp [go_sem]))
      rw [be_hi] at this
      exact this.mono fun e w' ⟨h1, h2⟩ => ⟨h1, k.trans h2, h2⟩
    · have := be64 w.heap.size 8 cap 0 0 0 0 0 0 0 b wx (k.cell (by simp [go_sem])) (k.cell (by simp [go_sem])) (k.cell (by simp [go_sem])) (k.cell (by simp [go_sem])) (k.cell (by simp [go_sem])) (k.cell (by simp [go_sem])) (k.cell (by simp [go_sem])) (k.cell (by simp [go_sem]))
      rw [be_lo b hb] at this
      exact this.mono fun e w' ⟨h1, h2⟩ => ⟨h1, k.trans h2, h2⟩
  go_enter Ybad.func34, Ybad.ntmps34
  go_wp2_with fail
  go_region_held3 (fun wx => wx.cell? ⟨2, 0, none⟩ = some (.pointer (some a6)) ∧
    wx.cell? ⟨w.heap.size + 1, 0, none⟩ = some (rd w wx 0) ∧ wx.cell? ⟨w.heap.size + 1, 1, none⟩ = some (rd w wx 1) ∧ wx.cell? ⟨w.heap.size + 1, 2, none⟩ = some (rd w wx 2) ∧
    (∀ o, wx.frozen? ⟨w.heap.size + 1, o, none⟩ = false) ∧ Later (two16 w b) wx ∧ ∃ cs, wx.heap[w.heap.size + 1]? = some (.cells cs 35 (0, 0)) ∧ cs.size = 3)
    (first
      | exact lay16 hz ((Later.refl _).alloc _).drew (start16 w b) rfl
      | (obtain ⟨cs, hb1, hb2⟩ := hbx; exact lay16 hz (by assumption) hb1 hb2)
      | (obtain ⟨cs, hb1, hb2⟩ := hbx; exact lay16 hz (Later.setCell (Later.setCell (Later.setCell (by assumption) _ _ (by simp)) _ _ (by simp)) _ _ (by simp)) (heap_set _ _ (heap_set _ _ (heap_set _ _ hb1))) (by simpa using hb2)))
    (first
      | (go_at_call 50; with_reducible refine Calls.mono (r 0 _ _ (.inl rfl) (Later.drew (Later.alloc (Later.refl _) _))) ?_; rintro e w1 ⟨rfl, hk1, hbk⟩; have hbx : ∃ cs, w1.heap[w.heap.size + 1]? = some (.cells cs 35 (0, 0)) ∧ cs.size = 3 := ⟨_, hbk.blk (start16 w b), rfl⟩; clear hbk)
      | (go_at_call 50; with_reducible refine Calls.mono (r 8 _ _ (.inr rfl) hk1) ?_; rintro e w2 ⟨rfl, hk2, hbk⟩; obtain ⟨cs, hb1, hb2⟩ := hbx; have hbx : ∃ cs, w2.heap[w.heap.size + 1]? = some (.cells cs 35 (0, 0)) ∧ cs.size = 3 := ⟨cs, hbk.blk hb1, hb2⟩; clear hbk hk1 hb1 hb2))
  go_wp2
  obtain ⟨cs, hb1, hb2⟩ := hbx
  have hb3 := heap_set 2 (.pointer (some a6)) (heap_set 1 (.int .u64 (val b 8)) (heap_set 0 (.int .u64 (val b 0)) hb1))
  have hl : Later w (((w2.setCell ⟨w.heap.size + 1, 0, none⟩ (.int .u64 (val b 0))).setCell ⟨w.heap.size + 1, 1, none⟩ (.int .u64 (val b 8))).setCell ⟨w.heap.size + 1, 2, none⟩ (.pointer (some a6))) :=
    Later.setCell (Later.setCell (Later.setCell (k0.trans hk2) _ _ (by simp)) _ _ (by simp)) _ _ (by simp)
  generalize (((w2.setCell ⟨w.heap.size + 1, 0, none⟩ (.int .u64 (val b 0))).setCell ⟨w.heap.size + 1, 1, none⟩ (.int .u64 (val b 8))).setCell ⟨w.heap.size + 1, 2, none⟩ (.pointer (some a6))) = W at *
  have d0 : W.cell? ⟨w.heap.size + 1, 0, none⟩ = some (.int .u64 2306124484190404608) := by simp [World.cell?, hb3, hb2, val]
  have d1 : W.cell? ⟨w.heap.size + 1, 1, none⟩ = some (.int .u64 b) := by simp [World.cell?, hb3, hb2, val]
  have d2 : W.cell? ⟨w.heap.size + 1, 2, none⟩ = some (.pointer (some a6)) := by simp [World.cell?, hb3, hb2]
  clear hb3 hb1 hb2
  simp [bodyPost, results, Ybad.results34, go_sem, d0, d1, d2]
  exact ⟨rfl, hl⟩

/-- The address with the last byte b. -/
def hiOf (v6 : Bool) : Int := if v6 then 2306124484190404608 else 0
def loOf (v6 : Bool) (b : Nat) : Int := if v6 then b else 281470849515520 + b
def hdOf (v6 : Bool) : Hd := if v6 then .gt else .eq
abbrev adr (a4 a6 : Addr) (v6 : Bool) (b : Nat) : Value := agA a4 a6 (hiOf v6) (loOf v6 b) (hdOf v6)

/-- A struct of type Addr laid into a block of the call's own. -/
theorem put3 {w w1 : World} {b : Nat} {cs : Array Value} {x y z : Value} (hb : w.heap.size ≤ b) (h1 : w1.heap[b]? = some (.cells cs 35 (0, 0))) (h2 : cs.size = 3) (k : Later w w1) :
    Later w (((w1.setCell ⟨b, 0, none⟩ x).setCell ⟨b, 1, none⟩ y).setCell ⟨b, 2, none⟩ z) ∧ (((w1.setCell ⟨b, 0, none⟩ x).setCell ⟨b, 1, none⟩ y).setCell ⟨b, 2, none⟩ z).cell? ⟨b, 0, none⟩ = some x ∧
    (((w1.setCell ⟨b, 0, none⟩ x).setCell ⟨b, 1, none⟩ y).setCell ⟨b, 2, none⟩ z).cell? ⟨b, 1, none⟩ = some y ∧ (((w1.setCell ⟨b, 0, none⟩ x).setCell ⟨b, 1, none⟩ y).setCell ⟨b, 2, none⟩ z).cell? ⟨b, 2, none⟩ = some z := by
  have hb3 := heap_set 2 z (heap_set 1 y (heap_set 0 x h1))
  refine ⟨Later.setCell (Later.setCell (Later.setCell k _ _ hb) _ _ hb) _ _ hb, ?_, ?_, ?_⟩ <;> simp [World.cell?, hb3, h2]

set_option maxHeartbeats 1600000 in
set_option maxRecDepth 100000 in
theorem baddr (v6 : Bool) (b : Nat) (hb : b ≤ 255) (hz : Zs w a4 a6) :
    Calls Ybad.prog 21 #[.bool v6, .int .u8 b] w fun e w' => e = .returned (adr a4 a6 v6 b) ∧ Later w w' := by
  have hn := heap_alloc_new w (.cells #[.int .u64 0, .int .u64 0, .pointer none] 35)
  cases v6 with
  | true =>
    have f := fun wx (k : Later w wx) => from16 (w := wx) b hb (hz.later k)
    go_enter Ybad.func21, Ybad.ntmps21
    go_wp2_with fail
    refine (f _ (((Later.refl w).alloc _).alloc _)).mono ?_
    rintro e w1 ⟨rfl, k⟩
    have h1 := k.blk (((Later.refl _).alloc _).blk hn)
    have k1 := (((Later.refl w).alloc _).alloc _).trans k
    clear f hn k
    have c0 : w1.cell? ⟨w.heap.size, 0, none⟩ = some (.int .u64 0) := by simp [World.cell?, h1]
    have c1 : w1.cell? ⟨w.heap.size, 1, none⟩ = some (.int .u64 0) := by simp [World.cell?, h1]
    have c2 : w1.cell? ⟨w.heap.size, 2, none⟩ = some (.pointer none) := by simp [World.cell?, h1]
    have fz : ∀ o, w1.frozen? ⟨w.heap.size, o, none⟩ = false := fun o => by simp [World.frozen?, h1]
    go_wp2
    obtain ⟨hl, d0, d1, d2⟩ := put3 (x := .int .u64 2306124484190404608) (y := .int .u64 b) (z := .pointer (hnd a4 a6 .gt)) (Nat.le_refl _) h1 rfl k1
    simp [bodyPost, results, Ybad.results21, go_sem, d0, d1, d2]
    exact ⟨⟨rfl, rfl, rfl⟩, hl⟩
  | false =>
    have f := fun wx (k : Later w wx) => from4 (w := wx) b hb (hz.later k)
    go_enter Ybad.func21, Ybad.ntmps21
    go_wp2_with fail
    refine (f _ ((Later.refl w).alloc _)).mono ?_
    rintro e w1 ⟨rfl, k⟩
    have h1 := k.blk hn
    have k1 := ((Later.refl w).alloc _).trans k
    clear f hn k
    have c0 : w1.cell? ⟨w.heap.size, 0, none⟩ = some (.int .u64 0) := by simp [World.cell?, h1]
    have c1 : w1.cell? ⟨w.heap.size, 1, none⟩ = some (.int .u64 0) := by simp [World.cell?, h1]
    have c2 : w1.cell? ⟨w.heap.size, 2, none⟩ = some (.pointer none) := by simp [World.cell?, h1]
    have fz : ∀ o, w1.frozen? ⟨w.heap.size, o, none⟩ = false := fun o => by simp [World.frozen?, h1]
    go_wp2
    obtain ⟨hl, d0, d1, d2⟩ := put3 (x := .int .u64 0) (y := .int .u64 (281470849515520 + b)) (z := .pointer (hnd a4 a6 .eq)) (Nat.le_refl _) h1 rfl k1
    simp [bodyPost, results, Ybad.results21, go_sem, d0, d1, d2]
    exact ⟨⟨rfl, rfl, rfl⟩, hl⟩
end Go.Proofs.YbulkingDoor
