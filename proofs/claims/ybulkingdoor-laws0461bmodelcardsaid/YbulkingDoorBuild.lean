/-
  zzs0461bbuild: the spans made Ranges.
-/
import Derived.Test.YbulkingDoorRange
import Derived.Deep.AppendLies
import Derived.Deep.CutBlock
namespace Go.Proofs.YbulkingDoor
open Go.RowKit Go.Shelf
set_option linter.unusedVariables false
set_option linter.unusedSimpArgs false

theorem Zs.below {w w' : World} {a4 a6 : Addr} (h : Zs w a4 a6) (k : Below w.heap.size w w') : Zs w' a4 a6 := by
  have cell : ∀ {a : Addr} {v : Value}, w.cell? a = some v → w'.cell? a = some v := fun {a v} e => by
    have hb : a.block < w.heap.size := by
      rcases Nat.lt_or_ge a.block w.heap.size with hl | hl
      · exact hl
      · simp [World.cell?, Array.getElem?_eq_none hl] at e
    rw [k.cell hb]; exact e
  have blk : ∀ {b : Nat} {o : Obj}, w.heap[b]? = some o → w'.heap[b]? = some o := fun {b o} e => by
    rw [k.block b (Array.getElem?_eq_some_iff.1 e).1]; exact e
  exact ⟨cell h.g0, cell h.g1, cell h.g2, h.ne, let ⟨c, t, e⟩ := h.b4; ⟨c, t, blk e⟩, let ⟨c, t, e⟩ := h.b6; ⟨c, t, blk e⟩, cell h.s0, cell h.s1⟩

/-- A span that came in. -/
structure Spn where
  s : Nat
  l : Nat
  v6 : Bool
  sk : Bool

def enc3 (a4 a6 : Addr) (x : Bool × Nat × Nat) : List Value :=
  [.int .u64 (hiOf x.1), .int .u64 (loOf x.1 x.2.1), .pointer (hnd a4 a6 (hdOf x.1)), .int .u64 (hiOf x.1), .int .u64 (loOf x.1 x.2.2), .pointer (hnd a4 a6 (hdOf x.1))]
def zero6 : List Value := [.int .u64 0, .int .u64 0, .pointer none, .int .u64 0, .int .u64 0, .pointer none]
def encR (a4 a6 : Addr) (x : Spn) : List Value := if x.sk then zero6 else enc3 a4 a6 (x.v6, x.s, endOf x.s x.l)
def flat (a4 a6 : Addr) (xs : List Spn) : List Value := xs.flatMap (encR a4 a6)

theorem encR_len (a4 a6 : Addr) (x : Spn) : (encR a4 a6 x).length = 6 := by unfold encR; split <;> rfl

theorem Ybad.info37 : (Ybad.prog.info? 37).map (fun i => (i.zero, i.size, i.bytes)) = some (some (.agg #[.int .u64 0, .int .u64 0, .pointer none, .int .u64 0, .int .u64 0, .pointer none]), 6, 48) := by kernel_rfl

/-- The spans as they lie in the argument. -/
def Spans (w : World) (b off : Nat) (xs : List Spn) : Prop :=
  (∀ i x, xs[i]? = some x → w.cell? ⟨b, off + i * 4, none⟩ = some (.int .u8 x.s) ∧ w.cell? ⟨b, off + i * 4 + 1, none⟩ = some (.int .u8 x.l) ∧ w.cell? ⟨b, off + i * 4 + 2, none⟩ = some (.bool x.v6) ∧ w.cell? ⟨b, off + i * 4 + 3, none⟩ = some (.bool x.sk)) ∧ ∀ x ∈ xs, x.s ≤ 255 ∧ x.l ≤ 255

variable {w : World} {a4 a6 : Addr}

theorem own_made (w : World) (C : Array Value) (n : Nat) (hC : C.size = n * 6) (hn : n ≤ 1024) : (w.alloc (.cells C 37)).ownsRow w.heap.size 37 6 (.slice (some ⟨w.heap.size, 0, none⟩) 0 n) 0 [] :=
  ⟨rfl, .inr ⟨w.heap.size, n, C, rfl, Nat.le_refl _, heap_alloc_new w _, Nat.zero_le _, by unfold maxLen; omega, hC, by simp⟩⟩

theorem news_new (W : World) (C : Array Value) (t : TypeId) (n : Nat) (hn : n = W.heap.size) (l : List Value) (hl : l = C.toList) : ∀ j u, l[j]? = some u → (W.alloc (.cells C t)).cell? (Addr.add ⟨n, 0, none⟩ j) = some u := by
  intro j u h
  subst hn hl
  rw [Addr.add_lit]
  simpa using h

theorem own_later {wr wx : World} {base k : Nat} {v : Value} {xs : List Value} {o : Obj} (h : wr.ownsRow base 37 6 v k xs) (hk : Later (wr.alloc o) wx) : wx.ownsRow base 37 6 v k xs := by
  refine ⟨h.1, ?_⟩
  rcases h.2 with h' | ⟨g, cap, cur, e1, e2, e3, e4⟩
  · exact .inl h'
  · exact .inr ⟨g, cap, cur, e1, e2, hk.blk (((Later.refl wr).alloc o).blk e3), e4⟩

theorem zero6_one : ∀ u ∈ zero6, u.oneCell' = true := by
  intro u hu
  simp [zero6] at hu
  rcases hu with rfl | rfl | rfl | rfl <;> rfl
theorem enc3_one (a4 a6 : Addr) (x : Bool × Nat × Nat) : ∀ u ∈ enc3 a4 a6 x, u.oneCell' = true := by
  intro u hu
  simp [enc3] at hu
  rcases hu with rfl | rfl | rfl | rfl | rfl | rfl <;> rfl

theorem flat_snoc (a4 a6 : Addr) (xs : List Spn) (k : Nat) (x : Spn) (h : xs[k]? = some x) : flat a4 a6 (xs.take (k + 1)) = flat a4 a6 (xs.take k) ++ encR a4 a6 x := by
  rw [List.take_add_one, h]
  simp [flat]

set_option maxHeartbeats 1600000 in
set_option maxRecDepth 100000 in
theorem build8 (p : Option Addr) (b off cap : Nat) (xs : List Spn) (hz : Zs w a4 a6) (hs : Spans w b off xs) (hn : xs.length ≤ 1024) (hp : 0 < xs.length → p = some ⟨b, off, none⟩ ∧ b < w.heap.size) :
    Calls Ybad.prog 8 #[.slice p xs.length cap] w fun e w' => ∃ v, e = .returned v ∧ w'.ownsRow w.heap.size 37 6 v xs.length (flat a4 a6 xs) ∧ Below w.heap.size w w' := by
  obtain ⟨i0, hi, hz0, hz1, hz2⟩ := info_parts Ybad.info37
  obtain ⟨n, hnl⟩ : ∃ n, xs.length = n := ⟨_, rfl⟩
  have hnI : (n : Int) ≤ 1024 := by omega
  rw [hnl]
  have hmk := fun wx => run_make (P := Ybad.prog) wx 23 37 i0 _ Ybad.underlying23 hi hz0 .i64 .i64 0 n (by omega) (by omega) (by rw [hz2]; omega) (by omega)
  simp only [Int.toNat_natCast, Int.toNat_zero] at hmk
  go_enter Ybad.func8, Ybad.ntmps8
  go_wp2_with fail
  go_loopw [3, 4, 5] (fun v i _ wr => ∃ k : Nat, k ≤ n ∧ i = .int .i64 k ∧ wr.ownsRow w.heap.size 37 6 v k (flat a4 a6 (xs.take k)) ∧ Below w.heap.size w wr) (fun _ i _ _ => n - (intOf i).toNat)
  case atStart => exact ⟨0, Nat.zero_le _, rfl, own_made w _ n (by simp [size_madeCells, hz1]) (by omega), (Below.refl _ _).alloc (Nat.le_refl _) _⟩
  case round =>
    obtain ⟨k, hk, rfl, hown, hbel⟩ := hrel
    by_cases hlt : k < n
    · obtain ⟨rfl, hb⟩ := hp (by omega)
      obtain ⟨x, hx⟩ : ∃ x, xs[k]? = some x := ⟨_, List.getElem?_eq_getElem (by omega)⟩
      obtain ⟨c0, c1, c2, c3⟩ := hs.1 k x hx
      have hx255 := hs.2 x (List.mem_of_getElem? hx)
      have c0 : wr.cell? ⟨b, off + k * 4, none⟩ = some (.int .u8 x.s) := (hbel.cell hb).trans c0
      have c1 : wr.cell? ⟨b, off + k * 4 + 1, none⟩ = some (.int .u8 x.l) := (hbel.cell hb).trans c1
      have c2 : wr.cell? ⟨b, off + k * 4 + 2, none⟩ = some (.bool x.v6) := (hbel.cell hb).trans c2
      have c3 : wr.cell? ⟨b, off + k * 4 + 3, none⟩ = some (.bool x.sk) := (hbel.cell hb).trans c3
      have hfl := flat_snoc a4 a6 xs k x hx
      have hszb := hbel.size
      cases hsk : x.sk with
      | true =>
        rw [hsk] at c3
        rw [show encR a4 a6 x = zero6 by simp [encR, hsk]] at hfl
        go_wp2_with (first
          | (at_builtin
             refine wpList_append_own _ rfl _ _ 23 rfl w.heap.size 37 i0 _ 6 48 Ybad.underlying23 hi hz0 hz1 hz2 rfl (by decide) u3 k (flat a4 a6 (xs.take k)) rfl ((hown.alloc _).alloc _) ⟨wr.heap.size + 1, 0, none⟩ 1 1 zero6 rfl rfl (news_new _ _ _ _ (by simp) _ rfl) zero6_one (by unfold maxLen; omega) (by omega) (by simp; omega) ?_
             intro v' w3 hown' hgrow hnil
             have hb3 : Below w.heap.size w w3 := Below.grown ((hbel.alloc (by omega) _).alloc (by simp; omega) _) hgrow (by simp; omega) (fun j hj => by have := (hown.lt _ hj).1; omega)
             rw [← hfl] at hown'
             clear hgrow hnil hown hbel c0 c1 c2 c3 hfl))
        go_roundw
        case rel => first | exact ⟨k + 1, by omega, by go_num, hown', hb3⟩ | ((repeat apply Exists.intro); exact ⟨⟨k + 1, by omega, by go_num, hown', hb3⟩, rfl⟩)
        case measure => simp [intOf]; omega
      | false =>
        rw [hsk] at c3
        rw [show encR a4 a6 x = enc3 a4 a6 (x.v6, x.s, endOf x.s x.l) by simp [encR, hsk]] at hfl
        obtain ⟨e, hee⟩ : ∃ e, endOf x.s x.l = e := ⟨_, rfl⟩
        have he : e ≤ 255 := by rw [← hee]; unfold endOf; omega
        have heI : (e : Int) ≤ 255 := by omega
        have hwr : IntKind.u8.wrap (e : Int) = e := by simp [IntKind.wrap, IntKind.signed, IntKind.bits]; omega
        have hbd := fun wx => bend (w := wx) x.s x.l x.v6 false hx255.1 hx255.2
        rw [hee] at hfl hbd
        have hsI : (x.s : Int) ≤ 255 := by omega
        have kB : Below w.heap.size w (wr.alloc (.cells #[.int .u8 x.s, .int .u8 x.l, .bool x.v6, .bool false] 69)) := hbel.alloc (by omega) _
        have hzA : ∀ wx, Later (wr.alloc (.cells #[.int .u8 x.s, .int .u8 x.l, .bool x.v6, .bool false] 69)) wx → Zs wx a4 a6 := fun wx k => (hz.below kB).later k
        have hS : ∀ wx, Later (wr.alloc (.cells #[.int .u8 x.s, .int .u8 x.l, .bool x.v6, .bool false] 69)) wx → (wx.cell? ⟨wr.heap.size, 0, none⟩ = some (.int .u8 x.s) ∧ wx.cell? ⟨wr.heap.size, 1, none⟩ = some (.int .u8 x.l) ∧ wx.cell? ⟨wr.heap.size, 2, none⟩ = some (.bool x.v6) ∧ wx.cell? ⟨wr.heap.size, 3, none⟩ = some (.bool false)) := fun wx k =>
          ⟨k.cell (by simp [go_sem]), k.cell (by simp [go_sem]), k.cell (by simp [go_sem]), k.cell (by simp [go_sem])⟩
        have hS6of : ∀ (wx : World) (row : Option Nat) (wy : World) {o : Obj}, Later (wr.alloc (.cells #[.int .u8 x.s, .int .u8 x.l, .bool x.v6, .bool false] 69)) wy → (wy.alloc o).grownBy wx row → (∀ j, row = some j → j < wr.heap.size) → (wx.cell? ⟨wr.heap.size, 0, none⟩ = some (.int .u8 x.s) ∧ wx.cell? ⟨wr.heap.size, 1, none⟩ = some (.int .u8 x.l) ∧ wx.cell? ⟨wr.heap.size, 2, none⟩ = some (.bool x.v6) ∧ wx.cell? ⟨wr.heap.size, 3, none⟩ = some (.bool false)) := fun wx row wy o k hg hr => by
          have hsz : wr.heap.size < (wy.alloc o).heap.size := by have := k.below.size; simp at this ⊢; omega
          obtain ⟨q0, q1, q2, q3⟩ := hS _ (k.alloc o)
          have far : some wr.heap.size ≠ row := fun h => by have := hr _ h.symm; omega
          exact ⟨(hg.cell_far _ hsz far).trans q0, (hg.cell_far _ hsz far).trans q1, (hg.cell_far _ hsz far).trans q2, (hg.cell_far _ hsz far).trans q3⟩
        have hB6of : ∀ (wx : World) (row : Option Nat) (wy : World) {o : Obj}, Later (wr.alloc (.cells #[.int .u8 x.s, .int .u8 x.l, .bool x.v6, .bool false] 69)) wy → (wy.alloc o).grownBy wx row → (∀ j, row = some j → w.heap.size ≤ j ∧ j < wr.heap.size) → Below w.heap.size w wx := fun wx row wy o k hg hr =>
          Below.grown (kB.trans ((k.alloc o).below.mono (by simp; omega))) hg (by have := k.below.size; simp at this ⊢; omega) (fun j hj => (hr j hj).1)
        go_wp2_with fail
        go_region_held3 (fun wx => wx.cell? ⟨wr.heap.size, 0, none⟩ = some (.int .u8 x.s) ∧ wx.cell? ⟨wr.heap.size, 1, none⟩ = some (.int .u8 x.l) ∧ wx.cell? ⟨wr.heap.size, 2, none⟩ = some (.bool x.v6) ∧ wx.cell? ⟨wr.heap.size, 3, none⟩ = some (.bool false))
          (first | exact hS6 | exact hS _ (Later.drew (Later.refl _)) | exact hS _ (by assumption) | exact hS _ (Later.alloc (by assumption) _) | fail)
          (first
            | (go_at_call 21; with_reducible refine Calls.mono (baddr x.v6 x.s hx255.1 (hzA _ (Later.drew (Later.refl _)))) ?_; rintro e1 w1 ⟨rfl, hk0⟩; have hk1 := (Later.drew (Later.refl _)).trans hk0; clear hk0)
            | (go_at_call 22; with_reducible refine Calls.mono (hbd _) ?_; rintro e1 w2 ⟨rfl, hk0⟩; have hk2 := hk1.trans hk0; clear hk0 hk1)
            | (go_at_call 21; with_reducible refine Calls.mono (baddr x.v6 e he (hzA _ hk2)) ?_; rintro e1 w3 ⟨rfl, hk0⟩; have hk3 := hk2.trans hk0; clear hk0 hk2)
            | (refine step_append_lies _ rfl _ _ 23 rfl w.heap.size 37 i0 _ 6 48 Ybad.underlying23 hi hz0 hz1 hz2 rfl (by decide) u3 k (flat a4 a6 (xs.take k)) rfl (own_later hown (hk3.alloc _)) ⟨w3.heap.size, 0, none⟩ 1 1 (enc3 a4 a6 (x.v6, x.s, e)) rfl rfl (news_new _ _ _ _ rfl _ rfl) (enc3_one _ _ _) (by decide) (by unfold maxLen; omega) (by omega) (by have := hk3.below.size; simp at this ⊢; omega) _ rfl ?_
               intro g cp w6 hown6 hgrow hat hlt6
               have hS6 := hS6of w6 u3.ownBlock _ hk3 hgrow (fun j hj => (hown.lt j hj).2)
               have hB6 := hB6of w6 u3.ownBlock _ hk3 hgrow (fun j hj => hown.lt j hj))
            | fail)
        rw [← hfl] at hown6
        clear hat hgrow hlt6
        go_wp2
        go_roundw
        case rel => first | exact ⟨k + 1, by omega, by go_num, hown6, hB6⟩ | ((repeat apply Exists.intro); exact ⟨⟨k + 1, by omega, by go_num, hown6, hB6⟩, rfl⟩)
        case measure => simp [intOf]; omega
    · have : n = k := by omega
      subst this
      clear hlt hk
      go_wp2
      go_ret
      refine ⟨_, rfl, ?_, hbel⟩
      rw [List.take_of_length_le (by omega)] at hown
      exact hown
end Go.Proofs.YbulkingDoor
