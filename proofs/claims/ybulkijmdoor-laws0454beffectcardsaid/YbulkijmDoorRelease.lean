/-
  The contracts of (*Pool).Release: on a pool that has been released, and on an open one.
-/
import Derived.Test.YbulkijmDoorRetire
import Derived.Test.YbulkijmDoorSend
import Derived.Conc.MuLone
namespace Go.Proofs.YbulkijmDoor
open Go.RowKit Go.Conc Go.MuLone
set_option linter.unusedVariables false

/-- The whole state, written out. -/
def C (K m : Nat) (E : Value) (rw rq : Option Obj) (st wt mu wk : Int) (idle : Value) (ex : Bool) (kc a snt rcv : Nat) : Dsc where
  p := { st := st, wt := wt, mu := mu, wk := wk, idle := idle, head := if a < m then pt (K + 2 + 3 * a) else .pointer none, tail := if a < m then pt (K + 2 + 3 * (m - 1)) else .pointer none, cnt := (m : Int) - a }
  ex := ex
  cl := fun i => decide (i < kc)
  prev := fun i => if a < i ∧ i < m then pt (K + 2 + 3 * (i - 1)) else .pointer none
  next := fun i => if a ≤ i ∧ i + 1 < m then pt (K + 2 + 3 * (i + 1)) else .pointer none
  buf := fun i => if rcv ≤ i ∧ i < snt then #[E] else #[]
  sn := fun i => if i < snt then 1 else 0
  rc := fun i => if i < rcv then 1 else 0
  rw := rw
  rq := rq

def ptrAt (t : Value) : Nat := match t with
  | .pointer (some a) => a.block
  | _ => 0

/-- Release's mark. -/
abbrev CL : Int := 9223372036854775808

variable {w0 w : World} {B K n m : Nat} {E : Value} {rw rq : Option Obj} {st wt mu wk : Int} {idle : Value} {ex : Bool} {kc a snt rcv : Nat}

set_option maxHeartbeats 800000 in
set_option maxRecDepth 100000 in
theorem release_closed (hK : B + 3 + 3 * n ≤ K) (hc : (bits .and .u64 st CL != 0) = true) (h : Lay w0 B K n m (C K m E rw rq st wt 0 wk idle ex kc a snt rcv) w) :
    Calls Ybad.prog 9 #[pt (B + 1)] w fun r w' => r = .returned (.tuple #[]) ∧ Lay w0 B K n m (C K m E rw rq (bits .or .u64 st CL) wt 0 wk idle ex kc a snt rcv) w' := by
  have c15 : w.cell? ⟨B + 1, 15, none⟩ = some (.int .i32 0) := h.c15
  have f15 := h.fz 15
  go_enter_defers Ybad.func9, Ybad.ntmps9
  go_wp2_with fail
  refine (lock_free Ybad.muLib ⟨B + 1, 15, none⟩ _ c15 f15).mono ?_
  rintro r w1 ⟨rfl, hw⟩
  have h1 : Lay w0 B K n m (C K m E rw rq st wt 1 wk idle ex kc a snt rcv) w1 := by rw [hw]; exact h.setMu hK 1
  clear hw h c15 f15
  go_wp2_with fail
  have c12 : w1.cell? ⟨B + 1, 12, none⟩ = some (.int .u64 st) := h1.c12
  refine (or64 (B + 1) 12 st CL _ c12 (h1.fz 12)).mono ?_
  rintro r w2 ⟨rfl, hw⟩
  have h2 : Lay w0 B K n m (C K m E rw rq (bits .or .u64 st CL) wt 1 wk idle ex kc a snt rcv) w2 := by rw [← hw]; exact h1.setSt hK _
  clear hw h1 c12
  go_wp2_with fail
  refine (closed_any _ _).mono ?_
  rintro r w3 ⟨rfl, rfl⟩
  rw [hc]
  clear hc
  go_wp2
  refine leaves_cons (f := 18) (args := #[.pointer (some ⟨B + 1, 15, none⟩)]) (by simp) (by simp [go_sem]) ?_
  refine (unlock_deferred Ybad.muLib ⟨B + 1, 15, none⟩ .returning _ h2.c15 (h2.fz 15)).mono ?_
  rintro e u' w'' ⟨rfl, rfl, hw⟩
  refine ⟨_, results_none rfl _ _ _, rfl, ?_⟩
  rw [hw]
  exact h2.setMu hK 0

/-- What Release holds at its loop's head. -/
def LInv (w0 : World) (B K n m : Nat) (E : Value) (rw rq : Option Obj) (st wk : Int) (idle : Value) (t : Value) (wr : World) : Prop :=
  (∃ k, k < m ∧ t = pt (K + 2 + 3 * k) ∧ Lay w0 B K n m (C K m E rw rq st ((m : Int) - ((k + 1 : Nat) : Int)) 1 wk idle false n (k + 1) k 0) wr) ∨
  (t = .pointer none ∧ Lay w0 B K n m (C K m E rw rq st 0 1 wk idle false n m m 0) wr)

theorem popW_inv (hK : B + 3 + 3 * n ≤ K) (hm : m ≤ 1024) (ha : a ≤ m) (h : Lay w0 B K n m (C K m E rw rq st ((m : Int) - (a : Int)) 1 wk idle false n a a 0) w) :
    Calls Ybad.prog 22 #[pt (B + 1)] w fun r w' => ∃ t, r = .returned t ∧ LInv w0 B K n m E rw rq st wk idle t w' ∧ (t = .pointer none ∨ t = pt (K + 2 + 3 * a)) := by
  by_cases e : a < m
  · refine (popWaiter_some (s := C K m E rw rq st ((m : Int) - (a : Int)) 1 wk idle false n a a 0) (x := (m : Int) - (a : Int)) hK (by omega) e (Nat.le_refl _) (by omega) h).mono ?_
    rintro r w' ⟨rfl, h'⟩
    refine ⟨_, rfl, .inl ⟨a, e, rfl, ?_⟩, .inr rfl⟩
    rw [show (m : Int) - ((a + 1 : Nat) : Int) = (m : Int) - (a : Int) + -1 by omega]
    exact h'
  · have : a = m := by omega
    subst this
    refine (popWaiter_none (s := C K a E rw rq st ((a : Int) - (a : Int)) 1 wk idle false n a a 0) (Nat.le_refl _) h).mono ?_
    rintro r w' ⟨rfl, rfl⟩
    refine ⟨_, rfl, .inr ⟨rfl, ?_⟩, .inl rfl⟩
    rw [show (a : Int) - (a : Int) = 0 by omega] at h
    exact h

def mu2 (K m : Nat) (t : Value) : Nat := if ptrAt t = 0 then 0 else K + 2 + 3 * m - ptrAt t

/-- Release's frame and world at its loop's head. -/
def RInv (w0 : World) (B K n m : Nat) (E : Value) (rw rq : Option Obj) (st st2 wk : Int) (idle : Value) (sa : Option Addr) (cap : Nat) (t0 : Value) (a' : Act) (wr : World) : Prop :=
  ∃ t u38 u39 u40 u41 u42 u43 u44 u45 u46 u47, a' = ⟨#[pt (B + 1), undef, t, pt (B + 1), .pointer (some ⟨B + 1, 0, none⟩), .pointer (some ⟨B + 1, 15, none⟩), .tuple #[], pt (B + 1), .pointer (some ⟨B + 1, 0, none⟩), .pointer (some ⟨B + 1, 15, none⟩), pt (B + 1), .pointer (some ⟨B + 1, 0, none⟩), .pointer (some ⟨B + 1, 12, none⟩), .int .u64 st, .bool false, pt (B + 1), pt (B + 1), .pointer (some ⟨B + 1, 0, none⟩), .pointer (some ⟨B + 1, 18, none⟩), .slice sa n cap, .int .i64 n, .tuple #[], pt (B + 1), .pointer (some ⟨B + 1, 0, none⟩), .pointer (some ⟨B + 1, 22, none⟩), .bool false, .bool false, undef, undef, undef, undef, undef, .bool false, undef, undef, undef, pt (B + 1), t0, u38, u39, u40, u41, u42, u43, u44, u45, u46, u47, undef, undef], [{ target := Target.fn (Fn.func 18) #[], args := #[Value.pointer (some { block := B + 1, off := 15 })] }]⟩ ∧ LInv w0 B K n m E rw rq st2 wk idle t wr

set_option maxHeartbeats 1600000 in
set_option maxRecDepth 100000 in
theorem release_open (hK : B + 3 + 3 * n ≤ K) (hn : n ≤ 1024) (hm : m ≤ 1024) (hwk : 0 ≤ wk ∧ wk ≤ 5000) {R : Int} (hc : (bits .and .u64 st CL != 0) = false) (hc2 : (bits .and .u64 (bits .or .u64 st CL) CL != 0) = true)
    (hR : bits .and .u64 (bits .or .u64 st CL) 2147483647 = R) (hR0 : 0 ≤ R) (hR1 : R ≤ 2147483647) (hE : w0.cell? ⟨0, 0, none⟩ = some E) (hB : 0 < B)
    (hidle : IdleIs w B K n m idle) (h : Lay w0 B K n m (C K m E rw rq st m 0 wk idle false 0 0 0 0) w) :
    Calls Ybad.prog 9 #[pt (B + 1)] w fun r w' => r = .returned (.tuple #[]) ∧ ∃ sa c, Lay w0 B K n m (C K m E rw rq (bits .or .u64 st CL) 0 0 (wk - n) (.slice sa 0 c) (exitsB R (wk - n)) n m m 0) w' := by
  have c15 : w.cell? ⟨B + 1, 15, none⟩ = some (.int .i32 0) := h.c15
  have f15 := h.fz 15
  refine Comm.calls_of_wpN_defers Ybad.func9 rfl ?_
  simp only [Ybad.ntmps9, List.size_toArray, List.length_cons, List.length_nil, Nat.reduceAdd, Nat.reduceSub, Array.replicate_succ,
     Array.replicate_zero, List.push_toArray, List.append_toArray, List.nil_append, List.cons_append]
  refine Comm.wpN_seq_k fun K' hK' => ?_
  go_wp2_with fail
  refine (lock_free Ybad.muLib ⟨B + 1, 15, none⟩ _ c15 f15).mono ?_
  rintro r w1 ⟨rfl, hw⟩
  have hid1 : IdleIs w1 B K n m idle := by
    rcases hidle with h' | ⟨hp, I, cap, e1, e2, e3, e4, e5⟩
    · exact .inl h'
    · refine .inr ⟨hp, I, cap, e1, e2, e3, e4, ?_⟩
      rw [hw, Below.heap_setCell _ _ _ _ (by simp; omega)]; exact e5
  have h1 : Lay w0 B K n m (C K m E rw rq st m 1 wk idle false 0 0 0 0) w1 := by rw [hw]; exact h.setMu hK 1
  clear hw h c15 f15 hidle
  go_wp2
  refine Comm.wpN_seq_k fun K' hK' => ?_
  go_wp2
  refine Comm.wpN_seq_k fun K' hK' => ?_
  go_wp2_with fail
  have c12 : w1.cell? ⟨B + 1, 12, none⟩ = some (.int .u64 st) := h1.c12
  refine (or64 (B + 1) 12 st CL _ c12 (h1.fz 12)).mono ?_
  rintro r w2 ⟨rfl, hw⟩
  have hid2 : IdleIs w2 B K n m idle := by
    rcases hid1 with h' | ⟨hp, I, cap, e1, e2, e3, e4, e5⟩
    · exact .inl h'
    · refine .inr ⟨hp, I, cap, e1, e2, e3, e4, ?_⟩
      rw [← hw, Below.heap_setCell _ _ _ _ (by simp; omega)]; exact e5
  have h2 : Lay w0 B K n m (C K m E rw rq (bits .or .u64 st CL) m 1 wk idle false 0 0 0 0) w2 := by rw [← hw]; exact h1.setSt hK _
  clear hw h1 c12 hid1
  go_wp2_with fail
  refine (closed_any _ _).mono ?_
  rintro r w3 ⟨rfl, rfl⟩
  rw [hc]
  clear hc
  generalize bits .or .u64 st CL = st2 at *
  go_wp2
  refine Comm.wpN_seq_k fun K' hK' => ?_
  obtain ⟨sa, cap, hform⟩ : ∃ sa cap, idle = .slice sa n cap := by
    rcases hid2 with ⟨e1, e2⟩ | ⟨hp, I, cap, e1, _⟩
    · exact ⟨none, 0, by rw [e2, e1]⟩
    · exact ⟨_, _, e1⟩
  have c18 : w2.cell? ⟨B + 1, 18, none⟩ = some idle := h2.c18
  rw [hform] at c18
  go_wp2_with fail
  refine (retire_lay (s := C K m E rw rq st2 m 1 wk idle false 0 0 0 0) hK hn hwk hid2 h2).mono ?_
  rintro r w3 ⟨rfl, sa', cap', h3⟩
  have h3' : Lay w0 B K n m (C K m E rw rq st2 m 1 (wk - n) (.slice sa' 0 cap') false n 0 0 0) w3 := h3
  clear h3 h2 hid2 c18 hform
  have c22 : w3.cell? ⟨B + 1, 22, none⟩ = some (.bool false) := h3'.c22
  go_wp2
  refine Comm.wpN_seq_k fun K' hK' => ?_
  go_wp2
  clear c22
  refine Comm.wpN_seq ?_
  refine Comm.wpN_seq_k fun K' hK' => ?_
  go_wp2_with fail
  refine (popW_inv (a := 0) hK hm (Nat.zero_le _) (by simpa using h3')).mono ?_
  rintro r w4 ⟨t0, rfl, hinv, _⟩
  clear h3'
  go_wp2
  refine Comm.wpN_block ?_
  refine Comm.wpN_loop (RInv w0 B K n m E rw rq st st2 (wk - n) (.slice sa' 0 cap') sa cap t0) (fun a' _ => mu2 K m (a'.tmps.getD 2 undef)) ⟨t0, undef, undef, undef, undef, undef, undef, undef, undef, undef, undef, rfl, hinv⟩ ?_
  clear hinv
  rintro a' wr ⟨t, u38, u39, u40, u41, u42, u43, u44, u45, u46, u47, rfl, hinv⟩
  refine Comm.wpN_seq_k fun K' hK' => ?_
  rcases hinv with ⟨k, hk, rfl, hl⟩ | ⟨rfl, hl⟩
  · go_wp2
    refine Comm.wpN_seq (Comm.wpN_block ?_)
    have hEr : wr.cell? ⟨0, 0, none⟩ = some E := (hl.bel.cell (p := ⟨0, 0, none⟩) hB).trans hE
    have hcr : wr.heap[K + 1 + 3 * k]? = some (.chan 1 #[] false 0 0 false) := by
      have := hl.hdc k hk
      simpa [C] using this
    have hl2 : Lay w0 B K n m (C K m E rw rq st2 ((m : Int) - ((k + 1 : Nat) : Int)) 1 (wk - n) (.slice sa' 0 cap') false n (k + 1) (k + 1) 0) (wr.drew.setChan (K + 1 + 3 * k) 1 #[E] false (0 + 1) 0 false) := by
      refine (hl.drew.dc hK k (Upd.setChan (w := wr.drew) hcr 1 #[E] false (0 + 1) 0 false)).turn rfl rfl (fun _ _ => rfl) (fun _ _ => rfl) (fun _ _ => rfl) ?_ ?_ ?_ rfl rfl
      · intro i hi
        simp only [C]
        by_cases e : i = k
        · rw [if_pos e, if_pos (by omega)]
        · rw [if_neg e]
          by_cases e2 : 0 ≤ i ∧ i < k
          · rw [if_pos e2, if_pos (by omega)]
          · rw [if_neg e2, if_neg (by omega)]
      · intro i hi
        simp only [C]
        by_cases e : i = k
        · rw [if_pos e, if_pos (by omega)]
        · rw [if_neg e]
          by_cases e2 : i < k
          · rw [if_pos e2, if_pos (by omega)]
          · rw [if_neg e2, if_neg (by omega)]
      · intro i hi
        simp only [C]
        by_cases e : i = k
        · rw [if_pos e, if_neg (by omega)]
        · rw [if_neg e, if_neg (by omega)]
    refine send_region _ _ _ _ _ _ _ _ _ _ _ _ _ _ _ _ _ _ _ _ _ _ _ _ _ _ _ _ _ _ _ _ _ _ _ _ _ _ _ _ _ _ _ _ _ _ _ _ _ E (K + 2 + 3 * k) (K + 1 + 3 * k) 0 0 false _ wr _ (hl.ncell k hk).1 hEr hcr ?_
    refine Comm.wpN_of_wp ?_
    clear hcr hEr hl
    go_wp2_with fail
    refine (popW_inv (a := k + 1) hK hm (by omega) hl2).mono ?_
    rintro r w5 ⟨t5, rfl, hinv5, hwhich⟩
    go_wp2
    refine ⟨⟨t5, _, _, _, _, _, _, _, _, _, _, rfl, hinv5⟩, ?_⟩
    rcases hwhich with rfl | rfl
    · simp [mu2, ptrAt]; omega
    · simp [mu2, ptrAt]; omega
  · go_wp2
    refine Comm.wpN_of_wp ?_
    go_wp2_with fail
    refine (closeIf_lay (s := C K m E rw rq st2 0 1 (wk - n) (.slice sa' 0 cap') false n m m 0) (R := R) hl hK hc2 hR hR0 hR1).mono ?_
    rintro r w5 ⟨rfl, h5⟩
    have h6 : Lay w0 B K n m (C K m E rw rq st2 0 1 (wk - n) (.slice sa' 0 cap') (exitsB R (wk - n)) n m m 0) w5 := h5
    clear h5 hl
    go_wp2
    refine leaves_cons (f := 18) (args := #[.pointer (some ⟨B + 1, 15, none⟩)]) (by simp) (by simp [go_sem]) ?_
    refine (unlock_deferred Ybad.muLib ⟨B + 1, 15, none⟩ .returning _ h6.c15 (h6.fz 15)).mono ?_
    rintro e u' w'' ⟨rfl, rfl, hw⟩
    refine ⟨_, results_none rfl _ _ _, rfl, sa', cap', ?_⟩
    rw [hw]
    exact h6.setMu hK 0
end Go.Proofs.YbulkijmDoor
