/-
  Contracts of retireIdleLocked and closeIfExitedLocked.
-/
import Derived.Test.YbulkijmDoorChain
import Derived.Test.YbulkijmDoorDel
namespace Go.Proofs.YbulkijmDoor
open Go.RowKit Go.Conc
set_option linter.unusedVariables false

variable {w0 w : World} {B K n M : Nat} {s : Dsc}

theorem Upd.again {w w' w'' : World} {b : Nat} {o o' : Obj} (u : Upd w w' b o) (v : Upd w' w'' b o') : Upd w w'' b o' :=
  ⟨v.os.trans u.os, v.tape.trans u.tape, v.output.trans u.output, v.size.trans u.size, v.here, fun k hk => (v.other k hk).trans (u.other k hk)⟩

theorem Upd.setCells {b : Nat} {t : TypeId} {fr : Nat × Nat} : ∀ (vs : List Value) (o : Nat) (w : World) (c : Array Value), w.heap[b]? = some (.cells c t fr) → ∃ c', Upd w (w.setCells b o vs) b (.cells c' t fr)
  | [], _, _, c, h => ⟨c, rfl, rfl, rfl, rfl, h, fun _ _ => rfl⟩
  | v :: r, o, w, c, h => by
    have u := Upd.setCell h o v
    obtain ⟨c', u'⟩ := Upd.setCells r (o + 1) _ _ u.here
    exact ⟨c', u.again u'⟩

/-- The pool's list of idle workers, all n of them: nil, or a row of its own. -/
def IdleIs (w : World) (B K n M : Nat) (v : Value) : Prop :=
  (n = 0 ∧ v = .slice none 0 0) ∨
  (0 < n ∧ ∃ I cap, v = .slice (some ⟨I, 0, none⟩) n cap ∧ n ≤ cap ∧ B + 3 + 3 * n ≤ I ∧ I < K ∧ RowIs w.heap[I]? 62 n (fun i => pt (B + 4 + 3 * i)))

/-- The first k wakes are closed. -/
def shut (k : Nat) (s : Dsc) : Dsc := { s with cl := fun i => decide (i < k) }
def withIdle (v : Value) (x : Int) (s : Dsc) : Dsc := { s with p := { s.p with idle := v, wk := x } }

theorem close_wake {k : Nat} (h : Lay w0 B K n M (shut k s) w) (hK : B + 3 + 3 * n ≤ K) (hk : k < n) :
    Lay w0 B K n M (shut (k + 1) s) (w.setChan (B + 3 + 3 * k) 1 #[] true 0 0 false) := by
  refine (h.cw hK k hk (Upd.setChan (h.hcw k hk) 1 #[] true 0 0 false)).turn rfl rfl (fun i hi => ?_) (fun _ _ => rfl) (fun _ _ => rfl) (fun _ _ => rfl) (fun _ _ => rfl) (fun _ _ => rfl) rfl rfl
  simp only [shut]
  by_cases e : i = k
  · rw [if_pos e]; simp [e]
  · rw [if_neg e]; simp; omega

set_option maxHeartbeats 800000 in
set_option maxRecDepth 100000 in
theorem retire_lay (hK : B + 3 + 3 * n ≤ K) (hn : n ≤ 1024) {v : Value} {x : Int} (hx : 0 ≤ x ∧ x ≤ 5000) (hv : IdleIs w B K n M v) (h : Lay w0 B K n M (shut 0 (withIdle v x s)) w) :
    Calls Ybad.prog 20 #[pt (B + 1), .int .i64 n] w fun r w' => r = .returned (.tuple #[]) ∧ ∃ sa c, Lay w0 B K n M (shut n (withIdle (.slice sa 0 c) (x - n) s)) w' := by
  have hnI : (n : Int) ≤ 1024 := by omega
  rcases hv with ⟨rfl, rfl⟩ | ⟨hpos, I, cap, rfl, hcap, hI1, hI2, hrow⟩
  · have c18 : w.cell? ⟨B + 1, 18, none⟩ = some (.slice none 0 0) := h.c18
    have c17 : w.cell? ⟨B + 1, 17, none⟩ = some (.int .i64 x) := h.c17
    have f18 := h.fz 18
    have f17 := h.fz 17
    go_enter Ybad.func20, Ybad.ntmps20
    go_wp2
    go_loopw [13] (fun i wr => i = .int .i64 0 ∧ wr = w) (fun _ _ => 0)
    case atStart => exact ⟨rfl, rfl⟩
    case round =>
      obtain ⟨rfl, rfl⟩ := hrel
      go_wp2_with fail
      refine (delete_none none 0 _).mono ?_
      rintro r w1 ⟨rfl, rfl⟩
      go_wp2
      go_end0
      refine ⟨rfl, none, 0, ?_⟩
      rw [show x - ((0 : Nat) : Int) = x by omega]
      exact ((h.setIdle hK (.slice none 0 0)).setWk hK x).turn rfl rfl (fun _ _ => rfl) (fun _ _ => rfl) (fun _ _ => rfl) (fun _ _ => rfl) (fun _ _ => rfl) (fun _ _ => rfl) rfl rfl
  · have c18 : w.cell? ⟨B + 1, 18, none⟩ = some (.slice (some ⟨I, 0, none⟩) n cap) := h.c18
    go_enter Ybad.func20, Ybad.ntmps20
    go_wp2
    go_loopw [13] (fun i wr => ∃ k : Nat, k ≤ n ∧ i = .int .i64 k ∧ Lay w0 B K n M (shut k (withIdle (.slice (some ⟨I, 0, none⟩) n cap) x s)) wr ∧ wr.heap[I]? = w.heap[I]?) (fun i _ => n - (intOf i).toNat)
    case atStart => exact ⟨0, Nat.zero_le _, rfl, h, rfl⟩
    case round =>
      obtain ⟨k, hk, rfl, hl, hI⟩ := hrel
      by_cases hlt : k < n
      · have cr := hrow.cell hI k hlt
        have c1 : wr.cell? ⟨B + 4 + 3 * k, 1, none⟩ = some (.chan (some (B + 3 + 3 * k))) := by rw [cell_of (hl.hwk k hlt)]; rfl
        have hh : wr.heap[B + 3 + 3 * k]? = some (.chan 1 #[] false 0 0 false) := by have := hl.hcw k hlt; simpa [shut] using this
        have hcl := fun ats ty => run_close_open (P := Ybad.prog) (w := wr) ats ty hh
        have hl2 := close_wake hl hK hlt
        have hI' : (wr.setChan (B + 3 + 3 * k) 1 #[] true 0 0 false).heap[I]? = w.heap[I]? := by
          rw [(Upd.setChan hh 1 #[] true 0 0 false).other I (by omega)]; exact hI
        clear hh hl hI hrow h
        go_wp2
        go_roundw
        case rel => exact ⟨k + 1, by omega, by go_num, hl2, hI'⟩
        case measure => simp [intOf]; omega
      · have e : n = k := by omega
        subst e
        have c18' : wr.cell? ⟨B + 1, 18, none⟩ = some (.slice (some ⟨I, 0, none⟩) n cap) := hl.c18
        clear hlt hk c18
        go_wp2_with fail
        have hrc : ∀ j, j < n → (wr.cell? ⟨I, j, none⟩).isSome = true := fun j hj => by rw [hrow.cell hI j hj]; rfl
        obtain ⟨cur, hcur, _⟩ := hrow
        have hIc : wr.heap[I]? = some (.cells cur 62 (0, 0)) := by rw [hI]; exact hcur
        refine (delete_all I n cap _ hpos (by omega) hcap hrc (frozen_of hIc)).mono ?_
        rintro r w1 ⟨rfl, hw⟩
        have hl1 : Lay w0 B K n M (shut n (withIdle (.slice (some ⟨I, 0, none⟩) n cap) x s)) w1 := by
          rw [← hw]
          obtain ⟨c', u⟩ := Upd.setCells (List.replicate n (.pointer none)) 0 wr.drew cur hIc
          exact hl.drew.aside u (by omega) (by omega) (by omega) (fun i hi => by omega) (fun i hi => by omega) (by omega) (by omega)
        clear hw hl hIc hcur hI hrc h
        have d18 : w1.cell? ⟨B + 1, 18, none⟩ = some (.slice (some ⟨I, 0, none⟩) n cap) := hl1.c18
        have d17 : w1.cell? ⟨B + 1, 17, none⟩ = some (.int .i64 x) := hl1.c17
        have f18 := hl1.fz 18
        have f17 := hl1.fz 17
        go_wp2
        go_end0
        refine ⟨rfl, some ⟨I, 0, none⟩, cap, ?_⟩
        exact ((hl1.setIdle hK (.slice (some ⟨I, 0, none⟩) 0 cap)).setWk hK (x - n)).turn rfl rfl (fun _ _ => rfl) (fun _ _ => rfl) (fun _ _ => rfl) (fun _ _ => rfl) (fun _ _ => rfl) (fun _ _ => rfl) rfl rfl

/-- Nothing runs and no worker is left. -/
def exitsB (R wk : Int) : Bool := decide (R = 0 ∧ wk = 0)

/-- Whether the pool has exited. -/
def withEx (x : Bool) (s : Dsc) : Dsc := { s with ex := x }

set_option maxHeartbeats 800000 in
set_option maxRecDepth 100000 in
theorem closeIf_lay {R : Int} (h : Lay w0 B K n M (withEx false s) w) (hK : B + 3 + 3 * n ≤ K) (hc : (bits .and .u64 s.p.st 9223372036854775808 != 0) = true) (hR : bits .and .u64 s.p.st 2147483647 = R) (h0 : 0 ≤ R) (h1 : R ≤ 2147483647) :
    Calls Ybad.prog 23 #[pt (B + 1)] w fun r w' => r = .returned (.tuple #[]) ∧ Lay w0 B K n M (withEx (exitsB R s.p.wk) s) w' := by
  have c12 : w.cell? ⟨B + 1, 12, none⟩ = some (.int .u64 s.p.st) := h.c12
  have c17 : w.cell? ⟨B + 1, 17, none⟩ = some (.int .i64 s.p.wk) := h.c17
  have c22 := h.c22
  have c24 := h.c24
  have hX : w.heap[B]? = some (.chan 0 #[] false 0 0 false) := h.hX
  have HR : Hid (bits .and .u64 s.p.st 2147483647 = R) := hR
  clear hR
  go_enter Ybad.func23, Ybad.ntmps23
  go_wp2_with fail
  refine (load64 (B + 1) 12 _ _ c12).mono ?_
  rintro r w' ⟨rfl, rfl⟩
  go_wp2_with fail
  refine (closed_any _ _).mono ?_
  rintro r w' ⟨rfl, rfl⟩
  rw [hc]
  clear hc
  go_wp2_with fail
  refine (running_any _ _ (by rw [HR.out]; exact h0) (by rw [HR.out]; exact h1)).mono ?_
  rintro r w' ⟨rfl, rfl⟩
  rw [HR.out]
  by_cases e : R = 0
  · subst e
    go_wp2_with fail
    refine (gorout_any (B + 1) _ _ c22 c17).mono ?_
    rintro r w' ⟨rfl, rfl⟩
    by_cases e2 : s.p.wk = 0
    · have hcl := fun ats ty => run_close_open (P := Ybad.prog) (w := w) ats ty hX
      have hl : Lay w0 B K n M (withEx true s) (w.setChan B 0 #[] true 0 0 false) :=
        (h.exi hK (Upd.setChan hX 0 #[] true 0 0 false)).turn rfl rfl (fun _ _ => rfl) (fun _ _ => rfl) (fun _ _ => rfl) (fun _ _ => rfl) (fun _ _ => rfl) (fun _ _ => rfl) rfl rfl
      have e2' : (s.p.wk == 0) = true := by simp [e2]
      have hd : Hid (exitsB 0 s.p.wk = true) := by unfold Hid exitsB; simp [e2]
      clear hX h c17 e2
      go_wp2
      go_end0
      exact ⟨rfl, by rw [hd.out]; exact hl⟩
    · have e2' : (s.p.wk == 0) = false := by simp [e2]
      have hd : Hid (exitsB 0 s.p.wk = false) := by unfold Hid exitsB; simp [e2]
      clear hX c17 e2
      go_wp2
      go_end0
      exact ⟨rfl, by rw [hd.out]; exact h⟩
  · have e' : (R == 0) = false := by simp [e]
    have hd : Hid (exitsB R s.p.wk = false) := by unfold Hid exitsB; simp [e]
    clear hX c17
    go_wp2
    go_end0
    exact ⟨rfl, by rw [hd.out]; exact h⟩
end Go.Proofs.YbulkijmDoor
