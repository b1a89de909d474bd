/-
  The contract of (*waitQueue[int]).claimFirst.
-/
import Derived.Test.YbulkimsLay
namespace Go.Proofs.Ybulkims
open Go.RowKit

/-- Spec i is one that claimFirst can claim. -/
def Dat.hit (d : Dat) (i : Nat) : Prop := d.sh i = false ∨ d.off i % 3 = 0

/-- The numbers fit their kinds. -/
structure Dat.ok (d : Dat) (L : Nat) : Prop where
  off : ∀ i, i < L → 0 ≤ d.off i ∧ d.off i ≤ 255
  T : ∀ i, i < L → 0 ≤ d.T i ∧ d.T i ≤ 18446744073709551615

theorem wrap_u64 (x : Int) : IntKind.u64.wrap x = x % 18446744073709551616 := by
  simp [IntKind.wrap, IntKind.signed, IntKind.bits]

theorem Dat.st_eq {d : Dat} {L i : Nat} (ok : d.ok L) (hi : i < L) : d.st i = d.T i ↔ d.off i % 3 = 0 := by
  have h1 := ok.off i hi
  have h2 := ok.T i hi
  unfold Dat.st
  rw [wrap_u64]
  omega

/-- What claimFirst leaves of the state words and of the cases chosen, k being claimed. -/
def Dat.stAt (d : Dat) (k i : Nat) : Int := if i = k ∧ d.sh k = true then IntKind.u64.wrap (d.T k + 1) else d.st i
def Dat.chAt (d : Dat) (k i : Nat) : Int := if i = k then d.I k else -7

def ptrAt (t : Value) : Nat := match t with
  | .pointer (some a) => a.block
  | _ => 0

/-- What claimFirst holds at its loop's head: the waiter p, taken off the queue, none ahead of it being claimable; or nil, none being claimable. -/
def FInv (w0 : World) (Q L : Nat) (d : Dat) (t : Value) (wr : World) : Prop :=
  (∃ p, p < L ∧ t = pt (Q + 5 + 3 * p) ∧ (∀ i, i < p → ¬ d.hit i) ∧ Lay w0 Q L L d (chain Q (p + 1) L d.st (fun _ => -7)) wr) ∨
  (t = .pointer none ∧ (∀ i, i < L → ¬ d.hit i) ∧ Lay w0 Q L L d (chain Q L L d.st (fun _ => -7)) wr)

theorem pop_inv {w0 w : World} {Q L a : Nat} {d : Dat} (hL : L < 1000) (ha : a ≤ L) (hno : ∀ i, i < a → ¬ d.hit i) (h : Lay w0 Q L L d (chain Q a L d.st (fun _ => -7)) w) :
    Calls Yba.prog 9 #[pt Q] w fun r w' => ∃ t, r = .returned t ∧ FInv w0 Q L d t w' ∧ (t = .pointer none ∨ t = pt (Q + 5 + 3 * a)) := by
  by_cases e : a < L
  · refine (pop_lay e (Nat.le_refl _) hL h).mono ?_
    rintro r w' ⟨rfl, h'⟩
    exact ⟨_, rfl, .inl ⟨a, e, rfl, hno, h'⟩, .inr rfl⟩
  · have : a = L := by omega
    subst this
    refine (pop_lay_none (Nat.le_refl _) h).mono ?_
    rintro r w' ⟨rfl, rfl⟩
    exact ⟨_, rfl, .inr ⟨rfl, hno, h⟩, .inl rfl⟩

/-- claim, at the waiter p of the loop. -/
theorem claim_inv {w0 w : World} {Q L p : Nat} {d : Dat} (ok : d.ok L) (hp : p < L) (h : Lay w0 Q L L d (chain Q (p + 1) L d.st (fun _ => -7)) w) :
    Calls Yba.prog 10 #[pt (Q + 4 + 3 * p), .int .u64 (d.T p), .int .i64 (d.I p)] w fun r w' =>
      ∃ b s, r = .returned (.bool b) ∧ Lay w0 Q L L d s w' ∧ (b = true → d.hit p ∧ Lay w0 Q L L d (chain Q (p + 1) L (d.stAt p) (d.chAt p)) w') ∧ (b = false → ¬ d.hit p ∧ Lay w0 Q L L d (chain Q (p + 1) L d.st (fun _ => -7)) w') := by
  have he := Dat.st_eq ok hp
  cases hs : d.sh p with
  | false =>
    refine (claim_lay_own hp hs h).mono ?_
    rintro r w' ⟨rfl, h'⟩
    refine ⟨true, _, rfl, h', fun _ => ⟨.inl hs, h'.turn rfl rfl rfl (fun _ _ => rfl) (fun _ _ => rfl) ?_ ?_⟩, fun e => by cases e⟩
    · intro i hi; simp [chain, Dat.stAt, hs]
    · intro i hi; simp [chain, Dat.chAt]
  | true =>
    by_cases ht : d.st p = d.T p
    · refine (claim_lay_hit hp hs ht h).mono ?_
      rintro r w' ⟨rfl, h'⟩
      refine ⟨true, _, rfl, h', fun _ => ⟨.inr (he.1 ht), h'.turn rfl rfl rfl (fun _ _ => rfl) (fun _ _ => rfl) ?_ ?_⟩, fun e => by cases e⟩
      · intro i hi; simp [chain, Dat.stAt, hs]
      · intro i hi; simp [chain, Dat.chAt]
    · refine (claim_lay_miss hp hs ht h).mono ?_
      rintro r w' ⟨rfl, rfl⟩
      refine ⟨false, _, rfl, h, (fun e => by cases e), fun _ => ⟨?_, h⟩⟩
      rintro (h1 | h1)
      · rw [hs] at h1; cases h1
      · exact ht (he.2 h1)

set_option maxHeartbeats 1600000 in
set_option maxRecDepth 100000 in
theorem first_any {w0 w : World} {Q L : Nat} {d : Dat} (hL : L < 1000) (ok : d.ok L) (h : Lay w0 Q L L d (chain Q 0 L d.st (fun _ => -7)) w) :
    Calls Yba.prog 6 #[pt Q] w fun r w' =>
      (∃ k, k < L ∧ d.hit k ∧ (∀ i, i < k → ¬ d.hit i) ∧ r = .returned (pt (Q + 5 + 3 * k)) ∧ Lay w0 Q L L d (chain Q (k + 1) L (d.stAt k) (d.chAt k)) w') ∨
      ((∀ i, i < L → ¬ d.hit i) ∧ r = .returned (.pointer none) ∧ Lay w0 Q L L d (chain Q L L d.st (fun _ => -7)) w') := by
  go_enter Yba.func6, Yba.ntmps6
  go_wp2_with fail
  refine (pop_inv hL (Nat.zero_le _) (fun i hi => by omega) h).mono ?_
  rintro r w1 ⟨t, rfl, hinv, _⟩
  clear h
  go_wp2
  go_loopw [3] (fun t wr => FInv w0 Q L d t wr) (fun t _ => if ptrAt t = 0 then 0 else Q + 5 + 3 * L - ptrAt t)
  case atStart => exact hinv
  case round =>
    clear hinv
    rcases hrel with ⟨p, hp, rfl, hno, hl⟩ | ⟨rfl, hno, hl⟩
    · have c4 := hl.n4 p hp
      have c5 := hl.n5 p hp
      have c6 := hl.n6 p hp
      go_wp2_with fail
      go_region_held3 (fun w' => w'.cell? ⟨Q + 5 + 3 * p, 4, none⟩ = some (pt (Q + 4 + 3 * p)) ∧ w'.cell? ⟨Q + 5 + 3 * p, 5, none⟩ = some (.int .u64 (d.T p)) ∧ w'.cell? ⟨Q + 5 + 3 * p, 6, none⟩ = some (.int .i64 (d.I p)))
        (first | exact ⟨c4, c5, c6⟩ | exact ⟨(by assumption : Lay w0 Q L L d _ _).n4 p hp, (by assumption : Lay w0 Q L L d _ _).n5 p hp, (by assumption : Lay w0 Q L L d _ _).n6 p hp⟩)
        (first | (go_at_call 10; refine (claim_inv ok hp hl.drew).mono ?_; rintro e w' ⟨b, s, rfl, hs, hyes, hnot⟩))
      clear c4 c5 c6 hl hs
      cases b with
      | true =>
        obtain ⟨hh, hl'⟩ := hyes rfl
        clear hyes hnot
        go_wp2
        go_ret
        exact .inl ⟨p, hp, hh, hno, rfl, hl'⟩
      | false =>
        obtain ⟨hh, hl'⟩ := hnot rfl
        clear hyes hnot
        have hno' : ∀ i, i < p + 1 → ¬ d.hit i := fun i hi => by
          by_cases e : i = p
          · rw [e]; exact hh
          · exact hno i (by omega)
        go_wp2_with fail
        refine (pop_inv hL (by omega) hno' hl').mono ?_
        rintro r w2 ⟨t2, rfl, hinv, hwhich⟩
        go_wp2
        go_roundw
        case rel => exact hinv
        case measure =>
          rcases hwhich with rfl | rfl
          · simp [ptrAt]; omega
          · simp [ptrAt]; omega
    · go_wp2
      go_ret
      exact .inr ⟨hno, rfl, hl⟩

/-- k is the first spec that can be claimed; L if there is none. -/
structure Dat.First (d : Dat) (L k : Nat) : Prop where
  le : k ≤ L
  hit : k < L → d.hit k
  no : ∀ i, i < k → ¬ d.hit i

/-- What claimFirst hands back. -/
def gotAt (Q L k : Nat) : Value := if k < L then pt (Q + 5 + 3 * k) else .pointer none
/-- From where on the queue stands behind it. -/
def startAt (L k : Nat) : Nat := if k < L then k + 1 else L

theorem first_at {w0 w : World} {Q L k : Nat} {d : Dat} (hL : L < 1000) (ok : d.ok L) (hk : d.First L k) (h : Lay w0 Q L L d (chain Q 0 L d.st (fun _ => -7)) w) :
    Calls Yba.prog 6 #[pt Q] w fun r w' => r = .returned (gotAt Q L k) ∧ Lay w0 Q L L d (chain Q (startAt L k) L (d.stAt k) (d.chAt k)) w' := by
  refine (first_any hL ok h).mono ?_
  rintro r w' (⟨k', h1, h2, h3, rfl, hl⟩ | ⟨h1, rfl, hl⟩)
  · have e : k' = k := by
      have a1 : ¬ k' < k := fun e => hk.no k' e h2
      have a2 : ¬ k < k' := fun e => h3 k e (hk.hit (by omega))
      omega
    subst e
    simp only [gotAt, startAt, if_pos h1]
    exact ⟨trivial, hl⟩
  · have e : ¬ k < L := fun e => h1 k e (hk.hit e)
    have e' : k = L := by have := hk.le; omega
    simp only [gotAt, startAt, if_neg e]
    refine ⟨trivial, hl.turn rfl rfl rfl (fun _ _ => rfl) (fun _ _ => rfl) ?_ ?_⟩
    · intro i hi
      simp only [chain, Dat.stAt]
      rw [if_neg (by omega)]
    · intro i hi
      simp only [chain, Dat.chAt]
      rw [if_neg (by omega)]
end Go.Proofs.Ybulkims
