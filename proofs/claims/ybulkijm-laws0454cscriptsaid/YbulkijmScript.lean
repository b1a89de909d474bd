/-
  The walk of LawS0454CScript.
-/
import Derived.Test.YbulkijmPop
namespace Go.Proofs.Ybulkijm
open Go.RowKit Go.MuLone

theorem ownsRow_form {w : World} {base n : Nat} {v : Value} {xs : List Value} (h : w.ownsRow base 35 1 v (n + 1) xs) : ∃ g c, v = .slice (some ⟨g, 0, none⟩) (n + 1) c := by
  rcases h.2 with ⟨_, h0⟩ | ⟨g, c, _, hv, _⟩
  · omega
  · exact ⟨g, c, hv⟩

set_option maxHeartbeats 800000 in
set_option maxRecDepth 100000 in
theorem script_long (sa : Option Addr) (len cap : Nat) (w : World) (h : 1024 < len) (hm : len ≤ maxLen) :
    Calls Yba.prog 6 #[.slice sa len cap] w fun e w' => e = .returned (.bool true) ∧ Below w.heap.size w w' := by
  unfold maxLen at hm
  have h' : (1024 : Int) < len := by omega
  go_enter Yba.func6, Yba.ntmps6
  go_wp2
  go_ret
  exact ⟨rfl, Below.refl _ _⟩

set_option maxHeartbeats 800000 in
set_option maxRecDepth 100000 in
theorem script_none (sa : Option Addr) (cap : Nat) (w : World) :
    Calls Yba.prog 6 #[.slice sa 0 cap] w fun e w' => e = .returned (.bool true) ∧ Below w.heap.size w w' := by
  go_enter Yba.func6, Yba.ntmps6
  go_wp2
  go_loopw [4, 15] (fun _ i wr => i = .int .i64 0 ∧ Below w.heap.size w wr) (fun _ _ _ => 0)
  case atStart => exact ⟨rfl, (Below.refl _ _).alloc (Nat.le_refl _) _⟩
  case round =>
    obtain ⟨rfl, hb⟩ := hrel
    go_wp2
    go_ret
    exact ⟨rfl, hb⟩

set_option maxHeartbeats 800000 in
set_option maxRecDepth 100000 in
theorem script_some (b off len cap : Nat) (Z : Nat → Bool) (w : World) (hlen : len ≤ 1024) (hb : b < w.heap.size) (hcell : ∀ i, i < len → w.cell? ⟨b, off + i, none⟩ = some (.bool (Z i))) :
    Calls Yba.prog 6 #[.slice (some ⟨b, off, none⟩) len cap] w fun e w' => e = .returned (.bool true) ∧ Below w.heap.size w w' := by
  have h' : (len : Int) ≤ 1024 := by omega
  obtain ⟨i0, hi, hz0, hz1, hz2⟩ := info_parts Yba.info35
  go_enter Yba.func6, Yba.ntmps6
  go_wp2
  go_loopw [4, 15] (fun t i wr => ∃ (k n c : Nat) (sa : Option Addr), k ≤ len ∧ i = .int .i64 k ∧ n ≤ k ∧ t = .int .i64 n ∧ PInv w.heap.size w wr sa n c) (fun _ i _ => len - (intOf i).toNat)
  case atStart =>
    refine ⟨0, 0, 0, none, Nat.zero_le _, rfl, Nat.le_refl _, rfl, ?_⟩
    exact ⟨by simp [go_sem], fun j => by simp [go_sem], by simp [go_sem], ⟨[], World.ownsRow_nil _ _ _ _, by simp⟩, (Below.refl _ _).alloc (Nat.le_refl _) _, by simp⟩
  case round =>
    obtain ⟨k, n, c, sa, hk, rfl, hn, rfl, hinv⟩ := hrel
    by_cases hlt : k < len
    · have hcx : wr.cell? ⟨b, off + k, none⟩ = some (.bool (Z k)) := (hinv.below.cell hb).trans (hcell k hlt)
      have c15 := hinv.c15
      have f15 := hinv.fz 15
      have c18 := hinv.c18
      have f18 := hinv.fz 18
      have hB := hinv.lt
      clear hcell
      cases hz : Z k with
      | true =>
        rw [hz] at hcx
        clear hz
        go_wp2_with fail
        refine (lock_free Yba.muLib ⟨w.heap.size, 15, none⟩ _ c15 f15).mono ?_
        rintro e w1 ⟨rfl, rfl⟩
        obtain ⟨xs, hown, hxs⟩ := hinv.row
        have hown1 := ownsRow_setCell_below hown (a := ⟨w.heap.size, 15, none⟩) (by simp) (.int .i32 1)
        go_wp2_with (at_builtin; refine wpList_append_own _ rfl (.tmp 28) (.tmp 31) 34 rfl (w.heap.size + 1) 35 i0 (.pointer none) 1 8 Yba.underlying34 hi hz0 hz1 hz2 rfl (by decide) (.slice sa n c) n xs rfl ((hown1.alloc _).alloc _) ⟨wr.heap.size + 1, 0, none⟩ 1 1 [.pointer (some ⟨wr.heap.size, 0, none⟩)] rfl rfl ?c1 ?c2 ?c3 ?c4 ?c5 ?_)
        case c1 =>
          intro j u hj
          match j, hj with
          | 0, hj => simp at hj; subst hj; simp [Addr.add, go_sem]
        case c2 => intro u hu; simp at hu; subst hu; rfl
        case c3 => unfold maxLen; omega
        case c4 => omega
        case c5 => simp; omega
        intro v' w1 hown' hgrow _
        obtain ⟨g', c', rfl⟩ := ownsRow_form hown'
        have R := hinv.push hxs hown' hgrow (fun q hq => (hown.lt q hq).1)
        obtain ⟨R, r18, r15, rf⟩ := R
        have rf18 := rf 18
        have rf15 := rf 15
        clear hown' hgrow hown hown1 hcx c15 f15 c18 f18 rf hinv hxs
        go_wp2_with fail
        refine (unlock_held Yba.muLib ⟨w.heap.size, 15, none⟩ _ (by rw [World.cell?_setCell_other _ _ _ _ (by simp)]; exact r15) (by rw [World.frozen?_setCell]; exact rf15)).mono ?_
        rintro e w2 ⟨rfl, hw⟩
        rw [← hw] at R
        clear hw r18 r15 rf18 rf15
        have c15 := R.c15
        have f15 := R.fz 15
        have c18 := R.c18
        go_wp2_with fail
        refine (idle_any w.heap.size (some ⟨g', 0, none⟩) (n + 1) c' _ c15 f15 c18).mono ?_
        rintro e w3 ⟨rfl, rfl⟩
        go_wp2
        go_roundw
        case rel => exact ⟨k + 1, n + 1, c', _, by omega, by go_num, by omega, by go_num, R⟩
        case measure => simp [intOf]; omega
      | false =>
        rw [hz] at hcx
        clear hz
        go_wp2_with fail
        refine (lock_free Yba.muLib ⟨w.heap.size, 15, none⟩ _ c15 f15).mono ?_
        rintro e w1 ⟨rfl, rfl⟩
        cases n with
        | zero =>
          go_wp2_with fail
          refine (pop_empty w.heap.size sa c _ (by rw [World.cell?_setCell_other _ _ _ _ (by simp)]; exact c18)).mono ?_
          rintro e w2 ⟨rfl, rfl⟩
          go_wp2_with fail
          refine (unlock_held Yba.muLib ⟨w.heap.size, 15, none⟩ _ (World.cell?_setCell_same _ _ _ c15) (by rw [World.frozen?_setCell]; exact f15)).mono ?_
          rintro e w3 ⟨rfl, hw⟩
          rw [setCell_back wr _ _ _ c15] at hw
          subst hw
          go_wp2_with fail
          refine (idle_any w.heap.size sa 0 c _ c15 f15 c18).mono ?_
          rintro e w4 ⟨rfl, rfl⟩
          go_wp2
          go_roundw
          case rel => exact ⟨k + 1, 0, c, _, by omega, by go_num, by omega, by go_num, hinv⟩
          case measure => simp [intOf]; omega
        | succ n =>
          obtain ⟨xs, hown, hxs⟩ := hinv.row
          obtain ⟨g, c0, hv⟩ := ownsRow_form hown
          cases hv
          obtain ⟨a, hc, hf, hgB, hnc, R⟩ := hinv.pop
          have e18 : (wr.setCell ⟨w.heap.size, 15, none⟩ (.int .i32 1)).cell? ⟨w.heap.size, 18, none⟩ = some (.slice (some ⟨g, 0, none⟩) (n + 1) c) := by rw [World.cell?_setCell_other _ _ _ _ (by simp)]; exact c18
          have ec : (wr.setCell ⟨w.heap.size, 15, none⟩ (.int .i32 1)).cell? ⟨g, n, none⟩ = some (.pointer (some a)) := by rw [World.cell?_setCell_other _ _ _ _ (by intro e; injection e with e1; exact hgB e1.symm)]; exact hc
          have e15 : ((((wr.setCell ⟨w.heap.size, 15, none⟩ (.int .i32 1)).setCell ⟨g, n, none⟩ (.pointer none)).setCell ⟨w.heap.size, 18, none⟩ (.slice (some ⟨g, 0, none⟩) n c))).cell? ⟨w.heap.size, 15, none⟩ = some (.int .i32 1) := by
            rw [World.cell?_setCell_other _ _ _ _ (by simp), World.cell?_setCell_other _ _ _ _ (by intro e; injection e with e1; exact hgB e1)]
            exact World.cell?_setCell_same _ _ _ c15
          clear hown hxs
          go_wp2_with fail
          refine (pop_some w.heap.size g n c (.pointer (some a)) _ hgB (by omega) hnc e18 (by rw [World.frozen?_setCell]; exact f18) ec (by rw [World.frozen?_setCell]; exact hf)).mono ?_
          rintro e w2 ⟨rfl, rfl⟩
          clear e18 ec hc hf hcx
          go_wp2_with fail
          refine (unlock_held Yba.muLib ⟨w.heap.size, 15, none⟩ _ e15 (by simp only [World.frozen?_setCell]; exact f15)).mono ?_
          rintro e w3 ⟨rfl, hw⟩
          rw [← hw] at R
          clear hw e15 c15 f15 c18 f18 hinv
          have c15 := R.c15
          have f15 := R.fz 15
          have c18 := R.c18
          go_wp2_with fail
          refine (idle_any w.heap.size (some ⟨g, 0, none⟩) n c _ c15 f15 c18).mono ?_
          rintro e w4 ⟨rfl, rfl⟩
          go_wp2
          go_roundw
          case rel => exact ⟨k + 1, n, c, _, by omega, by go_num, by omega, by go_num, R⟩
          case measure => simp [intOf]; omega
    · go_wp2
      go_ret
      exact ⟨rfl, hinv.below⟩
end Go.Proofs.Ybulkijm
