/-
  The law: what Union gives is what the model gives.
-/
import Derived.Test.YbulkingDoorHits
namespace Go.Proofs.YbulkingDoor
open Go.RowKit Go.Shelf
set_option linter.unusedVariables false
set_option linter.unusedSimpArgs false

variable {w : World} {a4 a6 : Addr}

theorem flat_at (enc : Spn → List Value) (hk : ∀ x, (enc x).length = 6) : ∀ (xs : List Spn) (i t : Nat) (x : Spn), xs[i]? = some x → t < 6 → (xs.flatMap enc)[i * 6 + t]? = (enc x)[t]?
  | [], i, t, x, h, _ => by simp at h
  | y :: r, 0, t, x, h, ht => by
    obtain rfl : y = x := by simpa using h
    have := hk y
    simp only [List.flatMap_cons]
    rw [List.getElem?_append_left (by omega)]
    congr 1
    omega
  | y :: r, i + 1, t, x, h, ht => by
    have := hk y
    simp only [List.flatMap_cons]
    rw [List.getElem?_append_right (by omega), ← flat_at enc hk r i t x (by simpa using h) ht]
    congr 1
    omega

theorem rowS_of_own {g : Nat} {xs : List Spn} {cur : Array Value} (hg : w.heap[g]? = some (.cells cur 37 (0, 0))) (ht : cur.toList.take (xs.length * 6) = flat a4 a6 xs) : RowS w a4 a6 g xs := by
  intro i x hx t u hu
  have hi := (List.getElem?_eq_some_iff.1 hx).1
  have h6 : t < 6 := by have := (List.getElem?_eq_some_iff.1 hu).1; rw [encR_len] at this; exact this
  have h1 := flat_at (encR a4 a6) (encR_len a4 a6) xs i t x hx h6
  rw [hu] at h1
  change (flat a4 a6 xs)[i * 6 + t]? = some u at h1
  rw [← ht, List.getElem?_take_of_lt (by omega)] at h1
  simpa [World.cell?, hg] using h1

set_option maxHeartbeats 1600000 in
set_option maxRecDepth 100000 in
theorem law_short (p : Option Addr) (b off cap : Nat) (xs : List Spn) (hz : Zs w a4 a6) (hs : Spans w b off xs) (hn : xs.length ≤ 1024) (hp : 0 < xs.length → p = some ⟨b, off, none⟩ ∧ b < w.heap.size) :
    Calls Ybad.prog 3 #[.slice p xs.length cap] w fun e w' => e = .returned (.bool true) ∧ Below w.heap.size w w' := by
  have h8 := build8 p b off cap xs hz hs hn hp
  obtain ⟨n, hnl⟩ : ∃ n, xs.length = n := ⟨_, rfl⟩
  have hnI : (n : Int) ≤ 1024 := by omega
  rw [hnl] at h8 ⊢
  go_enter Ybad.func3, Ybad.ntmps3
  go_wp2_with fail
  refine h8.mono ?_
  rintro e1 w1 ⟨v, rfl, hown, hb1⟩
  clear h8
  obtain ⟨q, g, cq, rfl, hq, hrow⟩ : ∃ q g cq, v = .slice q n cq ∧ (0 < xs.length → q = some ⟨g, 0, none⟩ ∧ g < w1.heap.size) ∧ RowS w1 a4 a6 g xs := by
    rcases hown.2 with ⟨e, h0⟩ | ⟨g, cq, cur, e, hg, hcur, _, _, _, ht⟩
    · exact ⟨none, 0, 0, by rw [e, h0], fun h => by omega, fun i x hx => by have := (List.getElem?_eq_some_iff.1 hx).1; omega⟩
    · exact ⟨_, g, cq, e, fun _ => ⟨rfl, (Array.getElem?_eq_some_iff.1 hcur).1⟩, rowS_of_own hcur (by rw [hnl]; exact ht)⟩
  have hz1 := hz.below hb1
  have h7 := union7 q g cq xs hz1 hq hrow hs.2 hn
  rw [hnl] at h7
  go_wp2_with fail
  refine h7.mono ?_
  rintro e2 w2 ⟨v2, L, rfl, hownL, hb2, hnorm, hcov, hfit, hlen⟩
  clear h7
  have hb12 : Below w.heap.size w w2 := hb1.trans (hb2.mono hb1.size)
  have hz2 := hz.below hb12
  have hs2 : Spans w2 b off xs := by
    refine ⟨fun i x hx => ?_, hs.2⟩
    have hb := (hp (by have := (List.getElem?_eq_some_iff.1 hx).1; omega)).2
    obtain ⟨c0, c1, c2, c3⟩ := hs.1 i x hx
    exact ⟨(hb12.cell hb).trans c0, (hb12.cell hb).trans c1, (hb12.cell hb).trans c2, (hb12.cell hb).trans c3⟩
  have h10 := model10 p b off cap xs hz2 hs2 hn (fun h => ⟨(hp h).1, Nat.lt_of_lt_of_le (hp h).2 hb12.size⟩)
  rw [hnl] at h10
  go_wp2_with fail
  refine h10.mono ?_
  rintro e3 w3 ⟨v3, K, rfl, hownK, hb3, hruns, hK⟩
  clear h10
  have hb123 : Below w.heap.size w w3 := hb12.trans (hb3.mono hb12.size)
  have hz3 := hz.below hb123
  obtain ⟨hn1, hc1, hf1⟩ := hruns.all
  have hLK : L = K := keys_inj hfit (fun x hx => hf1 x hx) (norm_unique hnorm hn1 fun t => (hcov t).trans ((hit_cov xs hs.2 t).symm.trans (hc1 t).symm))
  subst hLK
  have h9 : Calls Ybad.prog 9 #[v2, v3] w3 fun e w' => e = .returned (.bool true) ∧ Later w3 w' := by
    by_cases h0 : L.length = 0
    · obtain ⟨pa, ca, rfl⟩ : ∃ pa ca, v2 = .slice pa 0 ca := by
        rcases hownL.2 with ⟨e, _⟩ | ⟨_, _, _, e, _⟩
        · exact ⟨_, _, e⟩
        · rw [h0] at e; exact ⟨_, _, e⟩
      obtain ⟨pb, cb, rfl⟩ : ∃ pa ca, v3 = .slice pa 0 ca := by
        rcases hownK.2 with ⟨e, _⟩ | ⟨_, _, _, e, _⟩
        · exact ⟨_, _, e⟩
        · rw [h0] at e; exact ⟨_, _, e⟩
      exact eq9_none pa pb ca cb w3
    · rcases hownL.2 with ⟨_, h⟩ | ⟨ga, ca, cu, rfl, hga, hcu, _, _, _, hta⟩
      · exact absurd h h0
      rcases hownK.2 with ⟨_, h⟩ | ⟨gb, cb, cv, rfl, hgb, hcv, _, _, _, htb⟩
      · exact absurd h h0
      have hga2 := (Array.getElem?_eq_some_iff.1 hcu).1
      exact eq9 ga gb ca cb L (by omega) hz3 (rowed_of_holds (holds_of_own (base := 0) (cap := 0) (by rw [hb3.block ga hga2]; exact hcu) hta)) (rowed_of_holds (holds_of_own (base := 0) (cap := 0) hcv htb))
  go_wp2_with fail
  refine h9.mono ?_
  rintro e4 w4 ⟨rfl, k4⟩
  go_wp2
  go_ret
  exact ⟨rfl, hb123.trans (k4.below.mono hb123.size)⟩

theorem law_long (p : Option Addr) (n cap : Nat) (hn : 1024 < n) (hx : n ≤ maxLen) (w : World) :
    Calls Ybad.prog 3 #[.slice p n cap] w fun e w' => e = .returned (.bool true) ∧ Below w.heap.size w w' := by
  have hnI : (1024 : Int) < (n : Int) := by omega
  go_enter Ybad.func3, Ybad.ntmps3
  go_wp2
  go_ret
  exact ⟨rfl, Below.refl _ _⟩
end Go.Proofs.YbulkingDoor
