/-
  A region that holds a communication of a lone goroutine (a send with room; a select of one receive with a default), in a frame that is not early: the rules of 'Code.wp' over such frames, and the regions' own rules.
-/
import Derived.Conc.LoneSelect
import Derived.Defers
import Derived.Orders
namespace Go.Comm
open Go.Conc

section
variable {P : Program} {Q : Exit → Act → World → Prop} {a : Act} {w : World}

/-- 'Code.wp', asked at frames that are not early alone. -/
def wpN (P : Program) (c : Code) (Q : Exit → Act → World → Prop) (a : Act) (w : World) : Prop :=
  ∀ (b : Frame) (k : List Item) (cs : List Frame), b.kind ≠ .early → ∃ e a' w', Q e a' w' ∧ Arrives P (lone (b.at a (.code c :: k)) cs w) b k cs e a' w'

theorem wpN_of_wp {c : Code} (h : c.wp P Q a w) : wpN P c Q a w := fun b k cs _ => h b k cs

theorem wpN_seq {x y : Code} (h : wpN P x (Exit.then (wpN P y Q) Q) a w) : wpN P (Code.seq x y) Q a w := by
  intro b k cs hb
  obtain ⟨e, a₁, w₁, hq, harr⟩ := h b (.code y :: k) cs hb
  cases e with
  | normal =>
    obtain ⟨e₂, a₂, w₂, hq₂, harr₂⟩ := hq b k cs hb
    exact ⟨e₂, a₂, w₂, hq₂, .of_steps (.head step_seq harr) harr₂⟩
  | exit id => exact ⟨_, a₁, w₁, hq, .of_steps (.one step_seq) (.pass (x := .code y) rfl (fun _ _ => .inl (by simp)) harr)⟩
  | goto l => exact ⟨_, a₁, w₁, hq, .of_steps (.one step_seq) (.pass (x := .code y) rfl (fun _ _ => .inl (by simp)) harr)⟩
  | ret => exact ⟨_, a₁, w₁, hq, .of_steps (.one step_seq) (.pass (x := .code y) rfl (fun _ _ => .inl (by simp)) harr)⟩
  | panic ch => exact ⟨_, a₁, w₁, hq, .of_steps (.one step_seq) (.pass (x := .code y) rfl (fun _ _ => .inl (by simp)) harr)⟩
  | outgrown => exact ⟨_, a₁, w₁, hq, .of_steps (.one step_seq) (.pass (x := .code y) rfl (fun _ _ => .inl (by simp)) harr)⟩

/-- The first part by the walk. -/
theorem wpN_seq_k {x y : Code} (h : ∀ K : Act → World → Prop, (∀ a w, wpN P y Q a w → K a w) → x.wp P (Exit.then K Q) a w) : wpN P (Code.seq x y) Q a w :=
  wpN_seq (wpN_of_wp (h _ fun _ _ h => h))

theorem wpN_block {id : Nat} {c : Code} (h : wpN P c (Exit.inBlock id Q) a w) : wpN P (Code.block id c) Q a w := by
  intro b k cs hb
  obtain ⟨e, a₁, w₁, hq, harr⟩ := h b (.inBlock id :: k) cs hb
  cases e with
  | normal => exact ⟨.normal, a₁, w₁, hq, .head step_block (Steps.trans harr (.one step_inBlock))⟩
  | exit id' =>
    by_cases hid : id' = id
    · simp only [Exit.inBlock, hid, if_true] at hq
      exact ⟨.normal, a₁, w₁, hq, .head step_block (harr k (by simp [exitTo, hid]))⟩
    · simp only [Exit.inBlock, hid, if_false] at hq
      refine ⟨.exit id', a₁, w₁, hq, fun k' hk => .head step_block (harr k' ?_)⟩
      have : (id == id') = false := by simp; exact fun h => hid h.symm
      simp [exitTo, this, hk]
  | goto l => exact ⟨_, a₁, w₁, hq, fun k' hk => .head step_block (harr k' (by simp [gotoIn, hk]))⟩
  | ret => exact ⟨_, a₁, w₁, hq, .of_steps (.one step_block) harr⟩
  | panic ch => exact ⟨_, a₁, w₁, hq, .of_steps (.one step_block) harr⟩
  | outgrown => exact ⟨_, a₁, w₁, hq, .of_steps (b := b) (k := k) (cs := cs) (e := .outgrown) (.one step_block) harr⟩

theorem wpN_loop {c : Code} (I : Act → World → Prop) (μ : Act → World → Nat) (h₀ : I a w)
    (round : ∀ a w, I a w → wpN P c (Exit.then (fun a' w' => I a' w' ∧ μ a' w' < μ a w) Q) a w) : wpN P (Code.loop c) Q a w := by
  intro b k cs hb
  have key : ∀ n a w, μ a w = n → I a w →
      ∃ e a' w', Q e a' w' ∧ Arrives P (lone (b.at a (.code c :: .inLoop c :: k)) cs w) b k cs e a' w' := by
    intro n
    induction n using Nat.strongRecOn with
    | _ n ih =>
      intro a w hn hI
      obtain ⟨e, a₁, w₁, hq, harr⟩ := round a w hI b (.inLoop c :: k) cs hb
      cases e with
      | normal =>
        obtain ⟨hI₁, hlt⟩ := hq
        obtain ⟨e₂, a₂, w₂, hq₂, harr₂⟩ := ih (μ a₁ w₁) (hn ▸ hlt) a₁ w₁ rfl hI₁
        exact ⟨e₂, a₂, w₂, hq₂, .of_steps (Steps.trans harr (.one step_inLoop)) harr₂⟩
      | exit id => exact ⟨_, a₁, w₁, hq, .pass (x := .inLoop c) rfl (fun _ _ => .inl (by simp)) harr⟩
      | goto l => exact ⟨_, a₁, w₁, hq, .pass (x := .inLoop c) rfl (fun _ _ => .inl (by simp)) harr⟩
      | ret => exact ⟨_, a₁, w₁, hq, .pass (x := .inLoop c) rfl (fun _ _ => .inl (by simp)) harr⟩
      | panic ch => exact ⟨_, a₁, w₁, hq, .pass (x := .inLoop c) rfl (fun _ _ => .inl (by simp)) harr⟩
      | outgrown => exact ⟨_, a₁, w₁, hq, .pass (x := .inLoop c) rfl (fun _ _ => .inl (by simp)) harr⟩
  obtain ⟨e, a', w', hq, harr⟩ := key _ a w rfl h₀
  exact ⟨e, a', w', hq, .of_steps (.one step_loop) harr⟩

theorem wpN_mono {c : Code} {Q' : Exit → Act → World → Prop} (h : wpN P c Q a w) (hq : ∀ e a w, Q e a w → Q' e a w) : wpN P c Q' a w :=
  fun b k cs hb => let ⟨e, a', w', q, r⟩ := h b k cs hb; ⟨e, a', w', hq _ _ _ q, r⟩

/-- The rest of a region, in this order. -/
def rest (P : Program) (ops : Array Oper) (Q : Exit → Act → World → Prop) (l : List Nat) (a : Act) (w : World) : Prop :=
  ∀ (b : Frame) (k : List Item) (cs : List Frame), b.kind ≠ .early → ∃ e a' w', Q e a' w' ∧ Arrives P (lone (b.at a (.inRegion ops l :: k)) cs w) b k cs e a' w'

variable {ops : Array Oper}

theorem rest_nil (h : Q .normal a w) : rest P ops Q [] a w := fun _ _ _ _ => ⟨.normal, a, w, h, .one step_region_end⟩

theorem rest_value {i : Nat} {l : List Nat} {o : Oper} {v : Value} {w' : World} (ho : ops[i]? = some o) (hg : o.guard = none) (hr : (execOp a.eval o).run P w = .ok (.value v) w')
    (h : rest P ops Q l (a.put o.dst v) w') : rest P ops Q (i :: l) a w := by
  intro b k cs hb
  have hw : Region.wanted o (yielded ops a.tmps) = true := by simp [Region.wanted, hg]
  have hs := stepG_op (P := P) (b := b) (k := k) (cs := cs) (w := w) (rest := l) ho hw
  have hfin : ∀ v, (b.at a (.inRegion ops (i :: l) :: k)).finish v = b.at (a.put o.dst v) (.inRegion ops l :: k) := by
    intro v; rw [Frame.finish_at, ho]; rfl
  obtain ⟨e, a', w'', hq, harr⟩ := h b k cs hb
  refine ⟨e, a', w'', hq, .of_steps (.one (step_lone_go ?_)) harr⟩
  rw [hs, ← hfin]; simp [stepG.apply, hr]

/-- A step of the machine's own behind a communication. -/
theorem rest_step {i : Nat} {l : List Nat} {o : Oper} {v : Value} {w' : World} (ho : ops[i]? = some o)
    (hs : ∀ (b : Frame) (k : List Item) (cs : List Frame), b.kind ≠ .early → step P (solo (G (b.at a (.inRegion ops (i :: l) :: k)) cs) w) = .next (solo (G ((b.at a (.inRegion ops (i :: l) :: k)).finish v) cs) w'))
    (h : rest P ops Q l (a.put o.dst v) w') : rest P ops Q (i :: l) a w := by
  intro b k cs hb
  obtain ⟨e, a', w'', hq, harr⟩ := h b k cs hb
  refine ⟨e, a', w'', hq, .of_steps (.one ?_) harr⟩
  have := hs b k cs hb
  rw [Frame.finish_at, ho] at this
  exact this

theorem rest_send {i : Nat} {l : List Nat} {o : Oper} {c cap s r : Nat} {buf : Array Value} {v z : Value} {tm : Bool} (ho : ops[i]? = some o) (hg : o.guard = none)
    (hr : (execOp a.eval o).run P w = .ok (.comm #[scase c v z] true .send) w) (hc : w.heap[c]? = some (.chan cap buf false s r tm)) (hroom : buf.size < cap)
    (h : rest P ops Q l (a.put o.dst undef) (w.setChan c cap (buf.push v) false (s + 1) r tm)) : rest P ops Q (i :: l) a w :=
  rest_step ho (fun b k cs hb => step_lone_send_room (stepG_comm ho (by simp [Region.wanted, hg]) hb hr) hc hroom) h

theorem rest_sel_buf {i : Nat} {l : List Nat} {o : Oper} {c cap s r : Nat} {buf : Array Value} {z : Value} {tm closed : Bool} (ho : ops[i]? = some o) (hg : o.guard = none)
    (hr : (execOp a.eval o).run P w = .ok (.comm #[rcase c z] false .select) w) (hc : w.heap[c]? = some (.chan cap buf closed s r tm)) (hsome : 0 < buf.size)
    (h : rest P ops Q l (a.put o.dst (.tuple #[goInt 0, .bool true, buf.getD 0 undef])) (w.setChan c cap (buf.extract 1 buf.size) closed s (r + 1) tm)) : rest P ops Q (i :: l) a w :=
  rest_step ho (fun b k cs hb => step_lone_select_recv_buf (stepG_comm ho (by simp [Region.wanted, hg]) hb hr) hc hsome) h

theorem rest_sel_shut {i : Nat} {l : List Nat} {o : Oper} {c cap s r : Nat} {z : Value} {tm : Bool} (ho : ops[i]? = some o) (hg : o.guard = none)
    (hr : (execOp a.eval o).run P w = .ok (.comm #[rcase c z] false .select) w) (hc : w.heap[c]? = some (.chan cap #[] true s r tm))
    (h : rest P ops Q l (a.put o.dst (.tuple #[goInt 0, .bool false, z])) w) : rest P ops Q (i :: l) a w :=
  rest_step ho (fun b k cs hb => step_lone_select_recv_shut (stepG_comm ho (by simp [Region.wanted, hg]) hb hr) hc) h

theorem rest_sel_default {i : Nat} {l : List Nat} {o : Oper} {c cap s r : Nat} {z : Value} {tm : Bool} (ho : ops[i]? = some o) (hg : o.guard = none)
    (hr : (execOp a.eval o).run P w = .ok (.comm #[rcase c z] false .select) w) (hc : w.heap[c]? = some (.chan cap #[] false s r tm))
    (h : rest P ops Q l (a.put o.dst (.tuple #[goInt (-1), .bool false, z])) w) : rest P ops Q (i :: l) a w :=
  rest_step ho (fun b k cs hb => step_lone_select_default (stepG_comm ho (by simp [Region.wanted, hg]) hb hr) hc) h

theorem wpN_region {id : Nat} (h : rest P ops Q (List.range ops.size) a w) : wpN P (Code.region id ops false) Q a w :=
  fun b k cs hb => let ⟨e, a', w', q, r⟩ := h b k cs hb; ⟨e, a', w', q, .of_steps (.one step_region) r⟩

theorem wpN_region_draw {id : Nat} (hm : P.follows .mixedOrders = true) (h : ∀ t, rest P ops Q (Region.linearise.go .any ops ops.size t (Array.replicate ops.size false) []) a w.drew) : wpN P (Code.region id ops true) Q a w :=
  fun b k cs hb => by
    obtain ⟨e, a', w', q, r⟩ := h (w.tape w.drawn (.order b.fn id)) b k cs hb
    refine ⟨e, a', w', q, .of_steps (.one step_region_draw) ?_⟩
    simp only [Region.schedule, hm, Bool.true_or, if_true]
    exact r

theorem go_one {md : Region.Mode} {f t i : Nat} {listed : Array Bool} (hr : Region.ready md ops listed = [i]) :
    Region.linearise.go md ops (f + 1) t listed [] = i :: Region.linearise.go md ops f t (listed.setIfInBounds i true) [] := by
  simp only [Region.linearise.go]
  change (match (Region.ready md ops listed)[t % (Region.ready md ops listed).length]? with
      | some i => Region.linearise.go md ops f (t / (Region.ready md ops listed).length) (listed.setIfInBounds i true) [i]
      | none => [].reverse) = _
  rw [hr]
  simp only [List.length_cons, List.length_nil, Nat.zero_add, Nat.mod_one, List.getElem?_cons_zero, Nat.div_one]
  rw [linearise_go_acc]
  rfl

theorem go_two {md : Region.Mode} {f t i j : Nat} {listed : Array Bool} (hr : Region.ready md ops listed = [i, j]) :
    Region.linearise.go md ops (f + 1) t listed [] = i :: Region.linearise.go md ops f (t / 2) (listed.setIfInBounds i true) [] ∨
    Region.linearise.go md ops (f + 1) t listed [] = j :: Region.linearise.go md ops f (t / 2) (listed.setIfInBounds j true) [] := by
  simp only [Region.linearise.go]
  change (match (Region.ready md ops listed)[t % (Region.ready md ops listed).length]? with
      | some i => Region.linearise.go md ops f (t / (Region.ready md ops listed).length) (listed.setIfInBounds i true) [i]
      | none => [].reverse) = _ ∨ (match (Region.ready md ops listed)[t % (Region.ready md ops listed).length]? with
      | some i => Region.linearise.go md ops f (t / (Region.ready md ops listed).length) (listed.setIfInBounds i true) [i]
      | none => [].reverse) = _
  rw [hr]
  simp only [List.length_cons, List.length_nil, Nat.zero_add, Nat.reduceAdd]
  rcases Nat.mod_two_eq_zero_or_one t with h | h
  · left; rw [h]; simp only [List.getElem?_cons_zero]; rw [linearise_go_acc]; rfl
  · right; rw [h]; simp only [List.getElem?_cons_succ, List.getElem?_cons_zero]; rw [linearise_go_acc]; rfl

theorem calls_of_wpN {f : FuncId} {fn : Func} {c : Code} {args : Array Value} {R : Ending → World → Prop}
    (hf : P.funcs[f]? = some fn) (hb : fn.body = some c)
    (h : wpN P c (bodyPost P fn R) { tmps := args ++ Array.replicate (fn.ntmps - args.size) undef, defers := [] } w) :
    Calls P f args w R := by
  intro cs
  let b : Frame := { (default : Frame) with fn := f, kind := .normal }
  have henter : Frame.enter P f args .normal =
      b.at { tmps := args ++ Array.replicate (fn.ntmps - args.size) undef, defers := [] } [.code c] := by
    simp [Frame.enter, Frame.at, hf, hb, b]
  obtain ⟨e, a', w', hq, harr⟩ := h b [] cs (by simp [b])
  rw [← henter] at harr
  cases e with
  | normal =>
    obtain ⟨hd, v, hr, hR⟩ := hq
    exact ⟨.returned v, w', _, hR, Steps.trans harr (.one step_end), rfl, rfl, hd, rfl, fn, hf, hr⟩
  | ret =>
    obtain ⟨hd, v, hr, hR⟩ := hq
    obtain ⟨todo, hs⟩ := harr
    exact ⟨.returned v, w', _, hR, hs, rfl, rfl, hd, rfl, fn, hf, hr⟩
  | panic chain =>
    obtain ⟨hd, hR⟩ := hq
    obtain ⟨todo, hs⟩ := harr
    exact ⟨.panicked chain, w', _, hR, hs, rfl, rfl, hd, fn, hf⟩
  | exit id => exact hq.elim
  | goto l => exact hq.elim
  | outgrown => exact ⟨.outgrown, w', b, hq, harr.resolve_left (by simp [b]), rfl, trivial⟩

theorem calls_of_wpN_defers {f : FuncId} {fn : Func} {c : Code} {args : Array Value} {R : Ending → World → Prop}
    (hf : P.funcs[f]? = some fn) (hb : fn.body = some c)
    (h : wpN P c (bodyPostD P fn R) { tmps := args ++ Array.replicate (fn.ntmps - args.size) undef, defers := [] } w) : Calls P f args w R := by
  intro cs
  let b : Frame := { (default : Frame) with fn := f, kind := .normal }
  have henter : Frame.enter P f args .normal =
      b.at { tmps := args ++ Array.replicate (fn.ntmps - args.size) undef, defers := [] } [.code c] := by
    simp [Frame.enter, Frame.at, hf, hb, b]
  obtain ⟨e, a', w', hq, harr⟩ := h b [] cs (by simp [b])
  rw [← henter] at harr
  cases e with
  | normal =>
    obtain ⟨e', w'', fr', hR, hs, hfn, hl⟩ := leaves_steps a'.defers .returning w' { b.at a' [] with mode := .returning } cs rfl rfl rfl hf rfl hq
    exact ⟨e', w'', fr', hR, Comes.of_steps (Steps.trans harr (.one step_end)) hs, hfn, hl⟩
  | ret =>
    obtain ⟨todo, hs₀⟩ := harr
    obtain ⟨e', w'', fr', hR, hs, hfn, hl⟩ := leaves_steps a'.defers .returning w' { b.at a' todo with mode := .returning } cs rfl rfl rfl hf rfl hq
    exact ⟨e', w'', fr', hR, Comes.of_steps hs₀ hs, hfn, hl⟩
  | panic chain =>
    obtain ⟨todo, hs₀⟩ := harr
    obtain ⟨e', w'', fr', hR, hs, hfn, hl⟩ := leaves_steps a'.defers (.panicking chain) w' { b.at a' todo with mode := .panicking chain } cs rfl rfl rfl hf rfl hq
    exact ⟨e', w'', fr', hR, Comes.of_steps hs₀ hs, hfn, hl⟩
  | exit id => exact hq.elim
  | goto l => exact hq.elim
  | outgrown => exact ⟨.outgrown, w', b, hq, harr.resolve_left (by simp [b]), rfl, trivial⟩
end
end Go.Comm
