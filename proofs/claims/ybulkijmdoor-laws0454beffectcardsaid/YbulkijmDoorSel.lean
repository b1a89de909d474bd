/-
  Contracts of zzs0454bisclosed and zzs0454btake.
-/
import Derived.Test.YbulkijmDoorLeaf
import Derived.Test.YbulkijmDoorComm
import Derived.Laws.EntriesVeiled
namespace Go.Proofs.YbulkijmDoor
open Go.RowKit Go.Conc

set_option maxHeartbeats 800000 in
set_option maxRecDepth 100000 in
theorem isclosed_open (c cap s r : Nat) (tm : Bool) (w : World) (hc : w.heap[c]? = some (.chan cap #[] false s r tm)) :
    Calls Ybad.prog 13 #[.chan (some c)] w fun e w' => e = .returned (.bool false) ∧ w = w' := by
  refine Comm.calls_of_wpN Ybad.func13 rfl ?_
  simp only [Ybad.ntmps13, List.size_toArray, List.length_cons, List.length_nil, Nat.reduceAdd, Nat.reduceSub, Array.replicate_succ,
     Array.replicate_zero, List.push_toArray, List.append_toArray, List.nil_append, List.cons_append]
  refine Comm.wpN_seq_k fun K hK => ?_
  go_wp2
  refine Comm.wpN_seq_k fun K hK => ?_
  go_wp2
  refine Comm.wpN_seq (Comm.wpN_region ?_)
  show Comm.rest _ _ _ [0, 1, 2] _ _
  refine Comm.rest_sel_default (z := .agg #[]) rfl rfl (by simp [go_sem, rcase]) hc ?_
  refine Comm.rest_value (v := .int .i64 (-1)) (w' := w) rfl rfl (by simp [go_sem, Act.put, goInt]) ?_
  refine Comm.rest_value (v := .bool false) (w' := w) rfl rfl (by simp [go_sem, Act.put]) ?_
  refine Comm.rest_nil (Comm.wpN_of_wp ?_)
  simp only [Act.put, List.setIfInBounds_toArray]
  go_wp2
  go_ret
  exact ⟨rfl, rfl⟩

set_option maxHeartbeats 800000 in
set_option maxRecDepth 100000 in
theorem isclosed_shut (c cap s r : Nat) (tm : Bool) (w : World) (hc : w.heap[c]? = some (.chan cap #[] true s r tm)) :
    Calls Ybad.prog 13 #[.chan (some c)] w fun e w' => e = .returned (.bool true) ∧ w.alloc (.cells #[] 35) = w' := by
  refine Comm.calls_of_wpN Ybad.func13 rfl ?_
  simp only [Ybad.ntmps13, List.size_toArray, List.length_cons, List.length_nil, Nat.reduceAdd, Nat.reduceSub, Array.replicate_succ,
     Array.replicate_zero, List.push_toArray, List.append_toArray, List.nil_append, List.cons_append]
  refine Comm.wpN_seq_k fun K hK => ?_
  go_wp2
  refine Comm.wpN_seq_k fun K hK => ?_
  go_wp2
  refine Comm.wpN_seq (Comm.wpN_region ?_)
  show Comm.rest _ _ _ [0, 1, 2] _ _
  refine Comm.rest_sel_shut (z := .agg #[]) rfl rfl (by simp [go_sem, rcase]) hc ?_
  refine Comm.rest_value (v := .int .i64 (0)) (w' := w) rfl rfl (by simp [go_sem, Act.put, goInt]) ?_
  refine Comm.rest_value (v := .bool true) (w' := w) rfl rfl (by simp [go_sem, Act.put]) ?_
  refine Comm.rest_nil (Comm.wpN_of_wp ?_)
  simp only [Act.put, List.setIfInBounds_toArray]
  go_wp2
  go_ret
  exact ⟨rfl, rfl⟩

set_option maxHeartbeats 800000 in
set_option maxRecDepth 100000 in
theorem take_none (c cap s r : Nat) (tm : Bool) (w : World) (hc : w.heap[c]? = some (.chan cap #[] false s r tm)) :
    Calls Ybad.prog 14 #[.chan (some c)] w fun e w' => e = .returned (.tuple #[.nilIface, .bool false]) ∧ w = w' := by
  refine Comm.calls_of_wpN Ybad.func14 rfl ?_
  simp only [Ybad.ntmps14, List.size_toArray, List.length_cons, List.length_nil, Nat.reduceAdd, Nat.reduceSub, Array.replicate_succ,
     Array.replicate_zero, List.push_toArray, List.append_toArray, List.nil_append, List.cons_append]
  refine Comm.wpN_seq_k fun K hK => ?_
  go_wp2
  refine Comm.wpN_seq_k fun K hK => ?_
  go_wp2
  refine Comm.wpN_seq (Comm.wpN_region ?_)
  show Comm.rest _ _ _ [0, 1, 2] _ _
  refine Comm.rest_sel_default (z := .nilIface) rfl rfl (by simp [go_sem, rcase]) hc ?_
  refine Comm.rest_value (v := .int .i64 (-1)) (w' := w) rfl rfl (by simp [go_sem, Act.put, goInt]) ?_
  refine Comm.rest_value (v := .bool false) (w' := w) rfl rfl (by simp [go_sem, Act.put]) ?_
  refine Comm.rest_nil (Comm.wpN_of_wp ?_)
  simp only [Act.put, List.setIfInBounds_toArray]
  go_wp2
  go_ret2
  exact ⟨rfl, rfl⟩

set_option maxHeartbeats 800000 in
set_option maxRecDepth 100000 in
theorem take_some (c cap s r : Nat) (tm : Bool) (E : Value) (w : World) (hc : w.heap[c]? = some (.chan cap #[E] false s r tm)) :
    Calls Ybad.prog 14 #[.chan (some c)] w fun e w' => e = .returned (.tuple #[E, .bool true]) ∧ w.setChan c cap #[] false s (r + 1) tm = w' := by
  refine Comm.calls_of_wpN Ybad.func14 rfl ?_
  simp only [Ybad.ntmps14, List.size_toArray, List.length_cons, List.length_nil, Nat.reduceAdd, Nat.reduceSub, Array.replicate_succ,
     Array.replicate_zero, List.push_toArray, List.append_toArray, List.nil_append, List.cons_append]
  refine Comm.wpN_seq_k fun K hK => ?_
  go_wp2
  refine Comm.wpN_seq_k fun K hK => ?_
  go_wp2
  refine Comm.wpN_seq (Comm.wpN_region ?_)
  show Comm.rest _ _ _ [0, 1, 2] _ _
  refine Comm.rest_sel_buf (z := .nilIface) rfl rfl (by simp [go_sem, rcase]) hc (by simp) ?_
  refine Comm.rest_value (v := .int .i64 (0)) (w' := (w.setChan c cap #[] false s (r + 1) tm)) rfl rfl (by simp [go_sem, Act.put, goInt]) ?_
  refine Comm.rest_value (v := .bool true) (w' := (w.setChan c cap #[] false s (r + 1) tm)) rfl rfl (by simp [go_sem, Act.put]) ?_
  refine Comm.rest_nil (Comm.wpN_of_wp ?_)
  simp only [Act.put, List.setIfInBounds_toArray]
  go_wp2
  go_ret2
  exact ⟨rfl, rfl⟩

end Go.Proofs.YbulkijmDoor
