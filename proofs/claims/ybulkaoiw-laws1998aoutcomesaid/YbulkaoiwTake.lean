/-
  SEAT b1998a. '(*pool).put' while the gate is set, and '(*pool).tryTake', in the run of one goroutine.
-/
import Derived.Test.YbulkaoiwAtom
import Derived.Test.YbulkaoiwComm
namespace Go.Proofs.Ybulkaoiw
open Go.RowKit Go.Conc

/-- 'len' of a channel: what its buffer holds. -/
theorem run_len_chan (t : TypeId) {c cap s r : Nat} {buf : Array Value} {cl : Bool} {w : World} (hc : w.heap[c]? = some (.chan cap buf cl s r false)) :
    (Builtin.len_ #[77] t #[.chan (some c)]).run Yba.prog w = .ok (.int .i64 buf.size) w := by
  have hg : (getObj c).run Yba.prog w = .ok (.chan cap buf cl s r false) w := by simp [getObj, Sem.run, hc]
  simp [Builtin.len_, run_underlying Yba.underlying77, hg, goInt]

set_option maxRecDepth 100000 in
set_option maxHeartbeats 800000 in
/-- 'put' while the gate is set: the worker goes into 'drained', which has room. -/
theorem put_gate (pb wb d n : Nat) (w : World) (hg : w.cell? ⟨pb, 72, none⟩ = some (.int .u32 (word true))) (hd : w.cell? ⟨pb, 7, none⟩ = some (.chan (some d)))
    (hc : w.heap[d]? = some (.chan n #[] false 0 0 false)) (hn : 0 < n) :
    Calls Yba.prog 24 #[.pointer (some ⟨pb, 0, none⟩), .pointer (some ⟨wb, 0, none⟩)] w fun e w' => e = .returned (.tuple #[]) ∧ w' = w.setChan d n #[.pointer (some ⟨wb, 0, none⟩)] false 1 0 false := by
  have HC : Hid (w.heap[d]? = some (.chan n #[] false 0 0 false)) := hc
  clear hc
  refine calls_of_wpN Yba.func24 rfl ?_
  simp only [Yba.ntmps24, List.size_toArray, List.length_cons, List.length_nil, Nat.reduceAdd, Nat.reduceSub, Array.replicate_succ,
     Array.replicate_zero, List.push_toArray, List.append_toArray, List.nil_append, List.cons_append]
  refine wpN_block ?_
  refine wpN_loop_once ?_
  refine wpN_block ?_
  refine wpN_seq ?_
  refine wpN_block ?_
  refine wpN_seq_k (fun K hK => ?_)
  go_wp2_with (go_at_call 11; refine (load_any _ true _ (by exact hg)).mono ?_; rintro e w' ⟨rfl, rfl⟩)
  refine wpN_cond (t := true) (by rfl) ?_
  simp only [if_true]
  refine wpN_seq ?_
  refine wpN_region ?_
  simp only [List.size_toArray, List.length_cons, List.length_nil, Nat.reduceAdd, List.range, List.range.loop]
  refine semOps_value rfl rfl (by go_simp <;> first | exact ⟨rfl, rfl⟩ | rfl) ?_
  refine semOps_value rfl rfl (by go_simp <;> first | exact ⟨rfl, rfl⟩ | rfl) ?_
  refine semOps_value rfl rfl (by go_simp <;> first | exact ⟨rfl, rfl⟩ | rfl) ?_
  refine semOps_value rfl rfl (by go_simp <;> first | exact ⟨rfl, rfl⟩ | rfl) ?_
  refine semOps_value rfl rfl (by go_simp <;> first | exact ⟨rfl, rfl⟩ | rfl) ?_
  refine semOps_send (c := d) (cap := n) (buf := #[]) (s := 0) (r := 0) (tm := false) (v := .pointer (some ⟨wb, 0, none⟩)) (z := .tuple #[]) rfl rfl (by simp [execOp, scase, Act.eval, Act.put]) HC.out (by simpa using hn) ?_
  refine semOps_of_wpOps ?_
  simp only [wpOps, Exit.then]
  refine wpN_of_wp (wp_ret ⟨by simp, by simp, by simp, by simp, ?_⟩)
  refine bodyPost_ret (results_none rfl _ _ _) rfl ⟨rfl, ?_⟩
  simp

set_option maxHeartbeats 400000 in
/-- The worker is held: false; nothing is done. -/
theorem take_held (pa : Option Addr) (wb : Nat) (w : World) (hh : w.cell? ⟨wb, 64, none⟩ = some (.int .u32 (word true))) :
    Calls Yba.prog 10 #[.pointer pa, .pointer (some ⟨wb, 0, none⟩)] w fun e w' => e = .returned (.bool false) ∧ w' = w := by
  go_enter Yba.func10, Yba.ntmps10
  go_wp2_with (go_at_call 11; refine (load_any _ true _ (by exact hh)).mono ?_; rintro e w' ⟨rfl, rfl⟩)
  go_ret
  exact ⟨rfl, rfl⟩

set_option maxHeartbeats 400000 in
/-- The worker is free and the gate is not set: it is taken. -/
theorem take_free (pb wb : Nat) (w : World) (hh : w.cell? ⟨wb, 64, none⟩ = some (.int .u32 (word false))) (hf : w.frozen? ⟨wb, 64, none⟩ = false)
    (hg : w.cell? ⟨pb, 72, none⟩ = some (.int .u32 (word false))) :
    Calls Yba.prog 10 #[.pointer (some ⟨pb, 0, none⟩), .pointer (some ⟨wb, 0, none⟩)] w fun e w' => e = .returned (.bool true) ∧ w' = (w.setCell ⟨wb, 64, none⟩ (.int .u32 1)).drew := by
  have hg2 : ((w.setCell ⟨wb, 64, none⟩ (.int .u32 1)).drew).cell? ⟨pb, 72, none⟩ = some (.int .u32 (word false)) := by
    rw [World.cell?_drew, World.cell?_setCell_other _ _ _ _ (by simp), hg]
  go_enter Yba.func10, Yba.ntmps10
  go_wp2_with fail
  refine (load_any _ false _ (by exact hh)).mono ?_
  rintro e w1 ⟨rfl, rfl⟩
  go_wp2_with fail
  refine (cas_hit _ _ (by exact hh) (by exact hf)).mono ?_
  rintro e w2 ⟨rfl, rfl⟩
  go_wp2_with fail
  refine (load_any _ false _ (by exact hg2)).mono ?_
  rintro e w3 ⟨rfl, rfl⟩
  go_wp2
  go_ret
  exact ⟨rfl, rfl⟩

set_option maxHeartbeats 400000 in
/-- The worker is free and the gate is set: it is taken and goes into 'drained'; false. -/
theorem take_gate (pb wb d n : Nat) (w : World) (hdw : ¬ d = wb) (hh : w.cell? ⟨wb, 64, none⟩ = some (.int .u32 (word false))) (hf : w.frozen? ⟨wb, 64, none⟩ = false)
    (hg : w.cell? ⟨pb, 72, none⟩ = some (.int .u32 (word true))) (hd : w.cell? ⟨pb, 7, none⟩ = some (.chan (some d))) (hc : w.heap[d]? = some (.chan n #[] false 0 0 false)) (hn : 0 < n) :
    Calls Yba.prog 10 #[.pointer (some ⟨pb, 0, none⟩), .pointer (some ⟨wb, 0, none⟩)] w fun e w' =>
      e = .returned (.bool false) ∧ w' = ((w.setCell ⟨wb, 64, none⟩ (.int .u32 1)).drew).setChan d n #[.pointer (some ⟨wb, 0, none⟩)] false 1 0 false := by
  have hg2 : ((w.setCell ⟨wb, 64, none⟩ (.int .u32 1)).drew).cell? ⟨pb, 72, none⟩ = some (.int .u32 (word true)) := by
    rw [World.cell?_drew, World.cell?_setCell_other _ _ _ _ (by simp), hg]
  have hd2 : ((w.setCell ⟨wb, 64, none⟩ (.int .u32 1)).drew).cell? ⟨pb, 7, none⟩ = some (.chan (some d)) := by
    rw [World.cell?_drew, World.cell?_setCell_other _ _ _ _ (by simp), hd]
  have HC : Hid (((w.setCell ⟨wb, 64, none⟩ (.int .u32 1)).drew).heap[d]? = some (.chan n #[] false 0 0 false)) :=
    (Below.heap_setCell w ⟨wb, 64, none⟩ (.int .u32 1) d hdw).trans hc
  clear hc
  go_enter Yba.func10, Yba.ntmps10
  go_wp2_with fail
  refine (load_any _ false _ (by exact hh)).mono ?_
  rintro e w1 ⟨rfl, rfl⟩
  go_wp2_with fail
  refine (cas_hit _ _ (by exact hh) (by exact hf)).mono ?_
  rintro e w2 ⟨rfl, rfl⟩
  go_wp2_with fail
  refine (load_any _ true _ (by exact hg2)).mono ?_
  rintro e w3 ⟨rfl, rfl⟩
  go_wp2_with fail
  refine (put_gate _ _ _ _ _ (by exact hg2) (by exact hd2) (by exact HC.out) hn).mono ?_
  rintro e w4 ⟨rfl, rfl⟩
  go_wp2
  go_ret
  exact ⟨rfl, rfl⟩
end Go.Proofs.Ybulkaoiw
