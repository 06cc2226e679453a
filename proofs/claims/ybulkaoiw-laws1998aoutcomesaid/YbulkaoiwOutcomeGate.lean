/-
  SEAT b1998a. 'LawS1998AOutcome': THE WALK where the worker is free and the gate is set: it goes into 'drained', from which the law receives it. The communication: YbulkaoiwComm.lean.
-/
import Derived.Test.YbulkaoiwOutcome
import Derived.Lib.Builder
namespace Go.Proofs.Ybulkaoiw
open Go.RowKit Go.Conc

/-- '!=' of a pointer to a worker with itself. -/
theorem same_worker (a : Addr) (w : World) : (binOp .neq 25 (.pointer (some a)) (.pointer (some a))).run Yba.prog w = .ok (.bool false) w := by
  have h : (Yba.prog.info? 69).isSome = true := by kernel_rfl
  obtain ⟨j, hj⟩ := Option.isSome_iff_exists.1 h
  exact Lib.run_neq_ptr_same w a Yba.underlying25 hj

set_option maxRecDepth 100000 in
set_option maxHeartbeats 1600000 in
theorem outcome_gate (n : Int) (hn0 : 0 ≤ n) (hn : n ≤ 255) (q : Int) (hq0 : 0 ≤ q) (hq : q ≤ 255) (a : Option Addr) (len cap : Nat) (hlen : len ≤ 9223372036854775807) (B : Nat → Bool) (w : World)
    (ho : ∀ i, i < len → ∃ b off, a = some ⟨b, off, none⟩ ∧ b < w.heap.size ∧ w.cell? ⟨b, off + i, none⟩ = some (.bool (B i))) :
    Calls Yba.prog 3 #[.int .u8 n, .int .u8 q, .bool false, .bool true, .slice a len cap] w fun e w' => e = .returned (.bool true) ∧ Below w.heap.size w w' := by
  obtain ⟨K, hK⟩ : ∃ K : Nat, n % 8 + 1 = (K : Int) := ⟨(n % 8 + 1).toNat, by omega⟩
  have hK1 : 1 ≤ K := by omega
  have hK8 : K ≤ 8 := by omega
  obtain ⟨T, hT⟩ : ∃ T : Nat, q % (K : Int) = (T : Int) := ⟨(q % (K : Int)).toNat, by have := Int.emod_nonneg q (show (K : Int) ≠ 0 by omega); omega⟩
  have hTK : T < K := by have := Int.emod_lt_of_pos q (show (0 : Int) < K by omega); omega
  have HBH : Hid (Calls Yba.prog 7 #[.int .u8 n, .slice a len cap] w fun e w' => e = .returned (.slice (some ⟨w.heap.size, 0, none⟩) K K) ∧ Rel w w' K K (was len B)) := build_any n hn0 hn K hK a len cap hlen B w ho
  have HO : Hid (∀ i, i < len → ∃ b off, a = some ⟨b, off, none⟩ ∧ b < w.heap.size ∧ w.cell? ⟨b, off + i, none⟩ = some (.bool (B i))) := ho
  clear ho hK
  refine calls_of_wpN Yba.func3 rfl ?_
  simp only [Yba.ntmps3, List.size_toArray, List.length_cons, List.length_nil, Nat.reduceAdd, Nat.reduceSub, Array.replicate_succ,
     Array.replicate_zero, List.push_toArray, List.append_toArray, List.nil_append, List.cons_append]
  refine wpN_seq_k (fun Kc hKc => ?_)
  go_wp2_with fail
  refine wpN_seq_k (fun Kc hKc => ?_)
  go_wp2_with fail
  refine HBH.out.mono ?_
  rintro e w1 ⟨rfl, hR⟩
  have HR : Hid (Rel w w1 K K (was len B)) := hR
  clear hR HBH
  obtain ⟨v, hv, hvp⟩ := HR.out.ptr T hTK
  rw [hvp hTK] at hv
  clear hvp
  obtain ⟨hh, hf⟩ := HR.out.held T hTK
  have hsz : w1.heap.size = w.heap.size + 1 + K := HR.out.size
  go_wp2_with fail
  refine wpN_seq_k (fun Kc hKc => ?_)
  go_wp2_with fail
  refine wpN_seq_k (fun Kc hKc => ?_)
  go_wp2_with fail
  refine wpN_seq_k (fun Kc hKc => ?_)
  go_wp2_with fail
  refine wpN_seq_k (fun Kc hKc => ?_)
  go_wp2_with fail
  refine (store_any _ _ false _ (by exact hh) (by exact hf)).mono ?_
  rintro e w2 ⟨rfl, rfl⟩
  go_wp2_with fail
  refine wpN_seq_k (fun Kc hKc => ?_)
  go_wp2_with fail
  refine (newPool_new _ K hK8 _).mono ?_
  rintro e w3 ⟨pb, c, d, rfl, hP⟩
  have H3 : Hid (Ready w w3 K T pb c d (was len B) false false) := ready_start HR.out hTK hP
  clear hP HR hv hh hf hsz
  have hg3 := H3.out.gate
  have hf3 := H3.out.free
  go_wp2_with fail
  refine wpN_seq_k (fun Kc hKc => ?_)
  go_wp2_with fail
  refine (store_any _ _ true _ (by exact hg3) (by exact hf3)).mono ?_
  rintro e w4 ⟨rfl, hw4⟩
  have HG : Hid (Ready w w4 K T pb c d (was len B) false true) := by rw [hw4]; exact ready_gate H3.out true
  clear hw4 H3 hg3 hf3
  have hh4 : w4.cell? ⟨w.heap.size + 1 + T, 64, none⟩ = some (.int .u32 (word false)) := by have := (HG.out.held T hTK).1; simpa using this
  have hf4 := (HG.out.held T hTK).2
  have hg4 := HG.out.gate
  have hd4 := HG.out.cellD
  have hdw : ¬ d = w.heap.size + 1 + T := by have := HG.out.geD; omega
  go_wp2_with fail
  refine wpN_seq_k (fun Kc hKc => ?_)
  go_wp2_with fail
  refine (take_gate _ _ d K _ hdw (by exact hh4) (by exact hf4) (by exact hg4) (by exact hd4) (by exact HG.out.chanD) (by omega)).mono ?_
  rintro e w5 ⟨rfl, hw5⟩
  have H4 : Hid (After w w5 K T pb c d (was len B) #[.pointer (some ⟨w.heap.size + 1 + T, 0, none⟩)] 1) := by
    rw [hw5]; exact after_put (after_ready (ready_held HG.out hTK true) hTK) HG.out.ne
  clear hw5 HG hh4 hf4 hg4 hd4 hdw
  have hm := H4.out.mine
  have hC := H4.out.cellC
  have hD := H4.out.cellD
  have hcC := run_len_chan 3 H4.out.chanC
  have hcD := run_len_chan 3 H4.out.chanD
  go_wp2_with fail
  refine wpN_seq_k (fun Kc hKc => ?_)
  go_wp2_with fail
  refine wpN_seq_k (fun Kc hKc => ?_)
  go_wp2_with fail
  refine (load_any _ true _ (by exact hm)).mono ?_
  rintro e w6 ⟨rfl, hw6⟩
  subst hw6
  go_wp2_with fail
  refine wpN_seq_k (fun Kc hKc => ?_)
  go_wp2_with fail
  refine wpN_seq_k (fun Kc hKc => ?_)
  go_wp2_with fail
  refine wpN_seq_k (fun Kc hKc => ?_)
  go_wp2_with fail
  refine wpN_seq_k (fun Kc hKc => ?_)
  go_wp2_with fail
  clear hC hD hcC hcD hm
  go_loop [18] (fun i => ∃ j : Nat, j ≤ K ∧ i = .int .i64 j) (fun i => K - (intOf i).toNat)
  case atStart => exact ⟨0, Nat.zero_le _, rfl⟩
  case round =>
    obtain ⟨j, hj, rfl⟩ := hrel
    by_cases hjk : j < K
    · have hp := H4.out.ptr j hjk
      by_cases hjT : j = T
      · have hb : ((j : Int) == (T : Int)) = true := by simp [hjT]
        have HT : Hid (j = T) := hjT
        clear hjT
        go_wp2_with fail
        exact ⟨⟨j + 1, by omega, by go_num⟩, by simp [intOf]; omega⟩
      · have hb : ((j : Int) == (T : Int)) = false := by simp; omega
        have hh := H4.out.held j hjk hjT
        by_cases hjl : j < len
        · obtain ⟨b, off, ha, hbl, hc⟩ := HO.out j hjl
          subst ha
          rw [← H4.out.below.cell hbl] at hc
          have hwas : was len B j = B j := by simp [was, hjl]
          rw [hwas] at hh
          clear hwas hjT
          cases hB : B j
          · rw [hB] at hc hh
            clear hB
            go_wp2_with fail
            refine (load_any _ false _ (by exact hh)).mono ?_
            rintro e w7 ⟨rfl, hw7⟩
            subst hw7
            go_wp2_with fail
            exact ⟨⟨j + 1, by omega, by go_num⟩, by simp [intOf]; omega⟩
          · rw [hB] at hc hh
            clear hB
            go_wp2_with fail
            refine (load_any _ true _ (by exact hh)).mono ?_
            rintro e w7 ⟨rfl, hw7⟩
            subst hw7
            go_wp2_with fail
            exact ⟨⟨j + 1, by omega, by go_num⟩, by simp [intOf]; omega⟩
        · have hwas : was len B j = false := by simp [was, hjl]
          rw [hwas] at hh
          clear hwas hjT
          go_wp2_with fail
          refine (load_any _ false _ (by exact hh)).mono ?_
          rintro e w7 ⟨rfl, hw7⟩
          subst hw7
          go_wp2_with fail
          exact ⟨⟨j + 1, by omega, by go_num⟩, by simp [intOf]; omega⟩
    · have hD := H4.out.cellD
      go_wp2_with fail
      refine wpN_seq ?_
      refine wpN_seq_k (fun Kc hKc => ?_)
      go_wp2_with fail
      refine wpN_cond (t := true) (by rfl) ?_
      simp only [if_true]
      refine wpN_seq ?_
      refine wpN_region ?_
      simp only [List.size_toArray, List.length_cons, List.length_nil, Nat.reduceAdd, List.range, List.range.loop]
      refine semOps_value rfl rfl (by go_simp <;> first | exact ⟨rfl, rfl⟩ | rfl) ?_
      refine semOps_value rfl rfl (by go_simp <;> first | exact ⟨rfl, rfl⟩ | rfl) ?_
      refine semOps_value rfl rfl (by go_simp <;> first | exact ⟨rfl, rfl⟩ | rfl) ?_
      refine semOps_value rfl rfl (by go_simp <;> first | exact ⟨rfl, rfl⟩ | rfl) ?_
      refine semOps_recv (c := d) (cap := K) (buf := #[.pointer (some ⟨w.heap.size + 1 + T, 0, none⟩)]) (s := 1) (r := 0) (tm := false) (closed := false) (z := .pointer none) rfl rfl (by simp [go_sem, rcase]) H4.out.chanD (by simp) ?_
      refine semOps_value rfl rfl (by go_simp <;> first | exact ⟨rfl, rfl⟩ | rfl) ?_
      refine semOps_value (v := .bool false) (w' := w6.setChan d K #[] false 1 1 false) rfl rfl (by have hs := same_worker ⟨w.heap.size + 1 + T, 0, none⟩; go_simp) ?_
      refine semOps_of_wpOps ?_
      simp only [wpOps, Exit.then]
      refine wpN_cond (t := false) (by simp [Act.eval, Act.put]) ?_
      simp only [Bool.false_eq_true, if_false]
      refine wpN_of_wp (wp_skip ?_)
      simp only [Exit.then]
      refine wpN_of_wp ?_
      go_wp2
      go_ret
      exact ⟨rfl, below_setChan H4.out.below H4.out.ge _ _ _ _ _ _⟩
end Go.Proofs.Ybulkaoiw
