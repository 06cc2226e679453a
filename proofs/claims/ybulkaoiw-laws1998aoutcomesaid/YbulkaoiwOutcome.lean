/-
  SEAT b1998a. 'LawS1998AOutcome': THE WALK: the worker is held; it is free and the gate is open; it is free and the gate is set.
-/
import Derived.Test.YbulkaoiwReady
import Derived.Test.YbulkaoiwTake
namespace Go.Proofs.Ybulkaoiw
open Go.RowKit Go.Conc

/-- THE WORLD W BEHIND 'tryTake' (the call began in w): worker T is held, the others' words say O; handoff is empty; drained holds 'buf'. -/
structure After (w W : World) (K T pb c d : Nat) (O : Nat → Bool) (buf : Array Value) (s : Nat) : Prop where
  below : Below w.heap.size w W
  ptr : ∀ m, m < K → W.cell? ⟨w.heap.size, m, none⟩ = some (.pointer (some ⟨w.heap.size + 1 + m, 0, none⟩))
  mine : W.cell? ⟨w.heap.size + 1 + T, 64, none⟩ = some (.int .u32 (word true))
  held : ∀ m, m < K → ¬ m = T → W.cell? ⟨w.heap.size + 1 + m, 64, none⟩ = some (.int .u32 (word (O m)))
  ge : w.heap.size ≤ d
  cellC : W.cell? ⟨pb, 6, none⟩ = some (.chan (some c))
  cellD : W.cell? ⟨pb, 7, none⟩ = some (.chan (some d))
  chanC : W.heap[c]? = some (.chan K #[] false 0 0 false)
  chanD : W.heap[d]? = some (.chan K buf false s 0 false)

theorem after_ready {w W : World} {K T pb c d : Nat} {O : Nat → Bool} {g : Bool} (R : Ready w W K T pb c d O true g) (hT : T < K) : After w W K T pb c d O #[] 0 :=
  ⟨R.below, R.ptr, by have := (R.held T hT).1; simpa using this, fun m hm hne => by have := (R.held m hm).1; simpa [hne] using this, by have := R.geD; omega, R.cellC, R.cellD, R.chanC, R.chanD⟩

theorem cell_setChan {w : World} {d cap : Nat} {buf buf' : Array Value} {cl cl' : Bool} {s r s' r' cap' : Nat} {tm tm' : Bool} (hd : w.heap[d]? = some (.chan cap' buf' cl' s' r' tm')) (a : Addr) {v : Value} (h : w.cell? a = some v) :
    (w.setChan d cap buf cl s r tm).cell? a = some v := by
  have hne : ¬ a.block = d := by
    intro e
    rw [World.cell?, e, hd] at h
    simp at h
  have hb : (w.setChan d cap buf cl s r tm).heap[a.block]? = w.heap[a.block]? := by
    simp only [World.setChan]
    rw [Array.getElem?_setIfInBounds_ne (fun e => hne e.symm)]
  rw [World.cell?_of_block (w := w) hb]
  exact h

theorem after_put {w W : World} {K T pb c d : Nat} {O : Nat → Bool} {v : Value} (A : After w W K T pb c d O #[] 0) (hne : ¬ c = d) : After w (W.setChan d K #[v] false 1 0 false) K T pb c d O #[v] 1 := by
  have hd := A.chanD
  have hlt : d < W.heap.size := by
    rcases Nat.lt_or_ge d W.heap.size with h | h
    · exact h
    · rw [Array.getElem?_eq_none h] at hd; cases hd
  refine ⟨below_setChan A.below A.ge _ _ _ _ _ _, fun m hm => cell_setChan hd _ (A.ptr m hm), cell_setChan hd _ A.mine, fun m hm h => cell_setChan hd _ (A.held m hm h), A.ge, cell_setChan hd _ A.cellC, cell_setChan hd _ A.cellD, ?_, heap_setChan _ _ _ _ _ _ _ _ hlt⟩
  simp only [World.setChan]
  rw [Array.getElem?_setIfInBounds_ne (fun e => hne e.symm)]
  exact A.chanC

set_option maxRecDepth 100000 in
set_option maxHeartbeats 1600000 in
theorem outcome_held (n : Int) (hn0 : 0 ≤ n) (hn : n ≤ 255) (q : Int) (hq0 : 0 ≤ q) (hq : q ≤ 255) (gate : Bool) (a : Option Addr) (len cap : Nat) (hlen : len ≤ 9223372036854775807) (B : Nat → Bool) (w : World)
    (ho : ∀ i, i < len → ∃ b off, a = some ⟨b, off, none⟩ ∧ b < w.heap.size ∧ w.cell? ⟨b, off + i, none⟩ = some (.bool (B i))) :
    Calls Yba.prog 3 #[.int .u8 n, .int .u8 q, .bool true, .bool gate, .slice a len cap] w fun e w' => e = .returned (.bool true) ∧ Below w.heap.size w w' := by
  obtain ⟨K, hK⟩ : ∃ K : Nat, n % 8 + 1 = (K : Int) := ⟨(n % 8 + 1).toNat, by omega⟩
  have hK1 : 1 ≤ K := by omega
  have hK8 : K ≤ 8 := by omega
  obtain ⟨T, hT⟩ : ∃ T : Nat, q % (K : Int) = (T : Int) := ⟨(q % (K : Int)).toNat, by have := Int.emod_nonneg q (show (K : Int) ≠ 0 by omega); omega⟩
  have hTK : T < K := by have := Int.emod_lt_of_pos q (show (0 : Int) < K by omega); omega
  have HBH : Hid (Calls Yba.prog 7 #[.int .u8 n, .slice a len cap] w fun e w' => e = .returned (.slice (some ⟨w.heap.size, 0, none⟩) K K) ∧ Rel w w' K K (was len B)) := build_any n hn0 hn K hK a len cap hlen B w ho
  have HO : Hid (∀ i, i < len → ∃ b off, a = some ⟨b, off, none⟩ ∧ b < w.heap.size ∧ w.cell? ⟨b, off + i, none⟩ = some (.bool (B i))) := ho
  clear ho hK
  go_enter Yba.func3, Yba.ntmps3
  go_wp2_with fail
  refine HBH.out.mono ?_
  rintro e w1 ⟨rfl, hR⟩
  have HR : Hid (Rel w w1 K K (was len B)) := hR
  clear hR HBH
  obtain ⟨v, hv, hvp⟩ := HR.out.ptr T hTK
  rw [hvp hTK] at hv
  clear hvp
  obtain ⟨hh, hf⟩ := HR.out.held T hTK
  have hsz : w1.heap.size = w.heap.size + 1 + K := HR.out.size
  go_wp2_with fail
  refine (store_any _ _ true _ (by exact hh) (by exact hf)).mono ?_
  rintro e w2 ⟨rfl, rfl⟩
  go_wp2_with fail
  refine (newPool_new _ K hK8 _).mono ?_
  rintro e w3 ⟨pb, c, d, rfl, hP⟩
  have H3 : Hid (Ready w w3 K T pb c d (was len B) true false) := ready_start HR.out hTK hP
  clear hP HR hv hh hf hsz
  have hg3 := H3.out.gate
  have hf3 := H3.out.free
  go_wp2_with fail
  refine (store_any _ _ gate _ (by exact hg3) (by exact hf3)).mono ?_
  rintro e w4 ⟨rfl, hw4⟩
  have H4 : Hid (After w w4 K T pb c d (was len B) #[] 0) := by rw [hw4]; exact after_ready (ready_gate H3.out gate) hTK
  clear hw4 H3 hg3 hf3
  have hm := H4.out.mine
  go_wp2_with fail
  refine (take_held _ _ _ (by exact hm)).mono ?_
  rintro e w5 ⟨rfl, hw5⟩
  subst hw5
  have hC := H4.out.cellC
  have hD := H4.out.cellD
  have hcC := run_len_chan 3 H4.out.chanC
  have hcD := run_len_chan 3 H4.out.chanD
  go_wp2_with fail
  refine (load_any _ true _ (by exact hm)).mono ?_
  rintro e w6 ⟨rfl, hw6⟩
  subst hw6
  go_wp2_with fail
  clear hC hD hcC hcD hm
  go_loop [18] (fun i => ∃ j : Nat, j ≤ K ∧ i = .int .i64 j) (fun i => K - (intOf i).toNat)
  case atStart => exact ⟨0, Nat.zero_le _, rfl⟩
  case round =>
    obtain ⟨j, hj, rfl⟩ := hrel
    by_cases hjk : j < K
    · have hp := H4.out.ptr j hjk
      by_cases hjT : j = T
      · have hb : ((j : Int) == (T : Int)) = true := by simp [hjT]
        have HT : Hid (j = T) := hjT
        clear hjT
        go_wp2_with fail
        exact ⟨⟨j + 1, by omega, by go_num⟩, by simp [intOf]; omega⟩
      · have hb : ((j : Int) == (T : Int)) = false := by simp; omega
        have hh := H4.out.held j hjk hjT
        by_cases hjl : j < len
        · obtain ⟨b, off, ha, hbl, hc⟩ := HO.out j hjl
          subst ha
          rw [← H4.out.below.cell hbl] at hc
          have hwas : was len B j = B j := by simp [was, hjl]
          rw [hwas] at hh
          clear hwas hjT
          cases hB : B j
          · rw [hB] at hc hh
            clear hB
            go_wp2_with fail
            refine (load_any _ false _ (by exact hh)).mono ?_
            rintro e w7 ⟨rfl, hw7⟩
            subst hw7
            go_wp2_with fail
            exact ⟨⟨j + 1, by omega, by go_num⟩, by simp [intOf]; omega⟩
          · rw [hB] at hc hh
            clear hB
            go_wp2_with fail
            refine (load_any _ true _ (by exact hh)).mono ?_
            rintro e w7 ⟨rfl, hw7⟩
            subst hw7
            go_wp2_with fail
            exact ⟨⟨j + 1, by omega, by go_num⟩, by simp [intOf]; omega⟩
        · have hwas : was len B j = false := by simp [was, hjl]
          rw [hwas] at hh
          clear hwas hjT
          go_wp2_with fail
          refine (load_any _ false _ (by exact hh)).mono ?_
          rintro e w7 ⟨rfl, hw7⟩
          subst hw7
          go_wp2_with fail
          exact ⟨⟨j + 1, by omega, by go_num⟩, by simp [intOf]; omega⟩
    · go_wp2_with fail
      go_ret
      exact ⟨rfl, H4.out.below⟩

set_option maxRecDepth 100000 in
set_option maxHeartbeats 1600000 in
theorem outcome_free (n : Int) (hn0 : 0 ≤ n) (hn : n ≤ 255) (q : Int) (hq0 : 0 ≤ q) (hq : q ≤ 255) (a : Option Addr) (len cap : Nat) (hlen : len ≤ 9223372036854775807) (B : Nat → Bool) (w : World)
    (ho : ∀ i, i < len → ∃ b off, a = some ⟨b, off, none⟩ ∧ b < w.heap.size ∧ w.cell? ⟨b, off + i, none⟩ = some (.bool (B i))) :
    Calls Yba.prog 3 #[.int .u8 n, .int .u8 q, .bool false, .bool false, .slice a len cap] w fun e w' => e = .returned (.bool true) ∧ Below w.heap.size w w' := by
  obtain ⟨K, hK⟩ : ∃ K : Nat, n % 8 + 1 = (K : Int) := ⟨(n % 8 + 1).toNat, by omega⟩
  have hK1 : 1 ≤ K := by omega
  have hK8 : K ≤ 8 := by omega
  obtain ⟨T, hT⟩ : ∃ T : Nat, q % (K : Int) = (T : Int) := ⟨(q % (K : Int)).toNat, by have := Int.emod_nonneg q (show (K : Int) ≠ 0 by omega); omega⟩
  have hTK : T < K := by have := Int.emod_lt_of_pos q (show (0 : Int) < K by omega); omega
  have HBH : Hid (Calls Yba.prog 7 #[.int .u8 n, .slice a len cap] w fun e w' => e = .returned (.slice (some ⟨w.heap.size, 0, none⟩) K K) ∧ Rel w w' K K (was len B)) := build_any n hn0 hn K hK a len cap hlen B w ho
  have HO : Hid (∀ i, i < len → ∃ b off, a = some ⟨b, off, none⟩ ∧ b < w.heap.size ∧ w.cell? ⟨b, off + i, none⟩ = some (.bool (B i))) := ho
  clear ho hK
  go_enter Yba.func3, Yba.ntmps3
  go_wp2_with fail
  refine HBH.out.mono ?_
  rintro e w1 ⟨rfl, hR⟩
  have HR : Hid (Rel w w1 K K (was len B)) := hR
  clear hR HBH
  obtain ⟨v, hv, hvp⟩ := HR.out.ptr T hTK
  rw [hvp hTK] at hv
  clear hvp
  obtain ⟨hh, hf⟩ := HR.out.held T hTK
  have hsz : w1.heap.size = w.heap.size + 1 + K := HR.out.size
  go_wp2_with fail
  refine (store_any _ _ false _ (by exact hh) (by exact hf)).mono ?_
  rintro e w2 ⟨rfl, rfl⟩
  go_wp2_with fail
  refine (newPool_new _ K hK8 _).mono ?_
  rintro e w3 ⟨pb, c, d, rfl, hP⟩
  have H3 : Hid (Ready w w3 K T pb c d (was len B) false false) := ready_start HR.out hTK hP
  clear hP HR hv hh hf hsz
  have hg3 := H3.out.gate
  have hf3 := H3.out.free
  go_wp2_with fail
  refine (store_any _ _ false _ (by exact hg3) (by exact hf3)).mono ?_
  rintro e w4 ⟨rfl, hw4⟩
  have HG : Hid (Ready w w4 K T pb c d (was len B) false false) := by rw [hw4]; exact ready_gate H3.out false
  clear hw4 H3 hg3 hf3
  have hh4 : w4.cell? ⟨w.heap.size + 1 + T, 64, none⟩ = some (.int .u32 (word false)) := by have := (HG.out.held T hTK).1; simpa using this
  have hf4 := (HG.out.held T hTK).2
  have hg4 := HG.out.gate
  go_wp2_with fail
  refine (take_free _ _ _ (by exact hh4) (by exact hf4) (by exact hg4)).mono ?_
  rintro e w5 ⟨rfl, hw5⟩
  have H4 : Hid (After w w5 K T pb c d (was len B) #[] 0) := by rw [hw5]; exact after_ready (ready_held HG.out hTK true) hTK
  clear hw5 HG hh4 hf4 hg4
  have hm := H4.out.mine
  have hC := H4.out.cellC
  have hD := H4.out.cellD
  have hcC := run_len_chan 3 H4.out.chanC
  have hcD := run_len_chan 3 H4.out.chanD
  go_wp2_with fail
  refine (load_any _ true _ (by exact hm)).mono ?_
  rintro e w6 ⟨rfl, hw6⟩
  subst hw6
  go_wp2_with fail
  clear hC hD hcC hcD hm
  go_loop [18] (fun i => ∃ j : Nat, j ≤ K ∧ i = .int .i64 j) (fun i => K - (intOf i).toNat)
  case atStart => exact ⟨0, Nat.zero_le _, rfl⟩
  case round =>
    obtain ⟨j, hj, rfl⟩ := hrel
    by_cases hjk : j < K
    · have hp := H4.out.ptr j hjk
      by_cases hjT : j = T
      · have hb : ((j : Int) == (T : Int)) = true := by simp [hjT]
        have HT : Hid (j = T) := hjT
        clear hjT
        go_wp2_with fail
        exact ⟨⟨j + 1, by omega, by go_num⟩, by simp [intOf]; omega⟩
      · have hb : ((j : Int) == (T : Int)) = false := by simp; omega
        have hh := H4.out.held j hjk hjT
        by_cases hjl : j < len
        · obtain ⟨b, off, ha, hbl, hc⟩ := HO.out j hjl
          subst ha
          rw [← H4.out.below.cell hbl] at hc
          have hwas : was len B j = B j := by simp [was, hjl]
          rw [hwas] at hh
          clear hwas hjT
          cases hB : B j
          · rw [hB] at hc hh
            clear hB
            go_wp2_with fail
            refine (load_any _ false _ (by exact hh)).mono ?_
            rintro e w7 ⟨rfl, hw7⟩
            subst hw7
            go_wp2_with fail
            exact ⟨⟨j + 1, by omega, by go_num⟩, by simp [intOf]; omega⟩
          · rw [hB] at hc hh
            clear hB
            go_wp2_with fail
            refine (load_any _ true _ (by exact hh)).mono ?_
            rintro e w7 ⟨rfl, hw7⟩
            subst hw7
            go_wp2_with fail
            exact ⟨⟨j + 1, by omega, by go_num⟩, by simp [intOf]; omega⟩
        · have hwas : was len B j = false := by simp [was, hjl]
          rw [hwas] at hh
          clear hwas hjT
          go_wp2_with fail
          refine (load_any _ false _ (by exact hh)).mono ?_
          rintro e w7 ⟨rfl, hw7⟩
          subst hw7
          go_wp2_with fail
          exact ⟨⟨j + 1, by omega, by go_num⟩, by simp [intOf]; omega⟩
    · go_wp2_with fail
      go_ret
      exact ⟨rfl, H4.out.below⟩
end Go.Proofs.Ybulkaoiw
