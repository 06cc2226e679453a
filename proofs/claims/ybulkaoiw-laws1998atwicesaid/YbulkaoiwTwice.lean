/-
  SEAT b1998a. 'LawS1998ATwice': THE WALK.
-/
import Derived.Test.YbulkaoiwReady
import Derived.Test.YbulkaoiwTake
namespace Go.Proofs.Ybulkaoiw
open Go.RowKit Go.Conc

set_option maxRecDepth 100000 in
set_option maxHeartbeats 800000 in
theorem twice_walk (n : Int) (hn0 : 0 ≤ n) (hn : n ≤ 255) (q : Int) (hq0 : 0 ≤ q) (hq : q ≤ 255) (a : Option Addr) (len cap : Nat) (hlen : len ≤ 9223372036854775807) (B : Nat → Bool) (w : World)
    (ho : ∀ i, i < len → ∃ b off, a = some ⟨b, off, none⟩ ∧ b < w.heap.size ∧ w.cell? ⟨b, off + i, none⟩ = some (.bool (B i))) :
    Calls Yba.prog 4 #[.int .u8 n, .int .u8 q, .slice a len cap] w fun e w' => e = .returned (.bool true) ∧ Below w.heap.size w w' := by
  obtain ⟨K, hK⟩ : ∃ K : Nat, n % 8 + 1 = (K : Int) := ⟨(n % 8 + 1).toNat, by omega⟩
  have hK1 : 1 ≤ K := by omega
  have hK8 : K ≤ 8 := by omega
  obtain ⟨T, hT⟩ : ∃ T : Nat, q % (K : Int) = (T : Int) := ⟨(q % (K : Int)).toNat, by have := Int.emod_nonneg q (show (K : Int) ≠ 0 by omega); omega⟩
  have hTK : T < K := by have := Int.emod_lt_of_pos q (show (0 : Int) < K by omega); omega
  have HB := build_any n hn0 hn K hK a len cap hlen B w ho
  have HBH : Hid (Calls Yba.prog 7 #[.int .u8 n, .slice a len cap] w fun e w' => e = .returned (.slice (some ⟨w.heap.size, 0, none⟩) K K) ∧ Rel w w' K K (was len B)) := HB
  clear HB ho hK
  go_enter Yba.func4, Yba.ntmps4
  go_wp2_with fail
  refine HBH.out.mono ?_
  rintro e w1 ⟨rfl, hR⟩
  have HR : Hid (Rel w w1 K K (was len B)) := hR
  clear hR HBH
  obtain ⟨v, hv, hvp⟩ := HR.out.ptr T hTK
  rw [hvp hTK] at hv
  clear hvp
  obtain ⟨hh, hf⟩ := HR.out.held T hTK
  have hsz : w1.heap.size = w.heap.size + 1 + K := HR.out.size
  go_wp2_with fail
  refine (store_any _ _ false _ (by exact hh) (by exact hf)).mono ?_
  rintro e w2 ⟨rfl, rfl⟩
  go_wp2_with fail
  refine (newPool_new _ K hK8 _).mono ?_
  rintro e w3 ⟨pb, c, d, rfl, hP⟩
  have H3 : Hid (Ready w w3 K T pb c d (was len B) false false) := ready_start HR.out hTK hP
  clear hP HR hv hh hf hsz
  have hh3 : w3.cell? ⟨w.heap.size + 1 + T, 64, none⟩ = some (.int .u32 (word false)) := by have := (H3.out.held T hTK).1; simpa using this
  have hf3 := (H3.out.held T hTK).2
  have hg3 := H3.out.gate
  go_wp2_with fail
  refine (take_free _ _ _ (by exact hh3) (by exact hf3) (by exact hg3)).mono ?_
  rintro e w4 ⟨rfl, hw4⟩
  have H4 : Hid (Ready w w4 K T pb c d (was len B) true false) := by rw [hw4]; exact ready_held H3.out hTK true
  clear hw4 H3 hh3 hf3 hg3
  have hh4 : w4.cell? ⟨w.heap.size + 1 + T, 64, none⟩ = some (.int .u32 (word true)) := by have := (H4.out.held T hTK).1; simpa using this
  go_wp2_with fail
  refine (take_held _ _ _ (by exact hh4)).mono ?_
  rintro e w5 ⟨rfl, hw5⟩
  subst hw5
  have hC := H4.out.cellC
  have hD := H4.out.cellD
  have hcC := run_len_chan 3 H4.out.chanC
  have hcD := run_len_chan 3 H4.out.chanD
  go_wp2_with fail
  refine (load_any _ true _ (by exact hh4)).mono ?_
  rintro e w6 ⟨rfl, hw6⟩
  subst hw6
  go_wp2_with fail
  go_ret
  exact ⟨rfl, H4.out.below⟩
end Go.Proofs.Ybulkaoiw
