/-
  SEAT b1998a. 'zzs1998abuild': the workers, in new memory.
-/
import Derived.Test.YbulkaoiwAtom
import Derived.Deep.OwnRows
namespace Go.Proofs.Ybulkaoiw
open Go.RowKit Go.Deep

theorem info25 : (Yba.prog.info? 25).map (fun i => (i.zero, i.size, i.bytes)) = some (some (.pointer none), 1, 8) := by kernel_rfl

/-- Whether the i-th worker was asked to be held: 'i < len(others) && others[i]'. -/
def was (len : Nat) (B : Nat → Bool) (i : Nat) : Bool := decide (i < len) && B i

/-- THE WORKERS AFTER j ROUNDS, IN THE WORLD wr (the call began in w): block N (the heap's size when the call began) holds the K pointers; worker m lies in block N + 1 + m; its word 'held' (cell 64) says 'O m'. -/
structure Rel (w wr : World) (K j : Nat) (O : Nat → Bool) : Prop where
  size : wr.heap.size = w.heap.size + 1 + j
  below : Below w.heap.size w wr
  ptr : ∀ m, m < K → ∃ v, wr.cell? ⟨w.heap.size, m, none⟩ = some v ∧ (m < j → v = .pointer (some ⟨w.heap.size + 1 + m, 0, none⟩))
  free : ∀ m, wr.frozen? ⟨w.heap.size, m, none⟩ = false
  held : ∀ m, m < j → wr.cell? ⟨w.heap.size + 1 + m, 64, none⟩ = some (.int .u32 (word (O m))) ∧ wr.frozen? ⟨w.heap.size + 1 + m, 64, none⟩ = false

theorem rel_start (w : World) (K : Nat) (O : Nat → Bool) : Rel w (w.alloc (.cells (madeCells #[Value.pointer none] K) 25)) K 0 O where
  size := by simp
  below := (Below.refl _ _).alloc (Nat.le_refl _) _
  ptr := fun m hm => ⟨.pointer none, by simp [madeCells, hm, Nat.mod_one], fun h => absurd h (by omega)⟩
  free := fun m => by simp
  held := fun m h => absurd h (by omega)

/-- A round that leaves the new worker free. -/
theorem rel_free {w wr : World} {K j : Nat} {O : Nat → Bool} {C : Array Value} (R : Rel w wr K j O) (hj : j < K) (hC : C[64]? = some (.int .u32 0)) (hO : O j = false) :
    Rel w ((wr.alloc (.cells C 69)).setCell ⟨w.heap.size, j, none⟩ (.pointer (some ⟨w.heap.size + 1 + j, 0, none⟩))) K (j + 1) O where
  size := by have := R.size; simp [this]; omega
  below := (R.below.alloc (by have := R.size; omega) _).setCell (Nat.le_refl _) _
  ptr := fun m hm => by
    obtain ⟨v, hv, hp⟩ := R.ptr m hm
    have hlt : w.heap.size < wr.heap.size := by have := R.size; omega
    have hv' : (wr.alloc (.cells C 69)).cell? ⟨w.heap.size, m, none⟩ = some v := by rw [World.cell?_alloc_lt _ _ _ (by exact hlt)]; exact hv
    by_cases e : m = j
    · subst e
      exact ⟨_, World.cell?_setCell_same _ _ _ hv', fun _ => rfl⟩
    · refine ⟨v, ?_, fun h => hp (by omega)⟩
      rw [World.cell?_setCell_other _ _ _ _ (by simp), hv']
  free := fun m => by
    rw [World.frozen?_setCell, World.frozen?_alloc_old _ _ _ (by have := R.size; simp; omega)]; exact R.free m
  held := fun m hm => by
    by_cases e : m = j
    · subst e
      have hs : w.heap.size + 1 + m = wr.heap.size := R.size.symm
      rw [World.cell?_setCell_other _ _ _ _ (by simp), World.frozen?_setCell, hs, hO]
      exact ⟨by simpa [word] using hC, by simp⟩
    · have h := R.held m (by omega)
      have hs := R.size
      rw [World.cell?_setCell_other _ _ _ _ (by simp), World.frozen?_setCell, World.cell?_alloc_lt _ _ _ (by simp; omega), World.frozen?_alloc_old _ _ _ (by simp; omega)]
      exact h

/-- A round that marks the new worker held. -/
theorem rel_held {w wr : World} {K j : Nat} {O O' : Nat → Bool} (R : Rel w wr K (j + 1) O') (hO : ∀ m, m < j → O' m = O m) (ht : O j = true) :
    Rel w ((wr.setCell ⟨w.heap.size + 1 + j, 64, none⟩ (.int .u32 (word true))).drew) K (j + 1) O where
  size := by have := R.size; simp [this]
  below := (R.below.setCell (by simp; omega) _).drew
  ptr := fun m hm => by
    obtain ⟨v, hv, hp⟩ := R.ptr m hm
    refine ⟨v, ?_, hp⟩
    rw [World.cell?_drew, World.cell?_setCell_other _ _ _ _ (by simp), hv]
  free := fun m => by rw [World.frozen?_drew, World.frozen?_setCell]; exact R.free m
  held := fun m hm => by
    have h := R.held m hm
    rw [World.frozen?_drew, World.frozen?_setCell, World.cell?_drew]
    by_cases e : m = j
    · subst e
      exact ⟨by rw [World.cell?_setCell_same _ _ _ h.1, ht], h.2⟩
    · rw [World.cell?_setCell_other _ _ _ _ (by simp), ← hO m (by omega)]
      exact h

theorem rel_congr {w wr : World} {K j : Nat} {O O' : Nat → Bool} (R : Rel w wr K j O) (h : ∀ m, m < j → O m = O' m) : Rel w wr K j O' :=
  ⟨R.size, R.below, R.ptr, R.free, fun m hm => by rw [← h m hm]; exact R.held m hm⟩

theorem rel_both {w wr : World} {K j : Nat} {O : Nat → Bool} {C : Array Value} (R : Rel w wr K j O) (hj : j < K) (hC : C[64]? = some (.int .u32 0)) (hO : O j = true) :
    Rel w ((((wr.alloc (.cells C 69)).setCell ⟨w.heap.size, j, none⟩ (.pointer (some ⟨w.heap.size + 1 + j, 0, none⟩))).setCell ⟨w.heap.size + 1 + j, 64, none⟩ (.int .u32 (word true))).drew) K (j + 1) O :=
  rel_held (rel_free (rel_congr R (O' := fun m => if m = j then false else O m) (fun m hm => by simp; omega)) hj hC (by simp)) (fun m hm => by simp; omega) hO

theorem zero69 (v : Value) : (Yba.zeroCells69.setIfInBounds 65 v)[64]? = some (.int .u32 0) := by kernel_rfl

set_option maxRecDepth 100000 in
set_option maxHeartbeats 800000 in
theorem build_any (n : Int) (hn0 : 0 ≤ n) (hn : n ≤ 255) (K : Nat) (hk : n % 8 + 1 = (K : Int)) (a : Option Addr) (len cap : Nat) (hlen : len ≤ 9223372036854775807) (B : Nat → Bool) (w : World)
    (ho : ∀ i, i < len → ∃ b off, a = some ⟨b, off, none⟩ ∧ b < w.heap.size ∧ w.cell? ⟨b, off + i, none⟩ = some (.bool (B i))) :
    Calls Yba.prog 7 #[.int .u8 n, .slice a len cap] w fun e w' => e = .returned (.slice (some ⟨w.heap.size, 0, none⟩) K K) ∧ Rel w w' K K (was len B) := by
  have hK : K ≤ 8 := by omega
  have hmk := run_make_row' (P := Yba.prog) 23 25 (.pointer none) 8 Yba.underlying23 info25 rfl .i64 .i64 K (by omega) (by omega) w
  have HO : Hid (∀ i, i < len → ∃ b off, a = some ⟨b, off, none⟩ ∧ b < w.heap.size ∧ w.cell? ⟨b, off + i, none⟩ = some (.bool (B i))) := ho
  clear ho
  go_enter Yba.func7, Yba.ntmps7
  go_wp2_with fail
  go_loopw [7] (fun i wr => ∃ j : Nat, j ≤ K ∧ i = .int .i64 j ∧ Rel w wr K j (was len B)) (fun i _ => K - (intOf i).toNat)
  case atStart => exact ⟨0, Nat.zero_le _, rfl, rel_start _ _ _⟩
  case round =>
    obtain ⟨j, hj, rfl, hR⟩ := hrel
    have HR : Hid (Rel w wr K j (was len B)) := hR
    have hsz : wr.heap.size = w.heap.size + 1 + j := hR.size
    clear hR hmk
    by_cases hjk : j < K
    · obtain ⟨v, hv, -⟩ := HR.out.ptr j hjk
      have hlt : w.heap.size < wr.heap.size := by omega
      have hv1 : (wr.alloc (.cells (Yba.zeroCells69.setIfInBounds 65 (.int .i64 j)) 69)).cell? ⟨w.heap.size, j, none⟩ = some v := by rw [World.cell?_alloc_lt _ _ _ (by exact hlt)]; exact hv
      have hf1 : (wr.alloc (.cells (Yba.zeroCells69.setIfInBounds 65 (.int .i64 j)) 69)).frozen? ⟨w.heap.size, j, none⟩ = false := by rw [World.frozen?_alloc_old _ _ _ (by simp; omega)]; exact HR.out.free j
      have hv2 : ((wr.alloc (.cells (Yba.zeroCells69.setIfInBounds 65 (.int .i64 j)) 69)).setCell ⟨w.heap.size, j, none⟩ (.pointer (some ⟨w.heap.size + 1 + j, 0, none⟩))).cell? ⟨w.heap.size, j, none⟩ = some (.pointer (some ⟨w.heap.size + 1 + j, 0, none⟩)) := World.cell?_setCell_same _ _ _ hv1
      clear hv
      by_cases hjl : j < len
      · obtain ⟨b, off, ha, hb, hc⟩ := HO.out j hjl
        subst ha
        have hc' : ((wr.alloc (.cells (Yba.zeroCells69.setIfInBounds 65 (.int .i64 j)) 69)).setCell ⟨w.heap.size, j, none⟩ (.pointer (some ⟨w.heap.size + 1 + j, 0, none⟩))).cell? ⟨b, off + j, none⟩ = some (.bool (B j)) := by
          rw [World.cell?_setCell_other _ _ _ _ (by simp), World.cell?_alloc_lt _ _ _ (by simp; omega), HR.out.below.cell hb]; exact hc
        clear hc
        have hwas : was len B j = B j := by simp [was, hjl]
        cases hB : B j
        · rw [hB] at hc' hwas
          have HB : Hid (was len B j = false) := hwas
          clear hB hwas
          go_wp2_with fail
          exact ⟨⟨j + 1, by omega, by go_num, rel_free HR.out hjk (zero69 _) HB.out⟩, by simp [intOf]; omega⟩
        · rw [hB] at hc' hwas
          have HB : Hid (was len B j = true) := hwas
          clear hB hwas
          have hs1 : ((wr.alloc (.cells (Yba.zeroCells69.setIfInBounds 65 (.int .i64 j)) 69)).setCell ⟨w.heap.size, j, none⟩ (.pointer (some ⟨w.heap.size + 1 + j, 0, none⟩))).cell? ⟨w.heap.size + 1 + j, 64, none⟩ = some (.int .u32 0) := by
            rw [World.cell?_setCell_other _ _ _ _ (by simp), ← hsz, World.cell?_alloc_new]; exact zero69 _
          have hs2 : ((wr.alloc (.cells (Yba.zeroCells69.setIfInBounds 65 (.int .i64 j)) 69)).setCell ⟨w.heap.size, j, none⟩ (.pointer (some ⟨w.heap.size + 1 + j, 0, none⟩))).frozen? ⟨w.heap.size + 1 + j, 64, none⟩ = false := by
            rw [World.frozen?_setCell, ← hsz, World.frozen?_alloc_new]
          go_wp2_with fail
          refine (store_any _ _ true _ (by exact hs1) (by exact hs2)).mono ?_
          rintro e w1 ⟨rfl, rfl⟩
          go_wp2_with fail
          exact ⟨⟨j + 1, by omega, by go_num, rel_both HR.out hjk (zero69 _) HB.out⟩, by simp [intOf]; omega⟩
      · have HB : Hid (was len B j = false) := by simp [was, Hid, hjl]
        go_wp2_with fail
        exact ⟨⟨j + 1, by omega, by go_num, rel_free HR.out hjk (zero69 _) HB.out⟩, by simp [intOf]; omega⟩
    · go_wp2_with fail
      go_ret
      have e : j = K := by omega
      subst e
      exact ⟨rfl, HR.out⟩
end Go.Proofs.Ybulkaoiw
