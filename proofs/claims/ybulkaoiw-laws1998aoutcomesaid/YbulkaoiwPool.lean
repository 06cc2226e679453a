/-
  SEAT b1998a. 'newPool': two channels and the pool, in new memory.
-/
import Derived.Test.YbulkaoiwAtom
import Derived.Laws.Rows
import Derived.Conc.SmallLaws
import Derived.KernelRfl
namespace Go.Proofs.Ybulkaoiw
open Go.RowKit

theorem bytes25 : ∃ i, Yba.prog.info? 25 = some i ∧ i.bytes = 8 := by
  have h : (Yba.prog.info? 25).map (·.bytes) = some 8 := by kernel_rfl
  obtain ⟨i, hi, hb⟩ := Option.map_eq_some_iff.1 h
  exact ⟨i, hi, hb⟩

theorem makeChan77 (n : Nat) (hn : n ≤ 8) (w : World) : (Instr.makeChan 77 (.int .i64 n)).run Yba.prog w = .ok (.chan (some w.heap.size)) (w.alloc (.chan n #[] false 0 0 false)) := by
  obtain ⟨i, hi, hb⟩ := bytes25
  simpa using Go.Conc.run_makeChan (P := Yba.prog) (w := w) Yba.underlying77 hi .i64 n (by omega) (by rw [hb]; omega)

set_option maxRecDepth 100000 in
/-- What '&pool{workers: .., handoff: .., drained: ..}' is laid out as: of its 138 cells those that the roads read. -/
theorem pool_cells (a : Option Addr) (n c d : Nat) (cs : Array Value) (h : cs = ((Yba.zeroCells81.setIfInBounds 0 (.slice a n n)).setIfInBounds 6 (.chan (some c))).setIfInBounds 7 (.chan (some d))) :
    cs.size = 138 ∧ cs[6]? = some (.chan (some c)) ∧ cs[7]? = some (.chan (some d)) ∧ cs[72]? = some (.int .u32 0) := by
  subst h
  exact ⟨by kernel_rfl, by kernel_rfl, by kernel_rfl, by kernel_rfl⟩

set_option maxRecDepth 100000 in
set_option maxHeartbeats 800000 in
theorem newPool_any (a : Option Addr) (n : Nat) (hn : n ≤ 8) (w : World) :
    Calls Yba.prog 9 #[.slice a n n] w fun e w' => ∃ c d cs, (c = w.heap.size ∧ d = w.heap.size + 1 ∨ c = w.heap.size + 1 ∧ d = w.heap.size) ∧
      (cs.size = 138 ∧ cs[6]? = some (.chan (some c)) ∧ cs[7]? = some (.chan (some d)) ∧ cs[72]? = some (.int .u32 0)) ∧
      e = .returned (.pointer (some ⟨w.heap.size + 1 + 1, 0, none⟩)) ∧ w' = (((w.alloc (.chan n #[] false 0 0 false)).alloc (.chan n #[] false 0 0 false)).alloc (.cells cs 81)).drew := by
  have hmk := makeChan77 n hn
  go_enter Yba.func9, Yba.ntmps9
  go_wp2
  go_region
  · go_wp2
    go_ret
    exact ⟨_, _, _, .inl ⟨rfl, rfl⟩, pool_cells a n w.heap.size (w.heap.size + 1) _ rfl, rfl, rfl⟩
  · go_wp2
    go_ret
    exact ⟨_, _, _, .inr ⟨rfl, rfl⟩, pool_cells a n (w.heap.size + 1) w.heap.size _ rfl, rfl, rfl⟩

/-- WHAT 'newPool' LEAVES, the call begun in w: three new blocks: the two channels (c: handoff, d: drained), empty, with room for n; and behind them the pool, its gate not set. -/
structure NewPool (w w' : World) (n pb c d : Nat) : Prop where
  place : pb = w.heap.size + 1 + 1
  below : Below w.heap.size w w'
  size : w'.heap.size = w.heap.size + 3
  geC : w.heap.size ≤ c
  geD : w.heap.size ≤ d
  ltC : c < w.heap.size + 2
  ltD : d < w.heap.size + 2
  ne : ¬ c = d
  cellC : w'.cell? ⟨pb, 6, none⟩ = some (.chan (some c))
  cellD : w'.cell? ⟨pb, 7, none⟩ = some (.chan (some d))
  gate : w'.cell? ⟨pb, 72, none⟩ = some (.int .u32 (word false))
  free : w'.frozen? ⟨pb, 72, none⟩ = false
  chanC : w'.heap[c]? = some (.chan n #[] false 0 0 false)
  chanD : w'.heap[d]? = some (.chan n #[] false 0 0 false)

theorem newPool_left (w : World) (n c d : Nat) (cs : Array Value) (h : c = w.heap.size ∧ d = w.heap.size + 1 ∨ c = w.heap.size + 1 ∧ d = w.heap.size)
    (hcs : cs.size = 138 ∧ cs[6]? = some (.chan (some c)) ∧ cs[7]? = some (.chan (some d)) ∧ cs[72]? = some (.int .u32 0)) :
    NewPool w ((((w.alloc (.chan n #[] false 0 0 false)).alloc (.chan n #[] false 0 0 false)).alloc (.cells cs 81)).drew) n (w.heap.size + 1 + 1) c d := by
  have hs : ((w.alloc (.chan n #[] false 0 0 false)).alloc (.chan n #[] false 0 0 false)).heap.size = w.heap.size + 1 + 1 := by simp
  have hb : Below w.heap.size w ((((w.alloc (.chan n #[] false 0 0 false)).alloc (.chan n #[] false 0 0 false)).alloc (.cells cs 81)).drew) :=
    ((((Below.refl _ _).alloc (Nat.le_refl _) _).alloc (by simp) _).alloc (by simp; omega) _).drew
  have h0 : ((((w.alloc (.chan n #[] false 0 0 false)).alloc (.chan n #[] false 0 0 false)).alloc (.cells cs 81)).drew).heap[w.heap.size]? = some (.chan n #[] false 0 0 false) := by
    rw [heap_drew, Below.heap_alloc _ _ _ (by simp; omega), Below.heap_alloc _ _ _ (by simp)]; exact heap_alloc_new _ _
  have h1 : ((((w.alloc (.chan n #[] false 0 0 false)).alloc (.chan n #[] false 0 0 false)).alloc (.cells cs 81)).drew).heap[w.heap.size + 1]? = some (.chan n #[] false 0 0 false) := by
    rw [heap_drew, Below.heap_alloc _ _ _ (by simp)]
    have := heap_alloc_new (w.alloc (.chan n #[] false 0 0 false)) (.chan n #[] false 0 0 false)
    simpa using this
  have hcell : ∀ j, ((((w.alloc (.chan n #[] false 0 0 false)).alloc (.chan n #[] false 0 0 false)).alloc (.cells cs 81)).drew).cell? ⟨w.heap.size + 1 + 1, j, none⟩ = cs[j]? := fun j => by
    rw [World.cell?_drew, ← hs, World.cell?_alloc_new]
  have hfr : ∀ j, ((((w.alloc (.chan n #[] false 0 0 false)).alloc (.chan n #[] false 0 0 false)).alloc (.cells cs 81)).drew).frozen? ⟨w.heap.size + 1 + 1, j, none⟩ = false := fun j => by
    rw [World.frozen?_drew, ← hs, World.frozen?_alloc_new]
  refine ⟨rfl, hb, by simp, by omega, by omega, by omega, by omega, by omega, ?_, ?_, ?_, hfr _, ?_, ?_⟩
  · rw [hcell]; exact hcs.2.1
  · rw [hcell]; exact hcs.2.2.1
  · rw [hcell]; exact hcs.2.2.2
  · rcases h with ⟨rfl, rfl⟩ | ⟨rfl, rfl⟩
    · exact h0
    · exact h1
  · rcases h with ⟨rfl, rfl⟩ | ⟨rfl, rfl⟩
    · exact h1
    · exact h0

theorem newPool_new (a : Option Addr) (n : Nat) (hn : n ≤ 8) (w : World) :
    Calls Yba.prog 9 #[.slice a n n] w fun e w' => ∃ pb c d, e = .returned (.pointer (some ⟨pb, 0, none⟩)) ∧ NewPool w w' n pb c d := by
  refine (newPool_any a n hn w).mono ?_
  rintro e w' ⟨c, d, cs, hcd, hcs, he, rfl⟩
  exact ⟨_, c, d, he, newPool_left w n c d cs hcd hcs⟩
end Go.Proofs.Ybulkaoiw
