/-
  SEAT b1998a. THE WORKERS AND THE POOL TOGETHER, in one word for all of a law's road: no walk in this text.
-/
import Derived.Test.YbulkaoiwBuild
import Derived.Test.YbulkaoiwPool
namespace Go.Proofs.Ybulkaoiw
open Go.RowKit

/-- THE WORLD W (the call began in w, N blocks in it): block N holds the K pointers, worker m lies in block N + 1 + m; worker T's word says h, the others' say O; the pool lies in block pb, its gate says g; c: handoff (empty); d: drained (empty). -/
structure Ready (w W : World) (K T pb c d : Nat) (O : Nat → Bool) (h g : Bool) : Prop where
  below : Below w.heap.size w W
  ptr : ∀ m, m < K → W.cell? ⟨w.heap.size, m, none⟩ = some (.pointer (some ⟨w.heap.size + 1 + m, 0, none⟩))
  held : ∀ m, m < K → W.cell? ⟨w.heap.size + 1 + m, 64, none⟩ = some (.int .u32 (word (if m = T then h else O m))) ∧ W.frozen? ⟨w.heap.size + 1 + m, 64, none⟩ = false
  gePB : w.heap.size + 1 + K ≤ pb
  geC : w.heap.size + 1 + K ≤ c
  geD : w.heap.size + 1 + K ≤ d
  ne : ¬ c = d
  nePC : ¬ pb = c
  nePD : ¬ pb = d
  cellC : W.cell? ⟨pb, 6, none⟩ = some (.chan (some c))
  cellD : W.cell? ⟨pb, 7, none⟩ = some (.chan (some d))
  gate : W.cell? ⟨pb, 72, none⟩ = some (.int .u32 (word g))
  free : W.frozen? ⟨pb, 72, none⟩ = false
  chanC : W.heap[c]? = some (.chan K #[] false 0 0 false)
  chanD : W.heap[d]? = some (.chan K #[] false 0 0 false)

theorem ready_start {w w1 w3 : World} {K T pb c d : Nat} {O : Nat → Bool} {h : Bool} (R : Rel w w1 K K O) (hT : T < K)
    (P : NewPool ((w1.setCell ⟨w.heap.size + 1 + T, 64, none⟩ (.int .u32 (word h))).drew) w3 K pb c d) : Ready w w3 K T pb c d O h false := by
  have hs : ((w1.setCell ⟨w.heap.size + 1 + T, 64, none⟩ (.int .u32 (word h))).drew).heap.size = w.heap.size + 1 + K := by have := R.size; simp [this]
  have p0 := P.place
  have p1 := P.geC
  have p2 := P.geD
  have p3 := P.ltC
  have p4 := P.ltD
  have pb := P.below
  rw [hs] at p0 p1 p2 p3 p4 pb
  have b1 : Below w.heap.size w ((w1.setCell ⟨w.heap.size + 1 + T, 64, none⟩ (.int .u32 (word h))).drew) := (R.below.setCell (by simp; omega) _).drew
  refine ⟨b1.trans (pb.mono (by omega)), fun m hm => ?_, fun m hm => ?_, by omega, p1, p2, P.ne, by omega, by omega, P.cellC, P.cellD, P.gate, P.free, P.chanC, P.chanD⟩
  · obtain ⟨v, hv, hp⟩ := R.ptr m hm
    rw [pb.cell (by simp; omega), World.cell?_drew, World.cell?_setCell_other _ _ _ _ (by simp), hv, hp hm]
  · obtain ⟨h1, h2⟩ := R.held m hm
    rw [pb.cell (by simp; omega), pb.frozen (by simp; omega), World.cell?_drew, World.frozen?_drew, World.frozen?_setCell]
    refine ⟨?_, h2⟩
    by_cases e : m = T
    · subst e
      rw [World.cell?_setCell_same _ _ _ h1, if_pos rfl]
    · rw [World.cell?_setCell_other _ _ _ _ (by simp), h1, if_neg e]

/-- The gate is written. -/
theorem ready_gate {w W : World} {K T pb c d : Nat} {O : Nat → Bool} {h g : Bool} (R : Ready w W K T pb c d O h g) (g' : Bool) :
    Ready w ((W.setCell ⟨pb, 72, none⟩ (.int .u32 (word g'))).drew) K T pb c d O h g' := by
  have p0 := R.gePB
  refine ⟨(R.below.setCell (by simp; omega) _).drew, fun m hm => ?_, fun m hm => ?_, R.gePB, R.geC, R.geD, R.ne, R.nePC, R.nePD, ?_, ?_, ?_, ?_, ?_, ?_⟩
  · rw [World.cell?_drew, World.cell?_setCell_other _ _ _ _ (by simp)]; exact R.ptr m hm
  · rw [World.cell?_drew, World.frozen?_drew, World.frozen?_setCell, World.cell?_setCell_other _ _ _ _ (by simp)]; exact R.held m hm
  · rw [World.cell?_drew, World.cell?_setCell_other _ _ _ _ (by simp)]; exact R.cellC
  · rw [World.cell?_drew, World.cell?_setCell_other _ _ _ _ (by simp)]; exact R.cellD
  · rw [World.cell?_drew, World.cell?_setCell_same _ _ _ R.gate]
  · rw [World.frozen?_drew, World.frozen?_setCell]; exact R.free
  · rw [heap_drew, Below.heap_setCell _ _ _ _ (by simpa using fun e => R.nePC e.symm)]; exact R.chanC
  · rw [heap_drew, Below.heap_setCell _ _ _ _ (by simpa using fun e => R.nePD e.symm)]; exact R.chanD

/-- Worker T's word is written. -/
theorem ready_held {w W : World} {K T pb c d : Nat} {O : Nat → Bool} {h g : Bool} (R : Ready w W K T pb c d O h g) (hT : T < K) (h' : Bool) :
    Ready w ((W.setCell ⟨w.heap.size + 1 + T, 64, none⟩ (.int .u32 (word h'))).drew) K T pb c d O h' g := by
  have p0 := R.gePB
  have p1 := R.geC
  have p2 := R.geD
  refine ⟨(R.below.setCell (by simp; omega) _).drew, fun m hm => ?_, fun m hm => ?_, R.gePB, R.geC, R.geD, R.ne, R.nePC, R.nePD, ?_, ?_, ?_, ?_, ?_, ?_⟩
  · rw [World.cell?_drew, World.cell?_setCell_other _ _ _ _ (by simp)]; exact R.ptr m hm
  · obtain ⟨h1, h2⟩ := R.held m hm
    rw [World.cell?_drew, World.frozen?_drew, World.frozen?_setCell]
    refine ⟨?_, h2⟩
    by_cases e : m = T
    · subst e
      rw [World.cell?_setCell_same _ _ _ h1, if_pos rfl]
    · rw [World.cell?_setCell_other _ _ _ _ (by simp), h1, if_neg e, if_neg e]
  · rw [World.cell?_drew, World.cell?_setCell_other _ _ _ _ (by simp)]; exact R.cellC
  · rw [World.cell?_drew, World.cell?_setCell_other _ _ _ _ (by simp)]; exact R.cellD
  · rw [World.cell?_drew, World.cell?_setCell_other _ _ _ _ (by simp)]; exact R.gate
  · rw [World.frozen?_drew, World.frozen?_setCell]; exact R.free
  · rw [heap_drew, Below.heap_setCell _ _ _ _ (by simp; omega)]; exact R.chanC
  · rw [heap_drew, Below.heap_setCell _ _ _ _ (by simp; omega)]; exact R.chanD
end Go.Proofs.Ybulkaoiw
