/-
  SEAT b1998a. WHAT BOTH LAWS' PROOFS ASK OF THE PROGRAM, and 'others' (a slice of bools that came in) as the walks ask for it.
-/
import Derived.Test.YbulkaoiwRows
import Derived.ProofKit
import Derived.OpenShut
import Derived.ChangeOld
import Derived.Below
import Derived.Deep.Grids
namespace Go.Proofs.Ybulkaoiw
open Go.ChangeShapes Go.WideShapes Go.ChangeAt Go.RowKit Go.Deep

theorem own : ownKnob Yba.prog.godebug = none := by kernel_rfl
theorem laidOut : laidOutB Yba.prog = true := by kernel_rfl
theorem cells4 : Yba.prog.cellsOf 4 = 1 := by kernel_rfl

theorem block_lt {w : World} {a : Addr} {v : Value} (h : w.cell? a = some v) : a.block < w.heap.size := by
  rcases Nat.lt_or_ge a.block w.heap.size with h' | h'
  · exact h'
  · simp [World.cell?, Array.getElem?_eq_none h'] at h

/-- A slice of bools that came in, as the walks ask for it. -/
theorem others_open {H : Type} {enc : TypeId × Value → H} {W : World} {base : Nat} {held : Bool} {a : Option Addr} {len cap : Nat} {d : DataW H} {p : List MemPlace}
    (h : DataW.Trod enc Yba.prog W base (fun _ => true) held 22 (.slice a len cap) d p) :
    ∃ B : Nat → Bool, len ≤ 9223372036854775807 ∧ ∀ i, i < len → ∃ b off, a = some ⟨b, off, none⟩ ∧ b < W.heap.size ∧ W.cell? ⟨b, off + i, none⟩ = some (.bool (B i)) := by
  obtain ⟨fuel, hf⟩ := h
  rcases open_bools Yba.underlying22 Yba.underlying4 cells4 hf with ⟨hcs, _⟩ | ⟨x, l, c, B, hcs, _, hl, hm, _, hcell⟩
  · simp [Value.cells] at hcs
    obtain ⟨rfl, rfl, rfl⟩ := hcs
    exact ⟨fun _ => false, by omega, fun i hi => absurd hi (by omega)⟩
  · simp [Value.cells] at hcs
    obtain ⟨rfl, rfl, rfl⟩ := hcs
    unfold maxLen at hm
    refine ⟨B, by omega, fun i hi => ?_⟩
    have hc := hcell i (by omega)
    obtain ⟨b, off, spot⟩ := x
    have hspot : spot = none := by simpa [Addr.add] using World.cell?_spot (hcell 0 (by omega))
    subst hspot
    rw [add_plain] at hc
    exact ⟨b, off, rfl, block_lt hc, hc⟩

end Go.Proofs.Ybulkaoiw
