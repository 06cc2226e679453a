/-
  SEAT b1998a. THE ATOMICS: '(*sync/atomic.Bool).Store', 'Load', 'CompareAndSwap' in the run of one goroutine, each a contract.
-/
import Derived.Test.YbulkaoiwRows
import Derived.WalkKit
import Derived.WalkSpells
import Derived.WalkLawsBesides
import Derived.Laws.LoneSync
import Derived.Laws.Pointers
import Derived.RegionCalls
namespace Go.Proofs.Ybulkaoiw
open Go.RowKit

/-- The word that a bool is kept as. -/
def word (v : Bool) : Int := if v then 1 else 0

set_option maxHeartbeats 400000 in
theorem store_any (a : Addr) (x : Value) (v : Bool) (w : World) (hc : w.cell? a = some x) (hz : w.frozen? a = false) :
    Calls Yba.prog 8 #[.pointer (some a), .bool v] w fun e w' => e = .returned (.tuple #[]) ∧ w' = (w.setCell a (.int .u32 (word v))).drew := by
  have hc' : w.drew.cell? a = some x := by go_simp
  have hz' : w.drew.frozen? a = false := by go_simp
  cases v
  · have hst := run_call_store (P := Yba.prog) Yba.func21 (by kernel_rfl) (by kernel_rfl) (by kernel_rfl) (by kernel_rfl) (k := .u32) (y := 0) hc' hz'
    go_enter Yba.func8, Yba.ntmps8
    go_wp2
    go_region_calls
    all_goals (go_end0; exact ⟨rfl, rfl⟩)
  · have hst := run_call_store (P := Yba.prog) Yba.func21 (by kernel_rfl) (by kernel_rfl) (by kernel_rfl) (by kernel_rfl) (k := .u32) (y := 1) hc' hz'
    go_enter Yba.func8, Yba.ntmps8
    go_wp2
    go_region_calls
    all_goals (go_end0; exact ⟨rfl, rfl⟩)

set_option maxHeartbeats 400000 in
theorem load_any (a : Addr) (v : Bool) (w : World) (hc : w.cell? a = some (.int .u32 (word v))) :
    Calls Yba.prog 11 #[.pointer (some a)] w fun e w' => e = .returned (.bool v) ∧ w' = w := by
  have hld := run_call_load (P := Yba.prog) Yba.func25 (by kernel_rfl) (by kernel_rfl) (by kernel_rfl) .u32 (by kernel_rfl) hc
  cases v
  · simp only [word] at hld
    go_enter Yba.func11, Yba.ntmps11
    go_wp2
    go_ret
    exact ⟨rfl, rfl⟩
  · simp only [word] at hld
    go_enter Yba.func11, Yba.ntmps11
    go_wp2
    go_ret
    exact ⟨rfl, rfl⟩

set_option maxHeartbeats 400000 in
theorem cas_hit (a : Addr) (w : World) (hc : w.cell? a = some (.int .u32 0)) (hz : w.frozen? a = false) :
    Calls Yba.prog 23 #[.pointer (some a), .bool false, .bool true] w fun e w' => e = .returned (.bool true) ∧ w' = (w.setCell a (.int .u32 1)).drew := by
  have hc' : w.drew.cell? a = some (.int .u32 0) := by go_simp
  have hz' : w.drew.frozen? a = false := by go_simp
  have hst := run_call_cas_hit (P := Yba.prog) Yba.func33 (by kernel_rfl) (by kernel_rfl) (by kernel_rfl) .u32 (by kernel_rfl) (y := 1) hc' hz'
  go_enter Yba.func23, Yba.ntmps23
  go_wp2
  go_region_calls
  all_goals (go_wp2; go_ret; exact ⟨rfl, rfl⟩)

end Go.Proofs.Ybulkaoiw
