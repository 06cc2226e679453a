/-
  SEAT b1998a. 'Rows.LawS1998AOutcomeSaid', PROVED: the guide's frame (howto/shells) at this function's number and types, 'others' opened by 'open_bools'.
-/
import Derived.Test.YbulkaoiwOutcomeGate
import Derived.Test.YbulkaoiwOpen
namespace Go.Proofs.Ybulkaoiw
open Go.ChangeShapes Go.WideShapes Go.ChangeAt Go.RowKit

/-- The three ways together. -/
theorem outcome_walk (n : Int) (hn0 : 0 ≤ n) (hn : n ≤ 255) (q : Int) (hq0 : 0 ≤ q) (hq : q ≤ 255) (held gate : Bool) (a : Option Addr) (len cap : Nat) (hlen : len ≤ 9223372036854775807) (B : Nat → Bool) (w : World)
    (ho : ∀ i, i < len → ∃ b off, a = some ⟨b, off, none⟩ ∧ b < w.heap.size ∧ w.cell? ⟨b, off + i, none⟩ = some (.bool (B i))) :
    Calls Yba.prog 3 #[.int .u8 n, .int .u8 q, .bool held, .bool gate, .slice a len cap] w fun e w' => e = .returned (.bool true) ∧ Below w.heap.size w w' := by
  cases held
  · cases gate
    · exact outcome_free n hn0 hn q hq0 hq a len cap hlen B w ho
    · exact outcome_gate n hn0 hn q hq0 hq a len cap hlen B w ho
  · exact outcome_held n hn0 hn q hq0 hq gate a len cap hlen B w ho

set_option maxRecDepth 100000 in
theorem outcome_lifted (os : Os) (started : os.Started) (H : Type) (enc : TypeId × Value → H) :
    ReturnsInHanded {} Yba.checked os 3 .any (Rows.lawS1998AOutcomeSpec.pre6 enc Yba.prog Yba.f3 Rows.lawS1998AOutcomeRow.domain false) (Rows.lawS1998AOutcomeSpec.post enc Yba.prog Yba.f3 false true false false) := by
  refine returnsInHanded_of_change (C := Yba.checked) own started (by kernel_rfl) Yba.func3
    (ChangeSpec.witness6 (enc := enc) (C := Yba.checked) false ⟨#[], #[.int .u8 0, .int .u8 0, .bool false, .bool false, .slice none 0 0], []⟩ 8 (by kernel_rfl) (by kernel_rfl) (by kernel_rfl) (by kernel_rfl)) ?_
  intro W base args ds gs before hval0 hW hcnd _
  have hval : ∀ (j : Nat) t v, Yba.f3.params[j]? = some t → args[j]? = some v → Value.okWide Yba.prog W .any base t v := hval0
  have hW' := hW
  obtain ⟨p, q, hA0, hV, rfl, hfz, hnd⟩ := hW
  have hA : DataW.TrodAll enc Yba.prog W 0 (fun _ => true) true Yba.f3.params.toList args.toList ds p := hA0
  rw [Yba.params3] at hA hval
  obtain ⟨v0, vs0, d0, ds0, p0, q0, hargs, rfl, rfl, h0, r0⟩ := trodAll_cons hA
  obtain ⟨v1, vs1, d1, ds1, p1, q1, rfl, rfl, rfl, h1, r1⟩ := trodAll_cons r0
  obtain ⟨v2, vs2, d2, ds2, p2, q2, rfl, rfl, rfl, h2, r2⟩ := trodAll_cons r1
  obtain ⟨v3, vs3, d3, ds3, p3, q3, rfl, rfl, rfl, h3, r3⟩ := trodAll_cons r2
  obtain ⟨v4, vs4, d4, ds4, p4, q4, rfl, rfl, rfl, h4, r4⟩ := trodAll_cons r3
  obtain ⟨rfl, rfl, rfl⟩ := trodAll_nil r4
  obtain rfl : args = #[v0, v1, v2, v3, v4] := by cases args; simp_all
  obtain ⟨rfl, rfl⟩ := trodVars_none hV
  obtain ⟨a0, rfl, rfl, rfl, w0⟩ := open_int Yba.underlying5 (hval 0 5 v0 rfl rfl) h0
  obtain ⟨a1, rfl, rfl, rfl, w1⟩ := open_int Yba.underlying5 (hval 1 5 v1 rfl rfl) h1
  obtain ⟨x2, rfl, rfl, rfl⟩ := open_bool Yba.underlying4 (hval 2 4 v2 rfl rfl) h2
  obtain ⟨x3, rfl, rfl, rfl⟩ := open_bool Yba.underlying4 (hval 3 4 v3 rfl rfl) h3
  obtain ⟨a4, len4, cap4, rfl⟩ := okWide_slice Yba.underlying22 (hval 4 22 v4 rfl rfl)
  have k4 := h4
  have lt4 : ∀ x ∈ p4, x.block < W.heap.size := by obtain ⟨m, hm⟩ := k4; exact DataW.trod_lt m _ _ _ hm
  obtain ⟨B, hlen, ho⟩ := others_open h4
  clear hA0 hval0
  refine (outcome_walk a0 (bounds_u8 w0).1 (bounds_u8 w0).2 a1 (bounds_u8 w1).1 (bounds_u8 w1).2 x2 x3 a4 len4 cap4 hlen B W ho).mono fun e W' ⟨he, bel⟩ => ?_
  subst he
  exact ⟨_, rfl, _, _, _, [], _, [], hW', trodAll_mk1 (shut_bool Yba.underlying4 _), (trodAll_cons_mk (shut_int Yba.underlying5 w0) (trodAll_cons_mk (shut_int Yba.underlying5 w1) (trodAll_cons_mk (shut_bool Yba.underlying4 x2) (trodAll_cons_mk (shut_bool Yba.underlying4 x3) (trodAll_cons_mk (Below.trod laidOut (by kernel_rfl) (of_decide_eq_true (by kernel_rfl)) k4 bel lt4) trodAll_mk0))))), rfl, bel.frame _, fun h => by cases h⟩

theorem outcome_over : Rows.lawS1998AOutcomeRow.holds Yba.pinned (OpenSpec.ofChange Rows.lawS1998AOutcomeSpec) :=
  OpenClaim.holds_of_wide 3 Yba.f3 rfl rfl rfl rfl rfl rfl rfl ⟨rfl, rfl, rfl, rfl, rfl⟩ rfl rfl rfl rfl rfl (by kernel_rfl) Yba.func3 (by kernel_rfl)
    (of_decide_eq_true (by kernel_rfl)) (by unfold Func.isWrapper; first | (rw [if_pos (by decide +kernel)]; kernel_rfl) | (rw [if_neg (by decide +kernel)]; exact ⟨rfl, rfl⟩))
    (fun os started H enc _ => outcome_lifted os started H enc)

theorem outcome_proved : Rows.LawS1998AOutcomeSaid := outcome_over
end Go.Proofs.Ybulkaoiw
