/-
  SEAT b1998a. A SEND INTO A BUFFER WITH ROOM AND A RECEIVE FROM A BUFFER THAT HOLDS SOMETHING, IN THE RUN OF ONE GOROUTINE, BESIDE THE KIT's WALK 'Code.wp'. 'Code.wp' speaks of frames of every kind; a communication is handed up to the machine in a normal frame alone: so 'wpN': the same at normal frames. What holds by 'Code.wp' holds by 'wpN' ('wpN_of_wp'); a body's 'wpN' gives 'Calls' ('calls_of_wpN').
-/
import Derived.Conc.LoneCalls
import Derived.Tactics
namespace Go.Proofs.Ybulkaoiw
open Go.Conc

section
variable {P : Program} {Q : Exit → Act → World → Prop} {a : Act} {w : World}

def wpN (P : Program) (c : Code) (Q : Exit → Act → World → Prop) (a : Act) (w : World) : Prop :=
  ∀ (b : Frame), b.kind = .normal → ∀ (k : List Item) (cs : List Frame),
    ∃ e a' w', Q e a' w' ∧ Arrives P (lone (b.at a (.code c :: k)) cs w) b k cs e a' w'

theorem wpN_of_wp {c : Code} (h : c.wp P Q a w) : wpN P c Q a w := fun b _ k cs => h b k cs

theorem wpN_mono {c : Code} {Q' : Exit → Act → World → Prop} (h : wpN P c Q a w) (hq : ∀ e a w, Q e a w → Q' e a w) : wpN P c Q' a w :=
  fun b hb k cs => let ⟨e, a', w', q, r⟩ := h b hb k cs; ⟨e, a', w', hq _ _ _ q, r⟩

theorem wpN_seq {x y : Code} (h : wpN P x (Exit.then (wpN P y Q) Q) a w) : wpN P (Code.seq x y) Q a w := by
  intro b hb k cs
  obtain ⟨e, a₁, w₁, hq, harr⟩ := h b hb (.code y :: k) cs
  by_cases he : e = .normal
  · subst he
    obtain ⟨e₂, a₂, w₂, hq₂, harr₂⟩ := hq b hb k cs
    exact ⟨e₂, a₂, w₂, hq₂, .of_steps (.head step_seq harr) harr₂⟩
  · have hq' : Q e a₁ w₁ := by cases e <;> first | exact absurd rfl he | exact hq
    exact ⟨e, a₁, w₁, hq', .of_steps (.one step_seq) (.pass (x := .code y) rfl (fun _ _ => .inl he) harr)⟩

/-- The first part is walked by the kit's walk; what follows is asked of 'wpN' (the goal 'K ..' is left by 'hK'). -/
theorem wpN_seq_k {x y : Code} (h : ∀ K : Act → World → Prop, (∀ a w, wpN P y Q a w → K a w) → x.wp P (Exit.then K Q) a w) : wpN P (Code.seq x y) Q a w :=
  wpN_seq (wpN_of_wp (h _ fun _ _ h => h))

theorem wpN_cond {c : Operand} {x y : Code} {t : Bool} (hc : a.eval c = .bool t) (h : wpN P (if t then x else y) Q a w) : wpN P (Code.cond c x y) Q a w :=
  fun b hb k cs => let ⟨e, a', w', q, r⟩ := h b hb k cs; ⟨e, a', w', q, .of_steps (.one (step_cond hc)) r⟩

/-- A block whose code does not leave it by its own number. -/
theorem wpN_block {id : Nat} {c : Code} (h : wpN P c (fun e a w => e ≠ .exit id ∧ Q e a w) a w) : wpN P (Code.block id c) Q a w := by
  intro b hb k cs
  obtain ⟨e, a₁, w₁, ⟨hne, hq⟩, harr⟩ := h b hb (.inBlock id :: k) cs
  refine ⟨e, a₁, w₁, hq, .of_steps (.one step_block) ?_⟩
  cases e with
  | normal => exact Steps.trans harr (.one step_inBlock)
  | exit id' =>
    have hid : (id == id') = false := by simpa using fun h => hne (by rw [h])
    exact fun k' hk => harr k' (by simp [exitTo, hid, hk])
  | goto l => exact fun k' hk => harr k' (by simp [gotoIn, hk])
  | ret => exact harr
  | panic ch => exact harr
  | outgrown => exact harr

/-- A loop that is left in its first round. -/
theorem wpN_loop_once {c : Code} (h : wpN P c (fun e a w => e ≠ .normal ∧ Q e a w) a w) : wpN P (Code.loop c) Q a w := by
  intro b hb k cs
  obtain ⟨e, a₁, w₁, ⟨hne, hq⟩, harr⟩ := h b hb (.inLoop c :: k) cs
  exact ⟨e, a₁, w₁, hq, .of_steps (.one step_loop) (.pass (x := .inLoop c) rfl (fun _ _ => .inl hne) harr)⟩

/-! ### a region, operation by operation -/
def semOps (P : Program) (ops : Array Oper) (Q : Exit → Act → World → Prop) (l : List Nat) (a : Act) (w : World) : Prop :=
  ∀ (b : Frame), b.kind = .normal → ∀ (k : List Item) (cs : List Frame),
    ∃ e a' w', Q e a' w' ∧ Arrives P (lone (b.at a (.inRegion ops l :: k)) cs w) b k cs e a' w'

variable {ops : Array Oper} {i : Nat} {rest : List Nat} {o : Oper}

theorem semOps_of_wpOps {l : List Nat} (h : wpOps P ops Q l a w) : semOps P ops Q l a w := fun b _ k cs => wp_ops l a w h b k cs

theorem wpN_region {id : Nat} (h : semOps P ops Q (List.range ops.size) a w) : wpN P (Code.region id ops false) Q a w :=
  fun b hb k cs => let ⟨e, a', w', q, r⟩ := h b hb k cs; ⟨e, a', w', q, .of_steps (.one step_region) r⟩

/-- An operation that yields a value. -/
theorem semOps_value {v : Value} {w' : World} (ho : ops[i]? = some o) (hw : Region.wanted o (yielded ops a.tmps) = true) (hr : (execOp a.eval o).run P w = .ok (.value v) w')
    (h : semOps P ops Q rest (a.put o.dst v) w') : semOps P ops Q (i :: rest) a w := by
  intro b hb k cs
  obtain ⟨e, a', w'', hq, harr⟩ := h b hb k cs
  refine ⟨e, a', w'', hq, .of_steps (.one (step_lone_go ?_)) harr⟩
  have hfin : (b.at a (.inRegion ops (i :: rest) :: k)).finish v = b.at (a.put o.dst v) (.inRegion ops rest :: k) := by
    rw [Frame.finish_at, ho]; rfl
  rw [stepG_op ho hw, ← hfin]; simp [stepG.apply, hr]

/-- A send into a buffer with room. -/
theorem semOps_send {c cap s r : Nat} {buf : Array Value} {tm : Bool} {v z : Value} (ho : ops[i]? = some o) (hw : Region.wanted o (yielded ops a.tmps) = true)
    (hr : (execOp a.eval o).run P w = .ok (.comm #[scase c v z] true .send) w) (hc : w.heap[c]? = some (.chan cap buf false s r tm)) (hroom : buf.size < cap)
    (h : semOps P ops Q rest (a.put o.dst undef) (w.setChan c cap (buf.push v) false (s + 1) r tm)) : semOps P ops Q (i :: rest) a w := by
  intro b hb k cs
  obtain ⟨e, a', w'', hq, harr⟩ := h b hb k cs
  refine ⟨e, a', w'', hq, .of_steps (.one ?_) harr⟩
  have hst := step_lone_send_room (stepG_comm (P := P) (main := true) (b := b) (cs := cs) (k := k) (rest := rest) ho hw (by rw [hb]; simp) hr) hc hroom
  rw [Frame.finish_at, ho] at hst
  exact hst

/-- A receive (no comma-ok) from a buffer that holds something. -/
theorem semOps_recv {c cap s r : Nat} {buf : Array Value} {tm closed : Bool} {z : Value} (ho : ops[i]? = some o) (hw : Region.wanted o (yielded ops a.tmps) = true)
    (hr : (execOp a.eval o).run P w = .ok (.comm #[rcase c z] true (.recv false)) w) (hc : w.heap[c]? = some (.chan cap buf closed s r tm)) (hsome : 0 < buf.size)
    (h : semOps P ops Q rest (a.put o.dst (buf.getD 0 undef)) (w.setChan c cap (buf.extract 1 buf.size) closed s (r + 1) tm)) : semOps P ops Q (i :: rest) a w := by
  intro b hb k cs
  obtain ⟨e, a', w'', hq, harr⟩ := h b hb k cs
  refine ⟨e, a', w'', hq, .of_steps (.one ?_) harr⟩
  have hst := step_lone_recv_buf false (stepG_comm (P := P) (main := true) (b := b) (cs := cs) (k := k) (rest := rest) ho hw (by rw [hb]; simp) hr) hc hsome
  rw [Frame.finish_at, ho] at hst
  exact hst

/-- From a body's 'wpN' to the call. -/
theorem calls_of_wpN {f : FuncId} {fn : Func} {c : Code} {args : Array Value} {R : Ending → World → Prop} (hf : P.funcs[f]? = some fn) (hb : fn.body = some c)
    (h : wpN P c (bodyPost P fn R) { tmps := args ++ Array.replicate (fn.ntmps - args.size) undef, defers := [] } w) : Calls P f args w R := by
  intro cs
  obtain ⟨e, a', w', hq, harr⟩ := h { (default : Frame) with fn := f, kind := .normal } rfl [] cs
  have henter : Frame.enter P f args .normal = ({ (default : Frame) with fn := f, kind := .normal } : Frame).at { tmps := args ++ Array.replicate (fn.ntmps - args.size) undef, defers := [] } [.code c] := by
    simp [Frame.enter, Frame.at, hf, hb]
  rw [← henter] at harr
  cases e with
  | normal =>
    obtain ⟨hd, v, hr, hR⟩ := hq
    exact ⟨.returned v, w', _, hR, Steps.trans harr (.one step_end), rfl, rfl, hd, rfl, fn, hf, hr⟩
  | ret =>
    obtain ⟨⟨hd, v, hr, hR⟩, todo, hs⟩ := hq, harr
    exact ⟨.returned v, w', _, hR, hs, rfl, rfl, hd, rfl, fn, hf, hr⟩
  | panic chain =>
    obtain ⟨⟨hd, hR⟩, todo, hs⟩ := hq, harr
    exact ⟨.panicked chain, w', _, hR, hs, rfl, rfl, hd, fn, hf⟩
  | outgrown => exact ⟨.outgrown, w', { (default : Frame) with fn := f, kind := .normal }, hq, harr.resolve_left (by simp), rfl, trivial⟩
  | _ => exact hq.elim
end
end Go.Proofs.Ybulkaoiw
