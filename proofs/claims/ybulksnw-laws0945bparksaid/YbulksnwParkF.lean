import Derived.Test.YbulksnwParkE
import Derived.Conc.LoneCalls
namespace Go.Proofs.Ybulksnw.Park
open Go.RowKit Go.Conc

variable {P : Program}

/-- As Code.wp, of a frame that is not an early one: there a communication is carried out. -/
def wpK (P : Program) (c : Code) (Q : Exit → Act → World → Prop) (a : Act) (w : World) : Prop :=
  ∀ (b : Frame), b.kind = .normal → ∀ (k : List Item) (cs : List Frame), ∃ e a' w', Q e a' w' ∧ Arrives P (lone (b.at a (.code c :: k)) cs w) b k cs e a' w'

theorem wpK_of_wp {c : Code} {Q : Exit → Act → World → Prop} {a : Act} {w : World} (h : c.wp P Q a w) : wpK P c Q a w := fun b _ k cs => h b k cs

theorem wpK_seq {x y : Code} {Q : Exit → Act → World → Prop} {a : Act} {w : World} (h : wpK P x (Exit.then (wpK P y Q) Q) a w) : wpK P (.seq x y) Q a w := by
  intro b hb k cs
  obtain ⟨e, a₁, w₁, hq, harr⟩ := h b hb (.code y :: k) cs
  have leave : ∀ e, e ≠ .normal → Q e a₁ w₁ → Arrives P (lone (b.at a (.code x :: .code y :: k)) cs w) b (.code y :: k) cs e a₁ w₁ → ∃ e a' w', Q e a' w' ∧ Arrives P (lone (b.at a (.code (.seq x y) :: k)) cs w) b k cs e a' w' :=
    fun e hne q r => ⟨e, a₁, w₁, q, .of_steps (.one step_seq) (.pass (x := .code y) rfl (fun _ _ => .inl hne) r)⟩
  cases e with
  | normal =>
    obtain ⟨e₂, a₂, w₂, hq₂, harr₂⟩ := hq b hb k cs
    exact ⟨e₂, a₂, w₂, hq₂, .of_steps (.head step_seq harr) harr₂⟩
  | exit id => exact leave _ (by simp) hq harr
  | goto l => exact leave _ (by simp) hq harr
  | ret => exact leave _ (by simp) hq harr
  | panic ch => exact leave _ (by simp) hq harr
  | outgrown => exact leave _ (by simp) hq harr

theorem wpK_seq_k {x y : Code} {Q : Exit → Act → World → Prop} {a : Act} {w : World} (h : ∀ K : Act → World → Prop, (∀ a w, wpK P y Q a w → K a w) → x.wp P (Exit.then K Q) a w) : wpK P (.seq x y) Q a w :=
  wpK_seq (wpK_of_wp (h _ fun _ _ h => h))

theorem calls_of_wpK {f : FuncId} {fn : Func} {c : Code} {args : Array Value} {w : World} {R : Ending → World → Prop} (hf : P.funcs[f]? = some fn) (hb : fn.body = some c)
    (h : wpK P c (bodyPost P fn R) { tmps := args ++ Array.replicate (fn.ntmps - args.size) undef, defers := [] } w) : Calls P f args w R := by
  intro cs
  have henter : Frame.enter P f args .normal = ({ (default : Frame) with fn := f, kind := .normal } : Frame).at { tmps := args ++ Array.replicate (fn.ntmps - args.size) undef, defers := [] } [.code c] := by
    simp [Frame.enter, Frame.at, hf, hb]
  obtain ⟨e, a', w', hq, harr⟩ := h { (default : Frame) with fn := f, kind := .normal } rfl [] cs
  rw [← henter] at harr
  cases e with
  | normal =>
    obtain ⟨hd, v, hr, hR⟩ := hq
    exact ⟨.returned v, w', _, hR, Steps.trans harr (.one step_end), rfl, rfl, hd, rfl, fn, hf, hr⟩
  | ret =>
    obtain ⟨hd, v, hr, hR⟩ := hq
    obtain ⟨todo, hs⟩ := harr
    exact ⟨.returned v, w', _, hR, hs, rfl, rfl, hd, rfl, fn, hf, hr⟩
  | panic chain =>
    obtain ⟨hd, hR⟩ := hq
    obtain ⟨todo, hs⟩ := harr
    exact ⟨.panicked chain, w', _, hR, hs, rfl, rfl, hd, fn, hf⟩
  | exit id => exact hq.elim
  | goto l => exact hq.elim
  | outgrown => exact ⟨.outgrown, w', { (default : Frame) with fn := f, kind := .normal }, hq, harr.resolve_left (by simp), rfl, trivial⟩

/-- The rest of a region, operation for operation. -/
def wpR (P : Program) (ops : Array Oper) (Q : Exit → Act → World → Prop) (l : List Nat) (a : Act) (w : World) : Prop :=
  ∀ (b : Frame), b.kind = .normal → ∀ (k : List Item) (cs : List Frame), ∃ e a' w', Q e a' w' ∧ Arrives P (lone (b.at a (.inRegion ops l :: k)) cs w) b k cs e a' w'

theorem wpR_region {id : Nat} {ops : Array Oper} {Q : Exit → Act → World → Prop} {a : Act} {w : World} (h : wpR P ops Q (List.range ops.size) a w) : wpK P (.region id ops false) Q a w :=
  fun b hb k cs => let ⟨e, a', w', q, r⟩ := h b hb k cs; ⟨e, a', w', q, .of_steps (.one step_region) r⟩
theorem wpR_nil {ops : Array Oper} {Q : Exit → Act → World → Prop} {a : Act} {w : World} (h : Q .normal a w) : wpR P ops Q [] a w :=
  fun _ _ _ _ => ⟨.normal, a, w, h, .one step_region_end⟩
theorem wpR_value {ops : Array Oper} {Q : Exit → Act → World → Prop} {i : Nat} {rest : List Nat} {o : Oper} {v : Value} {a : Act} {w w' : World} (ho : ops[i]? = some o) (hw : Region.wanted o (yielded ops a.tmps) = true) (hr : (execOp a.eval o).run P w = .ok (.value v) w')
    (h : wpR P ops Q rest (a.put o.dst v) w') : wpR P ops Q (i :: rest) a w := by
  intro b hb k cs
  obtain ⟨e, a', w'', hq, harr⟩ := h b hb k cs
  refine ⟨e, a', w'', hq, .of_steps (.one (step_lone_go ?_)) harr⟩
  have hfin : (b.at a (.inRegion ops (i :: rest) :: k)).finish v = b.at (a.put o.dst v) (.inRegion ops rest :: k) := by rw [Frame.finish_at, ho]; rfl
  rw [stepG_op ho hw, ← hfin]
  simp [stepG.apply, hr]
theorem wpR_send {ops : Array Oper} {Q : Exit → Act → World → Prop} {i : Nat} {rest : List Nat} {o : Oper} {v z : Value} {a : Act} {w : World} {c cap s r : Nat} {buf : Array Value} {tm : Bool} (ho : ops[i]? = some o) (hw : Region.wanted o (yielded ops a.tmps) = true)
    (hr : (execOp a.eval o).run P w = .ok (.comm #[scase c v z] true .send) w) (hc : w.heap[c]? = some (.chan cap buf false s r tm)) (hroom : buf.size < cap)
    (h : wpR P ops Q rest (a.put o.dst undef) (w.setChan c cap (buf.push v) false (s + 1) r tm)) : wpR P ops Q (i :: rest) a w := by
  intro b hb k cs
  obtain ⟨e, a', w'', hq, harr⟩ := h b hb k cs
  have hfin : (b.at a (.inRegion ops (i :: rest) :: k)).finish undef = b.at (a.put o.dst undef) (.inRegion ops rest :: k) := by rw [Frame.finish_at, ho]; rfl
  have hs := step_lone_send_room (stepG_comm (P := P) (main := true) (b := b) (a := a) (k := k) (cs := cs) (rest := rest) ho hw (by rw [hb]; decide) hr) hc hroom
  rw [hfin] at hs
  exact ⟨e, a', w'', hq, .of_steps (.one hs) harr⟩
theorem wpR_recv {ops : Array Oper} {Q : Exit → Act → World → Prop} {i : Nat} {rest : List Nat} {o : Oper} {z : Value} {a : Act} {w : World} {c cap s r : Nat} {buf : Array Value} {cl tm : Bool} (ho : ops[i]? = some o) (hw : Region.wanted o (yielded ops a.tmps) = true)
    (hr : (execOp a.eval o).run P w = .ok (.comm #[rcase c z] true (.recv false)) w) (hc : w.heap[c]? = some (.chan cap buf cl s r tm)) (hsome : 0 < buf.size)
    (h : wpR P ops Q rest (a.put o.dst (buf.getD 0 undef)) (w.setChan c cap (buf.extract 1 buf.size) cl s (r + 1) tm)) : wpR P ops Q (i :: rest) a w := by
  intro b hb k cs
  obtain ⟨e, a', w'', hq, harr⟩ := h b hb k cs
  have hfin : (b.at a (.inRegion ops (i :: rest) :: k)).finish (buf.getD 0 undef) = b.at (a.put o.dst (buf.getD 0 undef)) (.inRegion ops rest :: k) := by rw [Frame.finish_at, ho]; rfl
  have hs := step_lone_recv_buf false (stepG_comm (P := P) (main := true) (b := b) (a := a) (k := k) (cs := cs) (rest := rest) ho hw (by rw [hb]; decide) hr) hc hsome
  rw [show got false (buf.getD 0 undef) true = buf.getD 0 undef from rfl, hfin] at hs
  exact ⟨e, a', w'', hq, .of_steps (.one hs) harr⟩

end Go.Proofs.Ybulksnw.Park
