import Derived.Test.YbulksnwParkJ
namespace Go.Proofs.Ybulksnw.Park
open Go.RowKit Go.Conc
open Recl (wcells worker_any)

/-- A flag's cell. -/
def b32 (t : Bool) : Int := if t then 1 else 0
theorem boolStore' (b o : Nat) (t : Bool) (x : Value) (w : World) (hc : w.cell? ⟨b, o, none⟩ = some x) (hz : w.frozen? ⟨b, o, none⟩ = false) :
    Calls Yba.prog 15 #[.pointer (some ⟨b, o, none⟩), .bool t] w fun e w' => e = .returned (.tuple #[]) ∧ w' = (w.setCell ⟨b, o, none⟩ (.int .u32 (b32 t))).drew := Atom.boolStore b o t x w hc hz

theorem stopped_same {B n c : Nat} {a g : Option Addr} {Hd : Nat → Nat} {f : Nat → Value} {w w' : World} (f2 : f 1217 = .slice a n c) (f3 : f 1218 = .int .i32 n) (I : IL w a n c Hd) (haB : a ≠ some ⟨B, 0, none⟩)
    (k : Kept (fun b => b = B) w w') (R : w'.rowIs B 85 1233 f) : Stopped (D0 B a g) w B n Hd f w' := by
  refine ⟨a, c, R.congr fun i _ => ?_, (I.kept k (fun X e h => haB (by rw [e, h]))).pl, k.wide fun d e => .inl e⟩
  unfold fl
  by_cases e : i = 1218
  · rw [if_pos e, e, f3]
  · rw [if_neg e]
    by_cases e2 : i = 1217
    · rw [if_pos e2, e2, f2]
    · rw [if_neg e2]

theorem park_any (B x C n c : Nat) (a : Option Addr) (g : Option Addr) (Hd : Nat → Nat) (f h : Nat → Value) (ov pe q k r : Int) (cl wo us : Bool) (F : PF f ov pe q k cl) (f2 : f 1217 = .slice a n c) (f3 : f 1218 = .int .i32 n) (w : World) (hB : w.rowIs B 85 1233 f) (I : IL w a n c Hd) (hn : n ≤ 255) (hx : Hd n = x)
    (haB : a ≠ some ⟨B, 0, none⟩) (S : WS w B n Hd a) (hX : w.rowIs x 58 25 h) (h16 : h 16 = .int .i32 r) (h19 : h 19 = .chan (some C)) (h21 : h 21 = .bool wo)
    (hC : w.heap[C]? = some (.chan 1 #[.agg #[]] false 1 0 false)) (haC : a ≠ some ⟨C, 0, none⟩) (U : UG w B C n Hd a g r us) :
    Calls Yba.prog 18 #[.pointer (some ⟨B, 0, none⟩), .pointer (some ⟨x, 0, none⟩), .pointer g] w fun e w' => e = .returned (.bool (decide (0 < ov) || !(cl && decide (pe = 0)))) ∧
      Fork (decide (0 < ov) || (cl && decide (pe = 0)) || (decide (0 < q) || us)) (Stopped (D0 B a g) w B n Hd f) (Waited (fun b => D0 B a g b ∨ b = x ∨ b = C) w B C n x Hd f h k wo) w' := by
  cases h0 : decide (0 < ov)
  · cases hcl : (cl && decide (pe = 0))
    · refine (park_rest B x C n c a g Hd f h ov pe q k r cl wo us F f2 _ f3 w hB I hn hx haB h0 hcl S hX h16 h19 h21 hC haC U).mono ?_
      rintro e w' ⟨rfl, hf⟩
      exact ⟨rfl, by simpa using hf⟩
    · obtain ⟨h1, h2⟩ : cl = true ∧ pe = 0 := by simpa using hcl
      refine (park_closed B x g f ov pe q k cl F w hB h0 h1 h2).mono ?_
      rintro e w' ⟨rfl, kk, R⟩
      exact ⟨rfl, fun _ => stopped_same f2 f3 I haB kk R, fun e => by simp at e⟩
  · refine (park_shared B x g f ov pe q k cl F w hB h0).mono ?_
    rintro e w' ⟨rfl, kk, R⟩
    exact ⟨by simp, fun _ => stopped_same f2 f3 I haB kk R, fun e => by simp at e⟩

/-- The pool, the worker and its channel, built after w0. -/
structure M (w0 w : World) (B x C : Nat) (f h : Nat → Value) (o : Obj) : Prop where
  pool : w.rowIs B 85 1233 f
  wk : w.rowIs x 58 25 h
  ch : w.heap[C]? = some o
  kept : Kept (fun b => b = B) w0 w
  hB : B < w0.heap.size
  hx : w0.heap.size ≤ x
  hC : w0.heap.size ≤ C
  hxC : x ≠ C

theorem M.hxB {w0 w : World} {B x C : Nat} {f h : Nat → Value} {o : Obj} (m : M w0 w B x C f h o) : x ≠ B := by
  have := m.hB; have := m.hx; omega
theorem M.setX {w0 w : World} {B x C : Nat} {f h : Nat → Value} {o : Obj} (m : M w0 w B x C f h o) (i : Nat) (v : Value) : M w0 (w.setCell ⟨x, i, none⟩ v) B x C f (fun j => if j = i then v else h j) o := by
  have kk : Kept (fun b => b = x) w (w.setCell ⟨x, i, none⟩ v) := Kept.set (D := fun b => b = x) (Kept.refl _ w) (g := x) rfl i v
  exact ⟨m.pool.setOther (a := ⟨x, i, none⟩) (Ne.symm m.hxB) v, m.wk.set i v, (kk.block C (Array.getElem?_eq_some_iff.1 m.ch).1 (Ne.symm m.hxC)).trans m.ch,
    m.kept.widen kk (fun d e => .inr (by have := m.hx; omega)), m.hB, m.hx, m.hC, m.hxC⟩
theorem M.drew {w0 w : World} {B x C : Nat} {f h : Nat → Value} {o : Obj} (m : M w0 w B x C f h o) : M w0 w.drew B x C f h o := ⟨m.pool.drew, m.wk.drew, m.ch, m.kept.drew, m.hB, m.hx, m.hC, m.hxC⟩
theorem M.notChan {w : World} {b t m C cap s r : Nat} {f : Nat → Value} {buf : Array Value} {cl tm : Bool} (hr : w.rowIs b t m f) (hC : w.heap[C]? = some (.chan cap buf cl s r tm)) : b ≠ C := by
  rintro rfl
  obtain ⟨cs, h1, _⟩ := hr
  rw [h1] at hC
  cases hC
theorem M.chan {w0 w : World} {B x C : Nat} {f h : Nat → Value} {o : Obj} (m : M w0 w B x C f h o) (cap : Nat) (buf : Array Value) (cl : Bool) (s r : Nat) (tm : Bool) : M w0 (w.setChan C cap buf cl s r tm) B x C f h (.chan cap buf cl s r tm) := by
  have kk : Kept (fun b => b = C) w (w.setChan C cap buf cl s r tm) := Kept.chan (D := fun b => b = C) (Kept.refl _ _) (c := C) rfl _ _ _ _ _ _
  exact ⟨kk.row m.pool (by have := m.hB; have := m.hC; omega), kk.row m.wk m.hxC, heap_setChan _ _ _ _ _ _ _ _ (Array.getElem?_eq_some_iff.1 m.ch).1,
    m.kept.widen kk (fun d e => .inr (by have := m.hC; omega)), m.hB, m.hx, m.hC, m.hxC⟩
theorem M.alloc {w0 w : World} {B x C : Nat} {f h : Nat → Value} {o : Obj} (m : M w0 w B x C f h o) (p : Obj) : M w0 (w.alloc p) B x C f h o :=
  ⟨m.pool.alloc _, m.wk.alloc _, ((Kept.alloc (D := fun _ => False) (Kept.refl _ w) p).block C (Array.getElem?_eq_some_iff.1 m.ch).1 (fun e => e)).trans m.ch, m.kept.alloc _, m.hB, m.hx, m.hC, m.hxC⟩

/-- The channel made and stored. -/
theorem M.start {w0 w : World} {B x : Nat} {f h : Nat → Value} (R : w.rowIs B 85 1233 f) (X : w.rowIs x 58 25 h) (k : Kept (fun b => b = B) w0 w) (hB : B < w0.heap.size) (hx : w0.heap.size ≤ x) (o : Obj) (v : Value) :
    M w0 ((w.alloc o).setCell ⟨x, 19, none⟩ v) B x w.heap.size f (fun j => if j = 19 then v else h j) o := by
  have hs := k.size
  have hxl := X.lt
  have ho : (w.alloc o).heap[w.heap.size]? = some o := by unfold World.alloc; exact Array.getElem?_push_size
  exact (show M w0 (w.alloc o) B x w.heap.size f h o from ⟨R.alloc _, X.alloc _, ho, k.alloc _, hB, hx, hs, by omega⟩).setX 19 v

/-- The pool's cells, built. -/
noncomputable def pf (B n c : Nat) (a : Option Addr) (a0 a9 : Bool) (a1 a2 a3 : Int) : Nat → Value := fun j =>
  if j = 1220 then .int .u32 (b32 a9) else if j = 1224 then .int .i32 a3 else if j = 1216 then .int .i64 a2 else if j = 1225 then .int .i64 a1 else if j = 1226 then .int .u32 (b32 a0) else if j = 1218 then .int .i32 n else if j = 1217 then .slice a n c else p0 B j
theorem pf_pf (B n c : Nat) (a : Option Addr) (a0 a9 : Bool) (a1 a2 a3 : Int) : PF (pf B n c a a0 a9 a1 a2 a3) a2 a1 a3 (b32 a9) a0 := by
  refine ⟨?_, ?_, ?_, rfl, rfl, rfl, rfl, rfl⟩
  · show p0 B 1 = _; kernel_rfl
  · show p0 B 74 = _; kernel_rfl
  · show p0 B 188 = _; kernel_rfl

/-- The worker's cells, made. -/
def wf (B x : Nat) : Nat → Value := fun i => ((wcells x (.pointer (some ⟨B, 0, none⟩)))[i]?).getD .nilIface
theorem wf_row (w : World) (B : Nat) : (w.alloc (.cells (wcells w.heap.size (.pointer (some ⟨B, 0, none⟩))) 58)).rowIs w.heap.size 58 25 (wf B w.heap.size) :=
  World.rowIs_alloc w (wcells w.heap.size (.pointer (some ⟨B, 0, none⟩))) 58 (wf B w.heap.size) (fun i hi => by unfold wf; rw [Array.getElem?_eq_getElem hi]; rfl)

theorem info27 : ∃ i, Yba.prog.info? 27 = some i ∧ i.bytes = 0 := by
  obtain ⟨i, hi, h⟩ := Option.map_eq_some_iff.1 (show (Yba.prog.info? 27).map (fun i => i.bytes) = some 0 by kernel_rfl)
  exact ⟨i, hi, h⟩
theorem make_chan (w : World) : (Instr.makeChan 55 (.int .i64 1)).run Yba.prog w = .ok (.chan (some w.heap.size)) (w.alloc (.chan 1 #[] false 0 0 false)) := by
  obtain ⟨i, hi, h⟩ := info27
  exact run_makeChan Yba.underlying55 hi .i64 1 (by omega) (by rw [h]; omega)

end Go.Proofs.Ybulksnw.Park
