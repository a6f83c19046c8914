import Derived.Test.YbulksnwParkI
import Derived.Test.YbulksnwFlag
import Derived.Conc.SmallLaws
import Derived.Lib.JoinLaws
namespace Go.Proofs.Ybulksnw.Park
open Go.RowKit
open Recl (wcells worker_any)

theorem info24' : (Yba.prog.info? 24).map (fun i => (i.zero, i.size, i.bytes)) = some (some (.pointer none), 1, 8) := by kernel_rfl

theorem append_room {w : World} {X n c : Nat} {h : Nat → Value} {y : Nat} (hr : w.rowIs X 24 c h) (hroom : n + 1 ≤ c) (T : Nat) (hT : w.rowIs T 24 1 (fun _ => .pointer (some ⟨y, 0, none⟩))) (ty : TypeId) :
    (Builtin.append_ #[67, 67] ty #[.slice (some ⟨X, 0, none⟩) n c, .slice (some ⟨T, 0, none⟩) 1 1]).run Yba.prog w = .ok (.slice (some ⟨X, 0, none⟩) (n + 1) c) (w.setCell ⟨X, n, none⟩ (.pointer (some ⟨y, 0, none⟩))) := by
  obtain ⟨i, hi, hz, hs, hb⟩ := info24
  have S : Src Yba.prog i.size 67 (.slice (some ⟨T, 0, none⟩) 1 1) 1 [.pointer (some ⟨y, 0, none⟩)] w :=
    Src.ofSlice _ Yba.underlying67 ⟨T, 0, none⟩ 1 1 _ (by simp [hs]) (fun j u hj => by
      match j, hj with
      | 0, hj =>
        simp at hj
        subst hj
        rw [Addr.add_lit, hT.cell (by omega)]) (fun u hu => by
      simp at hu
      subst hu
      rfl)
  have run := run_append_room_src (P := Yba.prog) w 67 67 ty 24 i Yba.underlying67 hi X 0 n c _ 1 _ S hroom (fun j hj => by
    rw [hs, hr.cell (by simp at hj; omega)]; rfl) (fun j _ => hr.frozen _)
  rw [hs, Nat.zero_add, Nat.mul_one] at run
  exact run

/-- The pool's cells at first. -/
noncomputable def p0 (B : Nat) : Nat → Value := fun i => if i = 3 then .iface 86 (.pointer (some ⟨B, 1, none⟩)) else (Yba.zeroCells85[i]?).getD .nilIface

/-- j workers have been made. -/
structure L1 (W w : World) (B n j : Nat) : Prop where
  bel : Below W.heap.size W w
  hB : B = W.heap.size
  size : w.heap.size = B + 2 + 2 * j
  pool : w.rowIs B 85 1233 (p0 B)
  prior : w.rowIs (B + 1) 24 n (fun i => if i < j then .pointer (some ⟨B + 2 + 2 * i, 0, none⟩) else .pointer none)
  wk : ∀ i, i < j → ∃ g, w.rowIs (B + 2 + 2 * i) 58 25 g

theorem L1.step {W w : World} {B n j : Nat} (L : L1 W w B n j) (_hj : j < n) (p : Value) :
    L1 W (((w.alloc (.cells (wcells w.heap.size p) 58)).alloc (.cells #[.pointer (some ⟨w.heap.size, 0, none⟩)] 24)).setCell ⟨B + 1, j, none⟩ (.pointer (some ⟨w.heap.size, 0, none⟩))) B n (j + 1) := by
  have hs := L.size
  have hb := L.hB
  have hsz : (((w.alloc (.cells (wcells w.heap.size p) 58)).alloc (.cells #[.pointer (some ⟨w.heap.size, 0, none⟩)] 24)).setCell ⟨B + 1, j, none⟩ (.pointer (some ⟨w.heap.size, 0, none⟩))).heap.size = w.heap.size + 2 := by
    simp [World.setCell, World.size_alloc]
  refine ⟨((L.bel.alloc (by omega) _).alloc (by rw [World.size_alloc]; omega) _).setCell (p := ⟨B + 1, j, none⟩) (by show W.heap.size ≤ B + 1; omega) _, hb, by rw [hsz]; omega, ((L.pool.alloc _).alloc _).setOther (a := ⟨B + 1, j, none⟩) (by show B ≠ B + 1; omega) _, ?_, ?_⟩
  · refine (((L.prior.alloc _).alloc _).set j _).congr fun i _ => ?_
    show (if i = j then _ else if i < j then _ else _) = _
    by_cases e : i = j
    · subst e; rw [if_pos rfl, if_pos (by omega), hs]
    · rw [if_neg e]
      by_cases e2 : i < j
      · rw [if_pos e2, if_pos (by omega)]
      · rw [if_neg e2, if_neg (by omega)]
  · intro i hi
    by_cases e : i = j
    · subst e
      have R := World.rowIs_alloc w (wcells w.heap.size p) 58 (fun i => ((wcells w.heap.size p)[i]?).getD .nilIface) (fun i hi => by rw [Array.getElem?_eq_getElem hi]; rfl)
      have R2 := (R.alloc (.cells #[.pointer (some ⟨w.heap.size, 0, none⟩)] 24)).setOther (a := ⟨B + 1, i, none⟩) (by show w.heap.size ≠ B + 1; omega) (.pointer (some ⟨w.heap.size, 0, none⟩))
      rw [← hs]
      exact ⟨_, R2⟩
    · obtain ⟨g, hg⟩ := L.wk i (by omega)
      exact ⟨g, ((hg.alloc _).alloc _).setOther (a := ⟨B + 1, j, none⟩) (by show B + 2 + 2 * i ≠ B + 1; omega) _⟩

theorem size85 : Yba.zeroCells85.size = 1233 := by kernel_rfl

theorem L1.start (W : World) (n : Nat) : L1 W ((W.alloc (.cells (Yba.zeroCells85.setIfInBounds 3 (.iface 86 (.pointer (some ⟨W.heap.size, 1, none⟩)))) 85)).alloc (.cells (madeCells #[.pointer none] n) 24)) W.heap.size n 0 := by
  refine ⟨((Below.refl _ W).alloc (Nat.le_refl _) _).alloc (by rw [World.size_alloc]; omega) _, rfl, by rw [World.size_alloc, World.size_alloc], ?_, ?_, fun i hi => by omega⟩
  · have R := World.rowIs_alloc W (Yba.zeroCells85.setIfInBounds 3 (.iface 86 (.pointer (some ⟨W.heap.size, 1, none⟩)))) 85 (p0 W.heap.size) (fun i hi => by
      rw [Array.size_setIfInBounds] at hi
      unfold p0
      by_cases e : i = 3
      · subst e
        rw [if_pos rfl, Array.getElem?_setIfInBounds_self_of_lt hi]
      · rw [if_neg e, Array.getElem?_setIfInBounds_ne (fun h => e h.symm), Array.getElem?_eq_getElem hi]
        rfl)
    rw [Array.size_setIfInBounds, size85] at R
    exact R.alloc _
  · have R := World.rowIs_made (W.alloc (.cells (Yba.zeroCells85.setIfInBounds 3 (.iface 86 (.pointer (some ⟨W.heap.size, 1, none⟩)))) 85)) (.pointer none) n 24
    rw [World.size_alloc] at R
    exact R.congr fun i _ => by rw [if_neg (by omega)]

/-- j workers have been listed. -/
structure L2 (W w1 w : World) (B n j : Nat) (a : Option Addr) (c : Nat) : Prop where
  l1 : L1 W w1 B n n
  kept : Kept (fun b => b = B) w1 w
  pool : w.rowIs B 85 1233 (fun i => if i = 1217 then .slice a j c else p0 B i)
  il : IL w a j c (fun i => B + 2 + 2 * i)
  new : a = none ∨ ∃ X, a = some ⟨X, 0, none⟩ ∧ w1.heap.size ≤ X

theorem L2.start {W w1 : World} {B n : Nat} (L : L1 W w1 B n n) : L2 W w1 w1 B n 0 none 0 := by
  refine ⟨L, Kept.refl _ _, L.pool.congr fun i _ => ?_, .inl ⟨rfl, rfl, rfl⟩, .inl rfl⟩
  by_cases e : i = 1217
  · subst e; kernel_rfl
  · rw [if_neg e]

theorem L2.aB {W w1 w : World} {B n j c : Nat} {a : Option Addr} (L : L2 W w1 w B n j a c) : a ≠ some ⟨B, 0, none⟩ := by
  have := L.l1.size
  rcases L.new with rfl | ⟨X, rfl, h⟩
  · simp
  · intro e
    injection e with e
    injection e with e
    omega

theorem L2.step {W w1 w w3 : World} {B n j c c' : Nat} {a a' : Option Addr} (L : L2 W w1 w B n j a c) (o : Obj) (I : IL w3 a' (j + 1) c' (fun i => B + 2 + 2 * i)) (k : Kept (fun b => a = some ⟨b, 0, none⟩) (w.alloc o).drew w3) (ha : a' = a ∨ a' = some ⟨(w.alloc o).drew.heap.size, 0, none⟩) :
    L2 W w1 (w3.setCell ⟨B, 1217, none⟩ (.slice a' (j + 1) c')) B n (j + 1) a' c' := by
  have hs := L.l1.size
  have hk := L.kept.size
  have hsz : (w.alloc o).drew.heap.size = w.heap.size + 1 := World.size_alloc w o
  have new : a' = none ∨ ∃ X, a' = some ⟨X, 0, none⟩ ∧ w1.heap.size ≤ X := by
    rcases ha with rfl | rfl
    · exact L.new
    · exact .inr ⟨_, rfl, by rw [hsz]; omega⟩
  have k1 : Kept (fun b => b = B) w1 (w.alloc o).drew := (L.kept.alloc o).drew
  have k2 : Kept (fun b => b = B) w1 w3 := k1.widen k (by
    intro d e
    rcases L.new with e' | ⟨X, e', h⟩
    · rw [e'] at e; cases e
    · rw [e'] at e
      injection e with e
      injection e with e
      exact .inr (by omega))
  refine ⟨L.l1, k2.set (g := B) rfl 1217 _, ?_, ?_, new⟩
  · refine ((k.row (L.pool.alloc o).drew L.aB).set 1217 _).congr fun i _ => ?_
    by_cases e : i = 1217
    · rw [if_pos e, if_pos e]
    · rw [if_neg e, if_neg e, if_neg e]
  · refine I.kept (D := fun b => b = B) (Kept.set (D := fun b => b = B) (Kept.refl _ w3) (g := B) rfl 1217 _) ?_
    rintro X e rfl
    rcases new with e' | ⟨X', e', h⟩
    · rw [e'] at e; cases e
    · rw [e'] at e
      injection e with e
      injection e with e
      omega

end Go.Proofs.Ybulksnw.Park
