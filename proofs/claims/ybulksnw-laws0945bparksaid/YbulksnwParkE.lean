import Derived.Test.YbulksnwParkD
import Derived.Test.YbulksnwClone
import Derived.Deep.RegionLaw
namespace Go.Proofs.Ybulksnw.Park
open Go.RowKit

theorem step_append_eq {P : Program} {ops : Array Oper} {o : Oper} {a : Act} {w w' : World} {K : Act → World → Prop} {Q : Exit → Act → World → Prop} {E : Prop} {v1 v2 v : Value}
    (hg : o.guard = none) (s x : Operand) (t tx : TypeId) (hop : o.op = .call { callee := .builtin .append, args := #[s, x], argTypes := #[t, tx] }) (hs : a.eval s = v1) (hx : a.eval x = v2)
    (hrun : (Builtin.append_ #[t, tx] o.type #[v1, v2]).run P w = .ok v w') (hK : K (a.put o.dst v) w') :
    if Region.wanted o (yielded ops a.tmps) = true then Oper.wp P o a w K Q else E := by
  have hw : Region.wanted o (yielded ops a.tmps) = true := by simp [Region.wanted, hg]
  rw [if_pos hw]
  unfold Oper.wp
  simp [execOp, hop, resolve, invoke, builtin, hs, hx, hrun, Result.andThen]
  exact hK

/-- A list of workers of one's own, its spare known. -/
def IL (w : World) (a : Option Addr) (n c : Nat) (Hd : Nat → Nat) : Prop :=
  (n = 0 ∧ c = 0 ∧ a = none) ∨ ∃ X h, a = some ⟨X, 0, none⟩ ∧ n ≤ c ∧ w.rowIs X 24 c h ∧ ∀ i, i < n → h i = .pointer (some ⟨Hd i, 0, none⟩)

theorem IL.pl {w : World} {a : Option Addr} {n c : Nat} {Hd : Nat → Nat} (h : IL w a n c Hd) : PL w a n Hd := by
  rcases h with ⟨h, _, _⟩ | ⟨X, f, ha, hc, hr, hf⟩
  · exact .inl h
  · exact .inr ⟨X, ha, fun i hi => by rw [hr.cell (by omega), hf i hi]⟩

theorem IL.kept {w w' : World} {a : Option Addr} {n c : Nat} {Hd : Nat → Nat} {D : Nat → Prop} (h : IL w a n c Hd) (k : Kept D w w') (hD : ∀ X, a = some ⟨X, 0, none⟩ → ¬ D X) : IL w' a n c Hd := by
  rcases h with h | ⟨X, f, ha, hc, hr, hf⟩
  · exact .inl h
  · exact .inr ⟨X, f, ha, hc, k.row hr (hD X ha), hf⟩

theorem append_one {w : World} {a : Option Addr} {n c : Nat} {Hd : Nat → Nat} (I : IL w a n c Hd) (hn : n ≤ 255) (T : Nat) (hT : w.rowIs T 24 1 (fun _ => .pointer (some ⟨Hd n, 0, none⟩))) (ty : TypeId) :
    ∃ a' c' w', (Builtin.append_ #[67, 67] ty #[.slice a n c, .slice (some ⟨T, 0, none⟩) 1 1]).run Yba.prog w = .ok (.slice a' (n + 1) c') w' ∧ IL w' a' (n + 1) c' Hd ∧ Kept (fun b => a = some ⟨b, 0, none⟩) w w' ∧ (a' = a ∨ a' = some ⟨w.heap.size, 0, none⟩) := by
  obtain ⟨i, hi, hz, hs, hb⟩ := info24
  have S : Src Yba.prog i.size 67 (.slice (some ⟨T, 0, none⟩) 1 1) 1 [.pointer (some ⟨Hd n, 0, none⟩)] w :=
    Src.ofSlice _ Yba.underlying67 ⟨T, 0, none⟩ 1 1 _ (by simp [hs]) (fun j u hj => by
      match j, hj with
      | 0, hj =>
        simp at hj
        subst hj
        rw [Addr.add_lit, hT.cell (by omega)]) (fun u hu => by
      simp at hu
      subst hu
      rfl)
  by_cases hroom : n + 1 ≤ c
  · rcases I with ⟨_, h0, _⟩ | ⟨X, f, rfl, hc, hr, hf⟩
    · omega
    have run := run_append_room_src (P := Yba.prog) w 67 67 ty 24 i Yba.underlying67 hi X 0 n c _ 1 _ S hroom (fun j hj => by
      rw [hs, hr.cell (by simp at hj; omega)]; rfl) (fun j _ => hr.frozen _)
    rw [hs, Nat.zero_add, Nat.mul_one] at run
    refine ⟨_, c, _, run, .inr ⟨X, _, rfl, hroom, hr.set n _, fun j hj => ?_⟩, Kept.set (D := fun b => some (⟨X, 0, none⟩ : Addr) = some ⟨b, 0, none⟩) (Kept.refl _ w) (g := X) rfl n _, .inl rfl⟩
    by_cases e : j = n
    · subst e; simp
    · simp [e, hf j (by omega)]
  · obtain ⟨olds, hold, hol, hof⟩ : ∃ olds : List Value, (Builtin.firstCells i.size n (.slice a n c)).run Yba.prog w.drew = .ok olds.toArray w.drew ∧ olds.length = n ∧ ∀ j, j < n → olds[j]? = some (.pointer (some ⟨Hd j, 0, none⟩)) := by
      rcases I with ⟨h0, _, rfl⟩ | ⟨X, f, rfl, hc, hr, hf⟩
      · subst h0
        exact ⟨[], run_firstCells_none w.drew i.size 0 0 c, rfl, fun j hj => by omega⟩
      · refine ⟨(List.range n).map f, run_firstCells_some w.drew i.size n ⟨X, 0, none⟩ n c _ (by simp [hs]) (fun j v hj => ?_), by simp, fun j hj => ?_⟩
        · rw [List.getElem?_map] at hj
          by_cases h : j < n
          · rw [List.getElem?_range h] at hj
            simp only [Option.map_some, Option.some.injEq] at hj
            rw [Addr.add_lit, Nat.zero_add, hr.drew.cell (by omega), hj]
          · rw [List.getElem?_eq_none (by simpa using h)] at hj
            simp at hj
        · rw [List.getElem?_map, List.getElem?_range hj]
          simp [hf j hj]
    have hcn : c ≤ n := by omega
    have hnc : n ≤ c := by
      rcases I with ⟨h0, h1, _⟩ | ⟨X, f, _, hc, _⟩ <;> omega
    obtain rfl : c = n := by omega
    have hg := grownCap_ge w (c + 1) c 24
    have run := run_append_grow_src (P := Yba.prog) w 67 67 ty 24 i (.pointer none) Yba.underlying67 hi hz a c c olds hold _ 1 _ S (by omega) (by omega)
      (by rw [hb]; unfold Builtin.nextslicecap; split <;> (try split) <;> omega)
    generalize hgc : grownCap w (c + 1) c 24 = g at run hg
    have hsz : ((olds ++ [Value.pointer (some ⟨Hd c, 0, none⟩)]).toArray ++ Builtin.zeroCells (Value.cells (.pointer none)) (g - (c + 1))).size = g := by
      simp [Builtin.zeroCells, Value.cells, hol]
      omega
    have R := World.rowIs_alloc w.drew ((olds ++ [Value.pointer (some ⟨Hd c, 0, none⟩)]).toArray ++ Builtin.zeroCells (Value.cells (.pointer none)) (g - (c + 1))) 24 (fun j => (((olds ++ [Value.pointer (some ⟨Hd c, 0, none⟩)]).toArray ++ Builtin.zeroCells (Value.cells (.pointer none)) (g - (c + 1)))[j]?).getD .nilIface) (fun j hj => by rw [Array.getElem?_eq_getElem hj]; rfl)
    rw [hsz] at R
    refine ⟨_, g, _, run, .inr ⟨w.heap.size, _, rfl, hg, R, fun j hj => ?_⟩, (Kept.refl _ w).drew.alloc _, .inr rfl⟩
    have hlt : j < (olds ++ [Value.pointer (some ⟨Hd c, 0, none⟩)]).toArray.size := by simp [hol]; omega
    show (((olds ++ [Value.pointer (some ⟨Hd c, 0, none⟩)]).toArray ++ _)[j]?).getD .nilIface = _
    rw [Array.getElem?_append_left hlt]
    by_cases e : j < c
    · simp [List.getElem?_append_left (show j < olds.length by omega), hof j e]
    · obtain rfl : j = c := by omega
      simp [← hol]

end Go.Proofs.Ybulksnw.Park
