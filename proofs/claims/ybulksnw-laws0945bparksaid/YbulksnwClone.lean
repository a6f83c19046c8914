import Derived.Test.YbulksnwAtomics
import Derived.Deep.OwnRows
import Derived.Deep.AppendSrc
import Derived.WalkSpells
namespace Go.Proofs.Ybulksnw.Recl
open Go.RowKit

theorem wpList_append_eq {P : Program} {ops : Array Oper} {rest : List Oper} {o : Oper} {a : Act} {Q : Exit → Act → World → Prop} {w w' : World} {v1 v2 v : Value} (hgd : o.guard = none) (s x : Operand) (t tx : TypeId)
    (ho : o.op = .call { callee := .builtin .append, args := #[s, x], argTypes := #[t, tx] }) (hs : a.eval s = v1) (hx : a.eval x = v2) (hrun : (Builtin.append_ #[t, tx] o.type #[v1, v2]).run P w = .ok v w')
    (hK : wpList P ops Q rest (a.put o.dst v) w') : wpList P ops Q (o :: rest) a w :=
  wpList_plain hgd fun _ hK' => by
    unfold Oper.wp execOp
    simp only [ho, resolve, invoke, builtin, Sem.run_bind, Sem.run_pure, Result.andThen_ok, List.map_toArray, List.map_cons, List.map_nil, hs, hx, hrun]
    exact hK' _ _ hK

theorem info39 : ∃ i, Yba.prog.info? 39 = some i ∧ i.zero = some (.pointer none) ∧ i.size = 1 ∧ i.bytes = 8 := by
  obtain ⟨i, hi, h⟩ := Option.map_eq_some_iff.1 (show (Yba.prog.info? 39).map (fun i => (i.zero, i.size, i.bytes)) = some (some (.pointer none), 1, 8) by kernel_rfl)
  simp only [Prod.mk.injEq] at h
  exact ⟨i, hi, h.1, h.2.1, h.2.2⟩

theorem eq_nil40 (a : Addr) (l c : Nat) (w : World) : (binOp .eql 40 (.slice (some a) l c) (.slice none 0 0)).run Yba.prog w = .ok (.bool false) w := by
  have h : ∀ d : Nat, (Op.equalIn (d + 1) 40 (.slice (some a) l c) (.slice none 0 0)).run Yba.prog w = .ok false w := fun d => by simp [Op.equalIn, run_underlying Yba.underlying40]
  simp only [binOp]
  simp [Op.equal, Op.maxDepth, h 9999]

theorem row_news {w : World} {H n : Nat} {f : Nat → Value} (hr : w.rowIs H 39 n f) : ∀ j u, ((List.range n).map f)[j]? = some u → w.cell? ((⟨H, 0, none⟩ : Addr).add j) = some u := by
  intro j u hj
  rw [List.getElem?_map] at hj
  by_cases h : j < n
  · rw [List.getElem?_range h] at hj
    simp only [Option.map_some, Option.some.injEq] at hj
    rw [Addr.add_lit, Nat.zero_add, hr.cell h, hj]
  · rw [List.getElem?_eq_none (by simpa using h)] at hj
    simp at hj

/-- append([]T{}, s...): a new row. -/
theorem clone_append {H n : Nat} {f : Nat → Value} {w : World} (hr : w.rowIs H 39 n f) (hf : ∀ i, i < n → (f i).oneCell' = true) (hn : n ≤ 2000) (h0 : 1 ≤ n) (ty : TypeId) :
    ∃ c w', (Builtin.append_ #[40, 40] ty #[.slice (some ⟨w.heap.size, 0, none⟩) 0 0, .slice (some ⟨H, 0, none⟩) n n]).run Yba.prog (w.alloc (.cells #[] 39)) = .ok (.slice (some ⟨w.heap.size + 1, 0, none⟩) n c) w' ∧
      n ≤ c ∧ w'.rowIs (w.heap.size + 1) 39 c (fun i => if i < n then f i else .pointer none) ∧ Below w.heap.size w w' ∧ w'.heap.size = w.heap.size + 2 := by
  obtain ⟨i, hi, hz, hs, hb⟩ := info39
  have S : Src Yba.prog i.size 40 (.slice (some ⟨H, 0, none⟩) n n) n ((List.range n).map f) (w.alloc (.cells #[] 39)) :=
    Src.ofSlice _ Yba.underlying40 ⟨H, 0, none⟩ n n _ (by simp [hs]) (row_news (hr.alloc _)) (fun u hu => by
      obtain ⟨j, hj, rfl⟩ := List.mem_map.1 hu
      exact hf j (List.mem_range.1 hj))
  have hg := grownCap_ge (w.alloc (.cells #[] 39)) (0 + n) 0 39
  have R := run_append_grow_src (P := Yba.prog) (w.alloc (.cells #[] 39)) 40 40 ty 39 i (.pointer none) Yba.underlying40 hi hz (some ⟨w.heap.size, 0, none⟩) 0 0 [] (by rw [hs]; simp [Builtin.firstCells, loadCells, loadCellsFrom]) _ n _ S (by omega) (by omega)
    (by rw [hb]; unfold Builtin.nextslicecap; rw [if_pos (by omega)]; omega)
  generalize hgc : grownCap (w.alloc (.cells #[] 39)) (0 + n) 0 39 = c at R hg
  rw [Nat.zero_add] at R hg
  rw [World.size_alloc] at R
  refine ⟨c, _, R, hg, ?_, ?_, ?_⟩
  · have hsz : (([] ++ (List.range n).map f).toArray ++ Builtin.zeroCells (Value.cells (.pointer none)) (c - n)).size = c := by
      simp [Builtin.zeroCells, Value.cells]
      omega
    have Q := World.rowIs_alloc (w.alloc (.cells #[] 39)).drew (([] ++ (List.range n).map f).toArray ++ Builtin.zeroCells (Value.cells (.pointer none)) (c - n)) 39 (fun i => if i < n then f i else .pointer none) (fun j hj => by
      by_cases h : j < n
      · rw [Array.getElem?_append_left (by simpa using h), if_pos h]
        simp [h]
      · rw [Array.getElem?_append_right (by simpa using h), if_neg h]
        rw [hsz] at hj
        have hlt : j - n < c - n := by omega
        simp [Builtin.zeroCells, Value.cells, hlt, Nat.mod_one])
    rw [hsz] at Q
    have e : (w.alloc (.cells #[] 39)).drew.heap.size = w.heap.size + 1 := by
      show (w.alloc (.cells #[] 39)).heap.size = _
      rw [World.size_alloc]
    rw [e] at Q
    exact Q
  · exact (((Below.refl _ w).alloc (Nat.le_refl _) _).drew).alloc (by show w.heap.size ≤ (w.alloc (.cells #[] 39)).heap.size; rw [World.size_alloc]; omega) _
  · rw [World.size_alloc]
    show (w.alloc (.cells #[] 39)).heap.size + 1 = _
    rw [World.size_alloc]

set_option maxRecDepth 100000 in
theorem clone_any (H n : Nat) (f : Nat → Value) (w : World) (hr : w.rowIs H 39 n f) (hf : ∀ i, i < n → (f i).oneCell' = true) (hn : n ≤ 2000) (h0 : 1 ≤ n) :
    Calls Yba.prog 11 #[.slice (some ⟨H, 0, none⟩) n n] w fun e w' => ∃ c, e = .returned (.slice (some ⟨w.heap.size + 1, 0, none⟩) n c) ∧ n ≤ c ∧ w'.rowIs (w.heap.size + 1) 39 c (fun i => if i < n then f i else .pointer none) ∧ Below w.heap.size w w' ∧ w'.heap.size = w.heap.size + 2 := by
  have hnil := eq_nil40
  obtain ⟨c, w', hrun, h1, h2, h3, h4⟩ := clone_append hr hf hn h0 40
  have HR : Hid _ := hrun
  clear hrun
  go_enter Yba.func11, Yba.ntmps11
  go_wp2_with (at_builtin; refine wpList_append_eq rfl _ _ _ _ rfl rfl rfl HR.out ?_)
  go_ret
  exact ⟨c, rfl, h1, h2, h3, h4⟩
end Go.Proofs.Ybulksnw.Recl
