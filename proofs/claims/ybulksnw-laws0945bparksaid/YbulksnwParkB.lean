import Derived.Test.YbulksnwParkA
import Derived.Test.YbulksnwDelete
namespace Go.Proofs.Ybulksnw.Park
open Go.RowKit

theorem info24 : ∃ i, Yba.prog.info? 24 = some i ∧ i.zero = some (.pointer none) ∧ i.size = 1 ∧ i.bytes = 8 := by
  obtain ⟨i, hi, h⟩ := Option.map_eq_some_iff.1 (show (Yba.prog.info? 24).map (fun i => (i.zero, i.size, i.bytes)) = some (some (.pointer none), 1, 8) by kernel_rfl)
  simp only [Prod.mk.injEq] at h
  exact ⟨i, hi, h.1, h.2.1, h.2.2⟩

theorem info58 : ∃ i, Yba.prog.info? 58 = some i ∧ i.size ≠ 0 := by
  obtain ⟨i, hi, h⟩ := Option.map_eq_some_iff.1 (show (Yba.prog.info? 58).map (fun i => i.size) = some 25 by kernel_rfl)
  exact ⟨i, hi, by omega⟩

theorem eq_same24 (a : Addr) (w : World) : (binOp .eql 24 (.pointer (some a)) (.pointer (some a))).run Yba.prog w = .ok (.bool true) w := by
  obtain ⟨j, hj, _⟩ := info58
  exact run_eql_ptr_same w a Yba.underlying24 hj

theorem eq_other24 {a b t t' n m : Nat} {w : World} {f g : Nat → Value} (ha : w.rowIs a t n f) (hb : w.rowIs b t' m g) (hne : a ≠ b) : (binOp .eql 24 (.pointer (some ⟨a, 0, none⟩)) (.pointer (some ⟨b, 0, none⟩))).run Yba.prog w = .ok (.bool false) w := by
  obtain ⟨j, hj, hs⟩ := info58
  obtain ⟨ca, hca, _⟩ := ha
  obtain ⟨cb, hcb, _⟩ := hb
  exact run_eql_ptr_other w Yba.underlying24 hj hs (fun h => hne (congrArg Addr.block h)) hca hcb

theorem neq_o24 (o : Option Addr) (w : World) : (binOp .neq 24 (.pointer o) (.pointer o)).run Yba.prog w = .ok (.bool false) w := by
  have h : ∀ d : Nat, (Op.equalIn (d + 1) 24 (.pointer o) (.pointer o)).run Yba.prog w = .ok true w := fun d => by
    obtain ⟨j, hj, _⟩ := info58
    cases o with
    | none => simp [Op.equalIn, run_underlying Yba.underlying24]
    | some a => simp [Op.equalIn, run_underlying Yba.underlying24, sizeOf, typeInfo, hj, run_sameAddr_same]
  simp only [binOp]
  simp [Op.equal, Op.maxDepth, h 9999]

set_option maxRecDepth 100000 in
theorem index_any (X n c k : Nat) (Hd : Nat → Nat) (f : Nat → Value) (w : World) (hx : w.rowIs X 24 c f) (hf : ∀ i, i < n → f i = .pointer (some ⟨Hd i, 0, none⟩)) (hnc : n ≤ c) (hk : k < n) (hn : n ≤ 2000)
    (hrow : ∀ i, i < n → ∃ g, w.rowIs (Hd i) 58 25 g) (hne : ∀ i, i < k → Hd k ≠ Hd i) :
    Calls Yba.prog 59 #[.slice (some ⟨X, 0, none⟩) n c, .pointer (some ⟨Hd k, 0, none⟩)] w fun e w' => e = .returned (.int .i64 (k : Int)) ∧ w = w' := by
  go_enter Yba.func59, Yba.ntmps59
  go_wp2
  go_loop [8] (fun i => ∃ j : Nat, j ≤ k ∧ i = .int .i64 j) (fun i => k + 1 - (intOf i).toNat)
  case atStart => exact ⟨0, Nat.zero_le _, rfl⟩
  case round =>
    obtain ⟨j, hj, rfl⟩ := hrel
    have hjn : (j : Int) < (n : Int) := by omega
    have hc := hx.cell (i := j) (by omega)
    rw [hf j (by omega)] at hc
    by_cases hlt : j < k
    · obtain ⟨g1, r1⟩ := hrow k hk
      obtain ⟨g2, r2⟩ := hrow j (by omega)
      have he := eq_other24 r1 r2 (hne j hlt)
      clear hf hrow hne hx r1 r2
      go_wp2
      go_round
      case rel => exact ⟨j + 1, by omega, by go_num⟩
      case measure => simp [intOf]; omega
    · obtain rfl : j = k := by omega
      have he := eq_same24
      clear hf hrow hne hx
      go_wp2
      go_ret
      exact ⟨rfl, rfl⟩
theorem clear_run {X c k n : Nat} {f : Nat → Value} {w : World} (hx : w.rowIs X 24 c f) (hk : k < n) (hnc : n ≤ c) (ty : TypeId) (cap : Nat) :
    (Builtin.clear_ #[67] ty #[.slice (some ⟨X, k, none⟩) (n - k) cap]).run Yba.prog w = .ok (.tuple #[]) (w.setCells X k (List.replicate (n - k) (.pointer none))) := by
  obtain ⟨i, hi, hz, hs, hb⟩ := info24
  obtain ⟨m, hm⟩ : ∃ m, n - k = m + 1 := ⟨n - k - 1, by omega⟩
  have ez : (Builtin.zeroCells (Value.cells (.pointer none)) (m + 1)).toList = List.replicate (m + 1) (.pointer none) := by
    apply List.ext_getElem
    · simp [Builtin.zeroCells, Value.cells]
    · intro j h1 h2
      simp [Builtin.zeroCells, Value.cells, Nat.mod_one]
  have hst := run_storeCells_cells (P := Yba.prog) X k (List.replicate (m + 1) (.pointer none)) 0 w (fun j hj => by
      rw [List.length_replicate] at hj
      rw [Nat.add_zero, hx.cell (by omega)]; rfl) (fun j _ => hx.frozen _) (fun v hv => by rw [List.eq_of_mem_replicate hv]; rfl)
  rw [Nat.add_zero] at hst
  rw [hm]
  simp only [Builtin.clear_]
  simp [run_underlying Yba.underlying67, zeroValue, typeInfo, hi, hz, ez, hst]

set_option maxRecDepth 100000 in
theorem delete_any (X n c k : Nat) (f : Nat → Value) (w : World) (hx : w.rowIs X 24 c f) (hk : k < n) (hnc : n ≤ c) (hn : n ≤ 2000) :
    Calls Yba.prog 60 #[.slice (some ⟨X, 0, none⟩) n c, .int .i64 (k : Int), .int .i64 (n : Int)] w fun e w' => e = .returned (.slice (some ⟨X, 0, none⟩) k c) ∧ w' = w.drew.setCells X k (List.replicate (n - k) (.pointer none)) := by
  have hkn : (k : Int) < (n : Int) := by omega
  have hcl := fun ty cap => clear_run hx.drew hk hnc ty cap
  have hkne : ¬ k = n := by omega
  clear hx
  by_cases hcn : c = n
  · subst hcn
    go_enter Yba.func60, Yba.ntmps60
    go_wp2
    go_region
    go_wp2
    go_ret
    exact ⟨rfl, rfl⟩
  · have hncI : (n : Int) ≤ (c : Int) := by omega
    have hkc : k ≤ c := by omega
    have hkc' : ¬ c = k := by omega
    go_enter Yba.func60, Yba.ntmps60
    go_wp2
    go_region
    go_wp2
    go_ret
    exact ⟨rfl, rfl⟩
end Go.Proofs.Ybulksnw.Park
