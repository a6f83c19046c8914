import Derived.Test.YbulksnwClone
import Derived.LaidEqlPtr
import Derived.LoopTactic
namespace Go.Proofs.Ybulksnw.Recl
open Go.RowKit

/-- The argument 'lost' in memory. -/
def Lst (w : World) (a : Option Addr) (len : Nat) (L : Nat → Bool) : Prop :=
  len = 0 ∨ ∃ b off, a = some ⟨b, off, none⟩ ∧ ∀ j, j < len → w.cell? ⟨b, off + j, none⟩ = some (.bool (L j))
def fl (L : Nat → Bool) (len i : Nat) : Bool := if i < len then L i else false

set_option maxRecDepth 100000 in
theorem flag_any (a : Option Addr) (len cap : Nat) (L : Nat → Bool) (i : Nat) (hi : i ≤ 2000) (w : World) (h : Lst w a len L) :
    Calls Yba.prog 10 #[.slice a len cap, .int .i64 (i : Int)] w fun e w' => e = .returned (.bool (fl L len i)) ∧ w' = w := by
  by_cases hlt : i < len
  · rcases h with h | ⟨b, off, rfl, hc⟩
    · omega
    have hc' := hc i hlt
    have hlt' : (i : Int) < (len : Int) := by omega
    have e : fl L len i = L i := by unfold fl; rw [if_pos hlt]
    rw [e]
    clear e hc
    go_enter Yba.func10, Yba.ntmps10
    go_wp2
    go_ret
    exact ⟨rfl, rfl⟩
  · have hlt' : decide ((i : Int) < (len : Int)) = false := by simp; omega
    have e : fl L len i = false := by unfold fl; rw [if_neg hlt]
    rw [e]
    clear e h
    go_enter Yba.func10, Yba.ntmps10
    go_wp2
    go_ret
    exact ⟨rfl, rfl⟩

abbrev wcells (S : Nat) (p : Value) : Array Value :=
  #[p, .int .i32 0, .int .u32 0, .nilIface, .pointer none, .int .i64 0, .int .i64 0, .pointer none, .slice none 0 0, .iface 86 (.pointer (some ⟨S, 1, none⟩)), .int .u32 0, .int .u32 0, .int .u64 0, .pointer none, .pointer none, .int .u64 0,
    .int .i32 0, .int .u64 0, .int .i32 0, .chan none, .bool false, .bool false, .int .u64 0, .int .i64 0, .pointer none]

set_option maxRecDepth 100000 in
theorem worker_any (p : Option Addr) (w : World) :
    Calls Yba.prog 8 #[.pointer p] w fun e w' => e = .returned (.pointer (some ⟨w.heap.size, 0, none⟩)) ∧ w' = w.alloc (.cells (wcells w.heap.size (.pointer p)) 58) := by
  go_enter Yba.func8, Yba.ntmps8
  go_wp2
  go_ret
  exact ⟨rfl, rfl⟩

theorem info62 : ∃ i, Yba.prog.info? 62 = some i ∧ i.size ≠ 0 := by
  obtain ⟨i, hi, h⟩ := Option.map_eq_some_iff.1 (show (Yba.prog.info? 62).map (fun i => i.size) = some 4 by kernel_rfl)
  exact ⟨i, hi, by omega⟩

theorem eq_same39 (a : Addr) (w : World) : (binOp .eql 39 (.pointer (some a)) (.pointer (some a))).run Yba.prog w = .ok (.bool true) w := by
  obtain ⟨j, hj, _⟩ := info62
  exact run_eql_ptr_same w a Yba.underlying39 hj

theorem eq_other39 {a b t t' n m : Nat} {w : World} {f g : Nat → Value} (ha : w.rowIs a t n f) (hb : w.rowIs b t' m g) (hne : a ≠ b) : (binOp .eql 39 (.pointer (some ⟨a, 0, none⟩)) (.pointer (some ⟨b, 0, none⟩))).run Yba.prog w = .ok (.bool false) w := by
  obtain ⟨j, hj, hs⟩ := info62
  obtain ⟨ca, hca, _⟩ := ha
  obtain ⟨cb, hcb, _⟩ := hb
  exact run_eql_ptr_other w Yba.underlying39 hj hs (fun h => hne (congrArg Addr.block h)) hca hcb

theorem neq_o39 (o : Option Addr) (w : World) : (binOp .neq 39 (.pointer o) (.pointer o)).run Yba.prog w = .ok (.bool false) w := by
  have h : ∀ d : Nat, (Op.equalIn (d + 1) 39 (.pointer o) (.pointer o)).run Yba.prog w = .ok true w := fun d => by
    obtain ⟨j, hj, _⟩ := info62
    cases o with
    | none => simp [Op.equalIn, run_underlying Yba.underlying39]
    | some a => simp [Op.equalIn, run_underlying Yba.underlying39, sizeOf, typeInfo, hj, run_sameAddr_same]
  simp only [binOp]
  simp [Op.equal, Op.maxDepth, h 9999]

set_option maxRecDepth 100000 in
theorem index_any (X n c k : Nat) (Hd : Nat → Nat) (f : Nat → Value) (w : World) (hx : w.rowIs X 39 c f) (hf : ∀ i, i < n → f i = .pointer (some ⟨Hd i, 0, none⟩)) (hnc : n ≤ c) (hk : k < n) (hn : n ≤ 2000)
    (hrow : ∀ i, i < n → ∃ g, w.rowIs (Hd i) 62 4 g) (hne : ∀ i, i < k → Hd k ≠ Hd i) :
    Calls Yba.prog 27 #[.slice (some ⟨X, 0, none⟩) n c, .pointer (some ⟨Hd k, 0, none⟩)] w fun e w' => e = .returned (.int .i64 (k : Int)) ∧ w = w' := by
  go_enter Yba.func27, Yba.ntmps27
  go_wp2
  go_loop [8] (fun i => ∃ j : Nat, j ≤ k ∧ i = .int .i64 j) (fun i => k + 1 - (intOf i).toNat)
  case atStart => exact ⟨0, Nat.zero_le _, rfl⟩
  case round =>
    obtain ⟨j, hj, rfl⟩ := hrel
    have hjn : (j : Int) < (n : Int) := by omega
    have hc := hx.cell (i := j) (by omega)
    rw [hf j (by omega)] at hc
    by_cases hlt : j < k
    · obtain ⟨g1, r1⟩ := hrow k hk
      obtain ⟨g2, r2⟩ := hrow j (by omega)
      have he := eq_other39 r1 r2 (hne j hlt)
      clear hf hrow hne hx r1 r2
      go_wp2
      go_round
      case rel => exact ⟨j + 1, by omega, by go_num⟩
      case measure => simp [intOf]; omega
    · obtain rfl : j = k := by omega
      have he := eq_same39
      clear hf hrow hne hx
      go_wp2
      go_ret
      exact ⟨rfl, rfl⟩
end Go.Proofs.Ybulksnw.Recl
