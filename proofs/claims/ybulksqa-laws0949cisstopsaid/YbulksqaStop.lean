import Derived.Test.YbulksqaRows
import Derived.WalkKit
import Derived.RegionTactic
import Derived.RegionCalls
import Derived.LaidEql
import Derived.Deep.OwnRows
namespace Go.Proofs.Ybulksqa.Stop
open Go.RowKit

theorem boolStore (b o : Nat) (x : Value) (w : World) (hc : w.cell? ⟨b, o, none⟩ = some x) (hz : w.frozen? ⟨b, o, none⟩ = false) :
    Calls Yba.prog 15 #[.pointer (some ⟨b, o, none⟩), .bool true] w fun e w' => e = .returned (.tuple #[]) ∧ w' = (w.setCell ⟨b, o, none⟩ (.int .u32 1)).drew := by
  have hc' : w.drew.cell? ⟨b, o, none⟩ = some x := by go_simp
  have hz' : w.drew.frozen? ⟨b, o, none⟩ = false := by go_simp
  have hst := run_call_store (P := Yba.prog) Yba.func21 (by kernel_rfl) (by kernel_rfl) (by kernel_rfl) (by kernel_rfl) (k := .u32) (y := 1) hc' hz'
  go_enter Yba.func15, Yba.ntmps15
  go_wp2
  go_region_calls
  all_goals (go_end0; exact ⟨rfl, rfl⟩)

theorem new_any (s : ByteArray) (w : World) : Calls Yba.prog 18 #[.string s] w fun e w' => e = .returned (.iface 80 (.pointer (some ⟨w.heap.size, 0, none⟩))) ∧ w' = w.alloc (.cells #[.string s] 82) := by
  go_enter Yba.func18, Yba.ntmps18
  go_wp2
  go_ret
  exact ⟨rfl, rfl⟩

theorem info80 : ∃ i, Yba.prog.info? 80 = some i ∧ i.comparable = true := by
  obtain ⟨i, hi, h⟩ := Option.map_eq_some_iff.1 (show (Yba.prog.info? 80).map (fun i => i.comparable) = some true by kernel_rfl)
  exact ⟨i, hi, h⟩
theorem info82 : ∃ i, Yba.prog.info? 82 = some i ∧ i.size ≠ 0 := by
  obtain ⟨i, hi, h⟩ := Option.map_eq_some_iff.1 (show (Yba.prog.info? 82).map (fun i => i.size) = some 1 by kernel_rfl)
  exact ⟨i, hi, by omega⟩

theorem eq_same (a : Addr) (w : World) : (binOp .eql 63 (.iface 80 (.pointer (some a))) (.iface 80 (.pointer (some a)))).run Yba.prog w = .ok (.bool true) w := by
  obtain ⟨i, hi, hc⟩ := info80
  obtain ⟨j, hj, _⟩ := info82
  exact run_eql_iface_ptr_same w a Yba.underlying63 Yba.underlying80 hi hc hj

theorem eq_other {a b : Nat} {w : World} {fa fb : Nat → Value} {n m : Nat} (ha : w.rowIs a 82 n fa) (hb : w.rowIs b 82 m fb) (hne : a ≠ b) : (binOp .eql 63 (.iface 80 (.pointer (some ⟨a, 0, none⟩))) (.iface 80 (.pointer (some ⟨b, 0, none⟩)))).run Yba.prog w = .ok (.bool false) w := by
  obtain ⟨i, hi, hc⟩ := info80
  obtain ⟨j, hj, hs⟩ := info82
  obtain ⟨ca, hca, _⟩ := ha
  obtain ⟨cb, hcb, _⟩ := hb
  exact run_eql_iface_ptr_other w Yba.underlying63 Yba.underlying80 hi hc hj hs (fun h => hne (congrArg Addr.block h)) hca hcb

theorem stop_nil (b : Nat) (w : World) : Calls Yba.prog 19 #[.pointer (some ⟨b, 0, none⟩), .nilIface] w fun e w' => e = .returned (.bool false) ∧ w = w' := by
  go_enter Yba.func19, Yba.ntmps19
  go_wp2
  go_ret
  exact ⟨rfl, rfl⟩

theorem method_err (a : Addr) (w : World) : (method 218 68 (.pointer (some a)) "Err").run Yba.prog w = .ok (41, .pointer (some a)) w := by kernel_rfl

set_option maxRecDepth 100000 in
set_option maxHeartbeats 1000000 in
theorem stop_any (b c : Nat) (a : Addr) (ev : Value) (r : Bool) (w : World) (_hbc : ¬ b = c) (h0 : w.cell? ⟨b, 0, none⟩ = some (.iface 68 (.pointer (some ⟨c, 0, none⟩)))) (h1 : w.cell? ⟨c, 1, none⟩ = some ev) (h2 : w.cell? ⟨c, 2, none⟩ = some (.int .i64 0))
    (hf : w.frozen? ⟨c, 2, none⟩ = false) (heq : (binOp .eql 63 (.iface 80 (.pointer (some a))) ev).run Yba.prog (w.setCell ⟨c, 2, none⟩ (.int .i64 1)) = .ok (.bool r) (w.setCell ⟨c, 2, none⟩ (.int .i64 1))) :
    Calls Yba.prog 19 #[.pointer (some ⟨b, 0, none⟩), .iface 80 (.pointer (some a))] w fun e w' => e = .returned (.bool r) ∧ w' = w.setCell ⟨c, 2, none⟩ (.int .i64 1) := by
  have hm := method_err
  go_enter Yba.func19, Yba.ntmps19
  go_wp2
  go_ret
  exact ⟨rfl, rfl⟩
end Go.Proofs.Ybulksqa.Stop
