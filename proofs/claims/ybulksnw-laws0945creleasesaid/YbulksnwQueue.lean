import Derived.Test.YbulksnwRows
import Derived.WalkKit
import Derived.RegionTactic
import Derived.BigRegion
import Derived.ChangeAlike
import Derived.Deep.QuietTactic
import Derived.BigQuiet
import Derived.Deep.OwnRows
import Derived.Outline
namespace Go.Proofs.Ybulksnw.Queue
open Go.RowKit

set_option maxRecDepth 100000 in
set_option maxHeartbeats 1000000 in
theorem push_room (g b e : Nat) (n : Int) (T : TypeId) (x : Value) (u : Value) (w : World) (hgb : ¬ g = b) (he : (e : Int) < 510) (hn0 : 0 ≤ n) (hn1 : n ≤ 100000)
    (ht : w.cell? ⟨g, 18, none⟩ = some (.pointer (some ⟨b, 0, none⟩))) (hend : w.cell? ⟨b, 510, none⟩ = some (.int .i64 e)) (hn : w.cell? ⟨g, 20, none⟩ = some (.int .i64 n))
    (hce : w.cell? ⟨b, e, none⟩ = some u) (fb : ∀ i, w.frozen? ⟨b, i, none⟩ = false) (fg : ∀ i, w.frozen? ⟨g, i, none⟩ = false) :
    Calls Yba.prog 47 #[.pointer (some ⟨g, 17, none⟩), .iface T x] w fun ed w' => ed = .returned (.tuple #[]) ∧
      w' = (((w.setCell ⟨b, e, none⟩ (.iface T x)).setCell ⟨b, 510, none⟩ (.int .i64 (e + 1))).setCell ⟨g, 20, none⟩ (.int .i64 (n + 1))).drew := by
  have hne : ¬ e = 510 := by omega
  have hbg : ¬ b = g := fun h => hgb h.symm
  go_enter Yba.func47, Yba.ntmps47
  go_wp2
  go_region
  all_goals go_wp2
  all_goals (go_end0; exact ⟨rfl, rfl⟩)

theorem z510 : Yba.zeroCells168[510]? = some (.int .i64 0) := by kernel_rfl
theorem z511 : Yba.zeroCells168[511]? = some (.pointer none) := by kernel_rfl
theorem z0 : Yba.zeroCells168[0]? = some .nilIface := by kernel_rfl
theorem get_of {c : Array Value} {i : Nat} {v : Value} (hz : c[i]? = some v) (h : i < c.size) : c[i]'h = v := by
  rw [Array.getElem?_eq_getElem h] at hz
  exact Option.some.inj hz
theorem zall : ((List.range 510).all fun i => match Yba.zeroCells168[i]? with | some .nilIface => true | _ => false) = true := by kernel_rfl
theorem zlo (i : Nat) (h : i < 510) : Yba.zeroCells168[i]? = some .nilIface := by
  have := List.all_eq_true.1 zall i (List.mem_range.2 h)
  revert this
  split <;> simp_all

set_option maxRecDepth 100000 in
set_option maxHeartbeats 1000000 in
theorem push_first (g : Nat) (hd : Value) (n : Int) (T : TypeId) (x : Value) (w : World) (hg : g < w.heap.size) (hn0 : 0 ≤ n) (hn1 : n ≤ 100000)
    (hh : w.cell? ⟨g, 17, none⟩ = some hd) (ht : w.cell? ⟨g, 18, none⟩ = some (.pointer none)) (hn : w.cell? ⟨g, 20, none⟩ = some (.int .i64 n))
    (fg : ∀ i, w.frozen? ⟨g, i, none⟩ = false) :
    Calls Yba.prog 47 #[.pointer (some ⟨g, 17, none⟩), .iface T x] w fun ed w' => ed = .returned (.tuple #[]) ∧
      w' = ((((w.setCell ⟨g, 17, none⟩ (.pointer (some ⟨w.heap.size, 0, none⟩))).setCell ⟨g, 18, none⟩ (.pointer (some ⟨w.heap.size, 0, none⟩))).setCell ⟨g, 20, none⟩ (.int .i64 (n + 1))).alloc (.cells ((Yba.zeroCells168.setIfInBounds 0 (.iface T x)).setIfInBounds 510 (.int .i64 1)) 168)).drew := by
  have k510 := fun h => get_of z510 h
  go_enter Yba.func47, Yba.ntmps47
  go_wp2
  go_region
  all_goals go_wp2
  all_goals (go_end0; exact ⟨rfl, rfl⟩)
end Go.Proofs.Ybulksnw.Queue
