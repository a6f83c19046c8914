import Derived.Test.YbulksnwQueue
namespace Go.Proofs.Ybulksnw.Queue
open Go.RowKit

set_option maxRecDepth 100000 in
set_option maxHeartbeats 1000000 in
theorem push_full (g b : Nat) (n : Int) (nx : Value) (T : TypeId) (x : Value) (w : World) (hgb : ¬ g = b) (hg : g < w.heap.size) (hb : b < w.heap.size) (hn0 : 0 ≤ n) (hn1 : n ≤ 100000)
    (ht : w.cell? ⟨g, 18, none⟩ = some (.pointer (some ⟨b, 0, none⟩))) (hend : w.cell? ⟨b, 510, none⟩ = some (.int .i64 510)) (hnx : w.cell? ⟨b, 511, none⟩ = some nx) (hn : w.cell? ⟨g, 20, none⟩ = some (.int .i64 n))
    (fb : ∀ i, w.frozen? ⟨b, i, none⟩ = false) (fg : ∀ i, w.frozen? ⟨g, i, none⟩ = false) :
    Calls Yba.prog 47 #[.pointer (some ⟨g, 17, none⟩), .iface T x] w fun ed w' => ed = .returned (.tuple #[]) ∧
      w' = ((((w.setCell ⟨b, 511, none⟩ (.pointer (some ⟨w.heap.size, 0, none⟩))).setCell ⟨g, 18, none⟩ (.pointer (some ⟨w.heap.size, 0, none⟩))).setCell ⟨g, 20, none⟩ (.int .i64 (n + 1))).alloc (.cells ((Yba.zeroCells168.setIfInBounds 0 (.iface T x)).setIfInBounds 510 (.int .i64 1)) 168)).drew := by
  have k510 := fun h => get_of z510 h
  have hbg : ¬ b = g := fun h => hgb h.symm
  go_enter Yba.func47, Yba.ntmps47
  go_wp2
  go_region
  all_goals go_wp2
  all_goals (go_end0; exact ⟨rfl, rfl⟩)
end Go.Proofs.Ybulksnw.Queue
