import Derived.Test.YbulksnwPop
namespace Go.Proofs.Ybulksnw.Queue
open Go.RowKit

set_option maxRecDepth 100000 in
set_option maxHeartbeats 1000000 in
theorem rel_empty (g : Nat) (lim adm : Int) (hl : 1 ≤ lim) (ha0 : -1000 ≤ adm) (ha1 : adm ≤ 1000) (w : World)
    (c15 : w.cell? ⟨g, 15, none⟩ = some (.int .i64 lim)) (c16 : w.cell? ⟨g, 16, none⟩ = some (.int .i64 adm)) (c20 : w.cell? ⟨g, 20, none⟩ = some (.int .i64 0)) (fg : ∀ i, w.frozen? ⟨g, i, none⟩ = false) :
    Calls Yba.prog 23 #[.pointer (some ⟨g, 0, none⟩)] w fun e w' => e = .returned (.tuple #[.nilIface, .int .i64 0]) ∧ w' = w.setCell ⟨g, 16, none⟩ (.int .i64 (adm - 1)) := by
  go_enter Yba.func23, Yba.ntmps23
  go_wp2
  go_ret2
  exact ⟨rfl, rfl⟩

theorem method_err (a : Addr) (w : World) : (method 314 147 (.pointer (some a)) "Err").run Yba.prog w = .ok (106, .pointer (some a)) w := by kernel_rfl

set_option maxRecDepth 100000 in
set_option maxHeartbeats 1000000 in
theorem rel_pop (g c : Nat) (lim adm n : Int) (hl : 1 ≤ lim) (ha0 : -1000 ≤ adm) (ha1 : adm ≤ 1000) (hn0 : 1 ≤ n) (hn1 : n ≤ 100000) (v : Value) (R : World → Prop) (w : World) (hcg : ¬ g = c)
    (c1 : w.cell? ⟨g, 1, none⟩ = some (.iface 147 (.pointer (some ⟨c, 0, none⟩)))) (cc : w.cell? ⟨c, 0, none⟩ = some .nilIface)
    (c15 : w.cell? ⟨g, 15, none⟩ = some (.int .i64 lim)) (c16 : w.cell? ⟨g, 16, none⟩ = some (.int .i64 adm)) (c20 : w.cell? ⟨g, 20, none⟩ = some (.int .i64 n)) (fg : ∀ i, w.frozen? ⟨g, i, none⟩ = false)
    (hp : Hid (Calls Yba.prog 48 #[.pointer (some ⟨g, 17, none⟩)] ((w.setCell ⟨g, 16, none⟩ (.int .i64 (adm - 1))).setCell ⟨g, 16, none⟩ (.int .i64 adm)) fun e w' => e = .returned v ∧ R w')) :
    Calls Yba.prog 23 #[.pointer (some ⟨g, 0, none⟩)] w fun e w' => e = .returned (.tuple #[v, .int .i64 0]) ∧ R w' := by
  have hm := method_err
  have hgc : ¬ c = g := fun h => hcg h.symm
  go_enter Yba.func23, Yba.ntmps23
  go_wp2_with (first | (go_at_call 24; go_in) | (go_at_call 106; go_in))
  refine hp.out.mono ?_
  rintro e w' ⟨rfl, hR⟩
  go_wp2
  go_ret2
  exact ⟨rfl, hR⟩
end Go.Proofs.Ybulksnw.Queue
