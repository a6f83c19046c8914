import Derived.Test.YbulksnwQueue
namespace Go.Proofs.Ybulksnw.Queue
open Go.RowKit

set_option maxRecDepth 100000 in
set_option maxHeartbeats 1000000 in
theorem pop_mid (g b f : Nat) (n : Int) (v : Value) (w : World) (hgb : ¬ g = b) (hf : (f : Int) + 1 < 510) (hn0 : 1 < n) (hn1 : n ≤ 100000)
    (hh : w.cell? ⟨g, 17, none⟩ = some (.pointer (some ⟨b, 0, none⟩))) (hfi : w.cell? ⟨g, 19, none⟩ = some (.int .i64 f)) (hn : w.cell? ⟨g, 20, none⟩ = some (.int .i64 n))
    (hv : w.cell? ⟨b, f, none⟩ = some v) (fb : ∀ i, w.frozen? ⟨b, i, none⟩ = false) (fg : ∀ i, w.frozen? ⟨g, i, none⟩ = false) :
    Calls Yba.prog 48 #[.pointer (some ⟨g, 17, none⟩)] w fun ed w' => ed = .returned v ∧
      w' = (((w.setCell ⟨b, f, none⟩ .nilIface).setCell ⟨g, 19, none⟩ (.int .i64 (f + 1))).setCell ⟨g, 20, none⟩ (.int .i64 (n - 1))).drew.drew := by
  have hbg : ¬ b = g := fun h => hgb h.symm
  go_enter Yba.func48, Yba.ntmps48
  go_wp2
  go_region
  all_goals go_wp2
  go_region
  all_goals go_wp2
  all_goals (go_ret; exact ⟨rfl, rfl⟩)

set_option maxRecDepth 100000 in
set_option maxHeartbeats 1000000 in
theorem pop_last (g b f : Nat) (v e0 : Value) (w : World) (hgb : ¬ g = b) (hf : (f : Int) < 510)
    (hh : w.cell? ⟨g, 17, none⟩ = some (.pointer (some ⟨b, 0, none⟩))) (hfi : w.cell? ⟨g, 19, none⟩ = some (.int .i64 f)) (hn : w.cell? ⟨g, 20, none⟩ = some (.int .i64 1))
    (hv : w.cell? ⟨b, f, none⟩ = some v) (he : w.cell? ⟨b, 510, none⟩ = some e0) (fb : ∀ i, w.frozen? ⟨b, i, none⟩ = false) (fg : ∀ i, w.frozen? ⟨g, i, none⟩ = false) :
    Calls Yba.prog 48 #[.pointer (some ⟨g, 17, none⟩)] w fun ed w' => ed = .returned v ∧
      w' = (((((w.setCell ⟨b, f, none⟩ .nilIface).setCell ⟨g, 19, none⟩ (.int .i64 (f + 1))).setCell ⟨g, 20, none⟩ (.int .i64 0)).setCell ⟨g, 19, none⟩ (.int .i64 0)).setCell ⟨b, 510, none⟩ (.int .i64 0)).drew.drew := by
  have hbg : ¬ b = g := fun h => hgb h.symm
  have hf5 : ¬ f = 510 := by omega
  go_enter Yba.func48, Yba.ntmps48
  go_wp2
  go_region
  all_goals go_wp2
  go_region
  all_goals go_wp2
  all_goals (go_ret; exact ⟨rfl, rfl⟩)

set_option maxRecDepth 100000 in
set_option maxHeartbeats 1000000 in
theorem pop_edge (g b : Nat) (n : Int) (v : Value) (na : Option Addr) (w : World) (hgb : ¬ g = b) (hn0 : 1 < n) (hn1 : n ≤ 100000)
    (hh : w.cell? ⟨g, 17, none⟩ = some (.pointer (some ⟨b, 0, none⟩))) (hfi : w.cell? ⟨g, 19, none⟩ = some (.int .i64 509)) (hn : w.cell? ⟨g, 20, none⟩ = some (.int .i64 n))
    (hv : w.cell? ⟨b, 509, none⟩ = some v) (he : w.cell? ⟨b, 511, none⟩ = some (.pointer na)) (fb : ∀ i, w.frozen? ⟨b, i, none⟩ = false) (fg : ∀ i, w.frozen? ⟨g, i, none⟩ = false) :
    Calls Yba.prog 48 #[.pointer (some ⟨g, 17, none⟩)] w fun ed w' => ed = .returned v ∧
      w' = (((((w.setCell ⟨b, 509, none⟩ .nilIface).setCell ⟨g, 19, none⟩ (.int .i64 510)).setCell ⟨g, 20, none⟩ (.int .i64 (n - 1))).setCell ⟨g, 17, none⟩ (.pointer na)).setCell ⟨g, 19, none⟩ (.int .i64 0)).drew.drew := by
  have hbg : ¬ b = g := fun h => hgb h.symm
  go_enter Yba.func48, Yba.ntmps48
  go_wp2
  go_region
  all_goals go_wp2
  go_region
  all_goals go_wp2
  all_goals (go_ret; exact ⟨rfl, rfl⟩)
end Go.Proofs.Ybulksnw.Queue
