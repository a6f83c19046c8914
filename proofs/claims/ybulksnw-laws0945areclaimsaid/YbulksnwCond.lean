import Derived.Test.YbulksnwDelete
namespace Go.Proofs.Ybulksnw.Recl
open Go.RowKit

theorem one_arm {motive : Array Value → Type} (r : Value) (A : (recv : Value) → motive #[recv]) (B : (x : Array Value) → motive x) : Extern.SyncCond.check.match_3 motive #[r] A B = A r := rfl

theorem check_run {b o : Nat} {w : World} (hc : w.cell? ⟨b, o, none⟩ = some (.int .u64 0)) (hz : w.frozen? ⟨b, o, none⟩ = false) :
    (callFunc 51 #[.pointer (some ⟨b, o, none⟩)]).run Yba.prog w = .ok (.value (.tuple #[])) (w.setCell ⟨b, o, none⟩ (.pointer (some ⟨b, o, none⟩))) := by
  rw [run_callFunc_extern Yba.func51 (by kernel_rfl) (by kernel_rfl) (by kernel_rfl) (e := Extern.SyncCond.check) (by kernel_rfl)]
  unfold Extern.SyncCond.check
  rw [one_arm]
  simp [Extern.SyncCond.isSelf, Extern.SyncCond.none_, asAddr, hc, hz, run_store Yba.prog w ⟨b, o, none⟩ (.pointer (some ⟨b, o, none⟩)) .atomic rfl, Result.andThen]

theorem wrap0 : IntKind.u32.wrap 0 = 0 := by decide
theorem notify_run {b o : Nat} {w : World} (hc : w.cell? ⟨b, o, none⟩ = some (.int .u32 0)) (hd : w.cell? ⟨b, o + 1, none⟩ = some (.int .u32 0)) :
    (callFunc 52 #[.pointer (some ⟨b, o, none⟩)]).run Yba.prog w = .ok (.value (.tuple #[])) w := by
  rw [run_callFunc_extern Yba.func52 (by kernel_rfl) (by kernel_rfl) (by kernel_rfl) (e := Extern.SyncCond.notifyAll) (by kernel_rfl)]
  simp [Extern.SyncCond.notifyAll, Extern.SyncCond.list, Extern.SyncCond.counter, Extern.SyncCond.none_, hc, hd, Addr.add_lit, Result.andThen, wrap0]

set_option maxRecDepth 100000 in
/-- '(*sync.Cond).Broadcast' of a Cond that nobody waits on and that was never used. -/
theorem broadcast_any (b o : Nat) (w : World) (h1 : w.cell? ⟨b, o + 1, none⟩ = some (.int .u32 0)) (h2 : w.cell? ⟨b, o + 2, none⟩ = some (.int .u32 0)) (h6 : w.cell? ⟨b, o + 6, none⟩ = some (.int .u64 0)) (hz : w.frozen? ⟨b, o + 6, none⟩ = false) :
    Calls Yba.prog 30 #[.pointer (some ⟨b, o, none⟩)] w fun e w' => e = .returned (.tuple #[]) ∧ w' = w.setCell ⟨b, o + 6, none⟩ (.pointer (some ⟨b, o + 6, none⟩)) := by
  have hk := check_run h6 hz
  have g1 : (w.setCell ⟨b, o + 6, none⟩ (.pointer (some ⟨b, o + 6, none⟩))).cell? ⟨b, o + 1, none⟩ = some (.int .u32 0) := by rw [World.cell?_setCell_other _ _ _ _ (by simp)]; exact h1
  have g2 : (w.setCell ⟨b, o + 6, none⟩ (.pointer (some ⟨b, o + 6, none⟩))).cell? ⟨b, o + 1 + 1, none⟩ = some (.int .u32 0) := by rw [World.cell?_setCell_other _ _ _ _ (by simp)]; exact h2
  have hn := notify_run g1 g2
  clear g1 g2
  go_enter Yba.func30, Yba.ntmps30
  go_wp2
  go_end0
  exact ⟨rfl, rfl⟩
end Go.Proofs.Ybulksnw.Recl
