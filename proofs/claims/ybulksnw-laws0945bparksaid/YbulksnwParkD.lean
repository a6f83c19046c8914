import Derived.Test.YbulksnwParkC
import Derived.Deep.QuietTactic
import Derived.BigQuiet
namespace Go.Proofs.Ybulksnw.Park
open Go.RowKit

/-- A slice of pointers to workers. -/
def PL (w : World) (a : Option Addr) (n : Nat) (Hd : Nat → Nat) : Prop := n = 0 ∨ ∃ X, a = some ⟨X, 0, none⟩ ∧ ∀ i, i < n → w.cell? ⟨X, i, none⟩ = some (.pointer (some ⟨Hd i, 0, none⟩))

theorem lt_of_cell {w : World} {b o : Nat} {v : Value} (h : w.cell? ⟨b, o, none⟩ = some v) : b < w.heap.size := by
  simp only [World.cell?] at h
  split at h
  · rename_i hb
    obtain ⟨hlt, _⟩ := Array.getElem?_eq_some_iff.1 hb
    exact hlt
  · cases h

theorem Kept.drewN {D : Nat → Prop} {a w : World} (h : Kept D a w) (n : Nat) : Kept D a (w.drewN n) := ⟨fun C h1 h2 => by
  have := h.bel C h1 h2
  exact ⟨this.os, this.tape, this.output, this.size, this.block⟩, h.size, h.block⟩

theorem Kept.cell {w w' : World} (h : Kept (fun _ => False) w w') {b o : Nat} {v : Value} (hc : w.cell? ⟨b, o, none⟩ = some v) : w'.cell? ⟨b, o, none⟩ = some v := by
  have hb := h.bel w.heap.size (fun _ hd => hd.elim) (Nat.le_refl _)
  rw [hb.cell (p := ⟨b, o, none⟩) (lt_of_cell hc)]
  exact hc

set_option maxRecDepth 100000 in
set_option maxHeartbeats 1000000 in
theorem same_any (a b : Option Addr) (n ca cb : Nat) (hn : n ≤ 300) (Hd : Nat → Nat) (w : World) (ha : PL w a n Hd) (hb : PL w b n Hd) :
    Calls Yba.prog 19 #[.slice a n ca, .slice b n cb] w fun e w' => e = .returned (.bool true) ∧ Kept (fun _ => False) w w' := by
  go_enter Yba.func19, Yba.ntmps19
  go_wp2
  go_loopw [5] (fun i wr => ∃ j : Nat, j ≤ n ∧ i = .int .i64 j ∧ Kept (fun _ => False) w wr) (fun i _ => n - (intOf i).toNat)
  case atStart => exact ⟨0, Nat.zero_le _, rfl, Kept.refl _ _⟩
  case round =>
    obtain ⟨j, hj, rfl, k⟩ := hrel
    by_cases hlt : j < n
    · have hltI : (j : Int) < (n : Int) := by omega
      obtain h0 | ⟨X, rfl, hx⟩ := ha
      · omega
      obtain h0 | ⟨Y, rfl, hy⟩ := hb
      · omega
      have x1 := k.cell (hx j hlt)
      have y1 := k.cell (hy j hlt)
      have hq := neq_o24
      clear hx hy
      go_wp2
      go_quiet (fail)
      have k2 := k.drewN nq
      clear k x1 y1 hq
      go_wp2
      go_roundw
      case rel => exact ⟨j + 1, by omega, by go_num, k2⟩
      case measure => simp [intOf]; omega
    · obtain rfl : j = n := by omega
      go_wp2
      go_ret
      exact ⟨rfl, k⟩

end Go.Proofs.Ybulksnw.Park
