import Derived.Test.YbulksqaRows
import Derived.WalkKit
import Derived.RegionTactic
import Derived.BigRegion
import Derived.ChangeAlike
import Derived.Deep.QuietTactic
import Derived.BigQuiet
import Derived.Deep.OwnRows
import Derived.LoopTactic
import Derived.Outline
namespace Go.Proofs.Ybulksqa.Chain
open Go.RowKit

/-- The k-th Env of a chain of n whose slice's block is S; nil from n on. -/
def po (S n k : Nat) : Option Addr := if k < n then some ⟨S + 1 + k, 0, none⟩ else none
theorem po_lt {S n k : Nat} (h : k < n) : po S n k = some ⟨S + 1 + k, 0, none⟩ := if_pos h
theorem po_ge {S n k : Nat} (h : ¬ k < n) : po S n k = none := if_neg h

structure Ch (W w : World) (S n : Nat) : Prop where
  gr : Grown W w
  row : w.rowIs S 44 n (fun i => .pointer (po S n i))
  env : ∀ i, i < n → ∃ h, w.rowIs (S + 1 + i) 49 2 h ∧ h 1 = .pointer (po S n (i + 1))

/-- After k rounds of the first loop. -/
structure C1 (W w : World) (S n k : Nat) : Prop where
  gr : Grown W w
  hW : W.heap.size ≤ S
  row : w.rowIs S 44 n (fun i => if i < k then .pointer (some ⟨S + 1 + i, 0, none⟩) else .pointer none)
  env : ∀ i, i < k → w.rowIs (S + 1 + i) 49 2 (fun j => if j = 0 then .slice none 0 0 else .pointer none)
  sz : w.heap.size = S + 1 + k

/-- After k rounds of the second. -/
structure C2 (W w : World) (S n k : Nat) : Prop where
  gr : Grown W w
  hW : W.heap.size ≤ S
  row : w.rowIs S 44 n (fun i => .pointer (po S n i))
  env : ∀ i, i < n → ∃ h, w.rowIs (S + 1 + i) 49 2 h ∧ h 1 = (if i < k then .pointer (po S n (i + 1)) else .pointer none)

theorem C1.step {W w : World} {S n k : Nat} (h : C1 W w S n k) (_hk : k < n) : C1 W ((w.setCell ⟨S, k, none⟩ (.pointer (some ⟨w.heap.size, 0, none⟩))).alloc (.cells #[.slice none 0 0, .pointer none] 49)) S n (k + 1) := by
  have hs := h.sz
  have hsz : (w.setCell ⟨S, k, none⟩ (.pointer (some ⟨w.heap.size, 0, none⟩))).heap.size = S + 1 + k := by simp [World.setCell, hs]
  refine ⟨(h.gr.setCell (a := ⟨S, k, none⟩) h.hW _).alloc _ _, h.hW, ?_, ?_, ?_⟩
  · refine ((h.row.set k _).alloc _).congr fun i _ => ?_
    rw [hs]
    show (if i = k then _ else if i < k then _ else _) = _
    by_cases e : i = k
    · subst e; rw [if_pos rfl, if_pos (by omega)]
    · rw [if_neg e]
      by_cases e2 : i < k
      · rw [if_pos e2, if_pos (by omega)]
      · rw [if_neg e2, if_neg (by omega)]
  · intro i hi
    by_cases e : i = k
    · subst e
      have R := World.rowIs_alloc (w.setCell ⟨S, i, none⟩ (.pointer (some ⟨w.heap.size, 0, none⟩))) #[.slice none 0 0, .pointer none] 49 (fun j => if j = 0 then .slice none 0 0 else .pointer none) (fun j hj => by
        match j, hj with
        | 0, _ => rfl
        | 1, _ => rfl)
      rw [hsz] at R
      exact R
    · exact ((h.env i (by omega)).setOther (a := ⟨S, k, none⟩) (by show S + 1 + i ≠ S; omega) _).alloc _
  · rw [World.size_alloc, hsz]; omega

theorem C1.two {W w : World} {S n : Nat} (h : C1 W w S n n) : C2 W w S n 0 := by
  refine ⟨h.gr, h.hW, h.row.congr fun i hi => ?_, fun i hi => ⟨_, h.env i hi, ?_⟩⟩
  · rw [if_pos hi, po_lt hi]
  · rw [if_neg (by omega), if_neg (by omega)]

theorem C2.step {W w : World} {S n k : Nat} (h : C2 W w S n k) (_hk : k + 1 < n) : C2 W (w.setCell ⟨S + 1 + k, 1, none⟩ (.pointer (some ⟨S + 1 + (k + 1), 0, none⟩))).drew S n (k + 1) := by
  have hW := h.hW
  refine ⟨(h.gr.setCell (a := ⟨S + 1 + k, 1, none⟩) (by show W.heap.size ≤ S + 1 + k; omega) _).drew, h.hW, (h.row.setOther (a := ⟨S + 1 + k, 1, none⟩) (by show S ≠ S + 1 + k; omega) _).drew, fun i hi => ?_⟩
  obtain ⟨f, hr, h1⟩ := h.env i hi
  by_cases e : i = k
  · subst e
    refine ⟨_, (hr.set 1 _).drew, ?_⟩
    show (if (1 : Nat) = 1 then _ else _) = _
    rw [if_pos rfl, if_pos (by omega), po_lt (by omega)]
  · refine ⟨f, (hr.setOther (a := ⟨S + 1 + k, 1, none⟩) (by show S + 1 + i ≠ S + 1 + k; omega) _).drew, ?_⟩
    rw [h1]
    by_cases e2 : i < k
    · rw [if_pos e2, if_pos (by omega)]
    · rw [if_neg e2, if_neg (by omega)]

theorem C2.done {W w : World} {S n k : Nat} (h : C2 W w S n k) (hk : n ≤ k + 1) : Ch W w S n := by
  refine ⟨h.gr, h.row, fun i hi => ?_⟩
  obtain ⟨f, hr, h1⟩ := h.env i hi
  refine ⟨f, hr, ?_⟩
  rw [h1]
  by_cases e2 : i < k
  · rw [if_pos e2]
  · rw [if_neg e2, po_ge (by omega)]

theorem info44 : (Yba.prog.info? 44).map (fun i => (i.zero, i.size, i.bytes)) = some (some (.pointer none), 1, 8) := by kernel_rfl

set_option maxRecDepth 100000 in
set_option maxHeartbeats 1000000 in
theorem chain_any (n : Nat) (hn : n ≤ 255) (w : World) :
    Calls Yba.prog 12 #[.int .i64 (n : Int)] w fun e w' => e = .returned (.slice (some ⟨w.heap.size, 0, none⟩) n n) ∧ Ch w w' w.heap.size n := by
  have hmk := run_make_row' (P := Yba.prog) 42 44 (.pointer none) 8 Yba.underlying42 info44 rfl .i64 .i64 n (by omega) (by omega)
  have hn' : (n : Int) ≤ 255 := by omega
  have H0 : C1 w (w.alloc (.cells (madeCells #[.pointer none] n) 44)) w.heap.size n 0 :=
    ⟨(Grown.refl w).alloc _ _, Nat.le_refl _, (World.rowIs_made w (.pointer none) n 44).congr fun i _ => by simp, fun i hi => by omega, by rw [World.size_alloc]⟩
  go_enter Yba.func12, Yba.ntmps12
  go_wp2
  go_loopw [4] (fun i wr => ∃ k : Nat, k ≤ n ∧ i = .int .i64 k ∧ C1 w wr w.heap.size n k) (fun i _ => n - (intOf i).toNat)
  case atStart => exact ⟨0, Nat.zero_le _, rfl, H0⟩
  case round =>
    clear H0 hmk
    obtain ⟨k, hk, rfl, I⟩ := hrel
    by_cases hlt : k < n
    · have hc := I.row.cell hlt
      have hf := I.row.frozen k
      have hl := I.row.lt
      have hI := I.step hlt
      go_wp2
      go_roundw
      case rel => exact ⟨k + 1, by omega, by go_num, hI⟩
      case measure => simp [intOf]; omega
    · obtain rfl : k = n := by omega
      have I2 := I.two
      clear I
      go_wp2
      go_loopw [5] (fun i wr => ∃ j : Nat, i = .int .i64 j ∧ j ≤ k ∧ C2 w wr w.heap.size k j) (fun i _ => k - (intOf i).toNat)
      case atStart => exact ⟨0, rfl, by omega, I2⟩
      case round =>
        clear I2
        obtain ⟨j, rfl, hj0, I⟩ := hrel
        by_cases hj : j + 1 < k
        · have hj1 : (j : Int) + 1 < (k : Int) := by omega
          have hj2 : (j : Int) < (k : Int) := by omega
          have ca := I.row.cell (i := j) (by omega)
          have cb := I.row.cell (i := j + 1) hj
          rw [po_lt (by omega)] at ca cb
          obtain ⟨f, hr, _⟩ := I.env j (by omega)
          have cc := hr.cell (i := 1) (by omega)
          have cf := hr.frozen 1
          have hI := I.step hj
          clear hr
          go_wp2
          go_region
          all_goals go_wp2
          go_roundw
          case rel => exact ⟨j + 1, by go_num, by omega, hI⟩
          case measure => simp [intOf]; omega
        · go_wp2
          go_ret
          exact ⟨rfl, I.done (by omega)⟩

end Go.Proofs.Ybulksqa.Chain
