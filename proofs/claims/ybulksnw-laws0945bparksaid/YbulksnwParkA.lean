import Derived.Test.YbulksnwAtomics
import Derived.Test.YbulksnwFlag
import Derived.Test.YbulksnwLocks
namespace Go.Proofs.Ybulksnw.Park
open Go.RowKit

set_option maxRecDepth 100000 in
theorem turn_zero (w : World) : Calls Yba.prog 66 #[.int .u64 0] w fun e w' => e = .returned (.int .u64 1) ∧ w = w' := by
  go_enter Yba.func66, Yba.ntmps66
  go_wp2
  go_ret
  exact ⟨rfl, rfl⟩

set_option maxRecDepth 100000 in
theorem ready_zero (b o : Nat) (w : World) (h1 : w.cell? ⟨b, o + 64, none⟩ = some (.int .u64 0)) (h5 : w.cell? ⟨b, o + 178, none⟩ = some (.int .u64 0)) :
    Calls Yba.prog 54 #[.pointer (some ⟨b, o, none⟩)] w fun e w' => e = .returned (.bool false) ∧ w = w' := by
  go_enter Yba.func54, Yba.ntmps54
  go_wp2_with (first | (go_at_call 13; refine (Atom.u64Load _ _ 0 _ (by assumption)).mono ?_; rintro e w' ⟨rfl, rfl⟩) | (go_at_call 66; refine (turn_zero _).mono ?_; rintro e w' ⟨rfl, rfl⟩))
  go_ret
  exact ⟨rfl, rfl⟩

set_option maxRecDepth 100000 in
theorem shared_any (b : Nat) (ov : Int) (w : World) (h1 : w.cell? ⟨b, 74, none⟩ = some (.int .u64 0)) (h5 : w.cell? ⟨b, 188, none⟩ = some (.int .u64 0)) (ho : w.cell? ⟨b, 1216, none⟩ = some (.int .i64 ov)) :
    Calls Yba.prog 37 #[.pointer (some ⟨b, 0, none⟩)] w fun e w' => e = .returned (.bool (decide (0 < ov))) ∧ w = w' := by
  go_enter Yba.func37, Yba.ntmps37
  go_wp2_with (first | (go_at_call 54; refine (ready_zero b 10 _ h1 h5).mono ?_; rintro e w' ⟨rfl, rfl⟩) | (go_at_call 39; refine (Atom.i64Load _ _ ov _ ho).mono ?_; rintro e w' ⟨rfl, rfl⟩))
  go_ret
  exact ⟨rfl, rfl⟩

set_option maxRecDepth 100000 in
theorem others_nil (b : Nat) (q : Int) (w : World) (hq : w.cell? ⟨b, 1224, none⟩ = some (.int .i32 q)) :
    Calls Yba.prog 57 #[.pointer (some ⟨b, 0, none⟩), .pointer none] w fun e w' => e = .returned (.bool (decide (0 < q))) ∧ w = w' := by
  go_enter Yba.func57, Yba.ntmps57
  go_wp2_with (go_at_call 20; refine (Atom.i32Load _ _ q _ hq).mono ?_; rintro e w' ⟨rfl, rfl⟩)
  go_ret
  exact ⟨rfl, rfl⟩

set_option maxRecDepth 100000 in
theorem tasks_any (b : Nat) (ov q : Int) (w : World) (h1 : w.cell? ⟨b, 74, none⟩ = some (.int .u64 0)) (h5 : w.cell? ⟨b, 188, none⟩ = some (.int .u64 0)) (ho : w.cell? ⟨b, 1216, none⟩ = some (.int .i64 ov)) (hq : w.cell? ⟨b, 1224, none⟩ = some (.int .i32 q)) (h0 : decide (0 < ov) = false) :
    Calls Yba.prog 40 #[.pointer (some ⟨b, 0, none⟩)] w fun e w' => e = .returned (.bool (decide (0 < q))) ∧ w = w' := by
  go_enter Yba.func40, Yba.ntmps40
  go_wp2_with (first | (go_at_call 37; refine (shared_any b ov _ h1 h5 ho).mono ?_; rw [h0]; rintro e w' ⟨rfl, rfl⟩) | (go_at_call 57; refine (others_nil b q _ hq).mono ?_; rintro e w' ⟨rfl, rfl⟩))
  go_ret
  exact ⟨rfl, rfl⟩

set_option maxRecDepth 100000 in
theorem arrive_any (b x : Nat) (wo : Bool) (k : Int) (w : World) (hw : w.cell? ⟨x, 21, none⟩ = some (.bool wo)) (hz : w.frozen? ⟨x, 21, none⟩ = false) (hk : w.cell? ⟨b, 1220, none⟩ = some (.int .u32 k)) (hz2 : w.frozen? ⟨b, 1220, none⟩ = false) :
    Calls Yba.prog 43 #[.pointer (some ⟨b, 0, none⟩), .pointer (some ⟨x, 0, none⟩)] w fun e w' => e = .returned (.tuple #[]) ∧ w' = if wo then ((w.setCell ⟨x, 21, none⟩ (.bool false)).setCell ⟨b, 1220, none⟩ (.int .u32 0)).drew else w := by
  cases wo
  · go_enter Yba.func43, Yba.ntmps43
    go_wp2
    go_end0
    exact ⟨rfl, rfl⟩
  · have hk2 : (w.setCell ⟨x, 21, none⟩ (.bool false)).cell? ⟨b, 1220, none⟩ = some (.int .u32 k) := by
      rw [World.cell?_setCell_other w ⟨x, 21, none⟩ ⟨b, 1220, none⟩ _ (by intro e; simp at e)]; exact hk
    have hz3 : (w.setCell ⟨x, 21, none⟩ (.bool false)).frozen? ⟨b, 1220, none⟩ = false := by go_simp
    go_enter Yba.func43, Yba.ntmps43
    go_wp2_with (go_at_call 15; refine (Atom.boolStore b 1220 false _ _ hk2 hz3).mono ?_; rintro e w' ⟨rfl, rfl⟩)
    go_end0
    exact ⟨rfl, rfl⟩

set_option maxRecDepth 100000 in
theorem settledLocked_zero (g : Nat) (w : World) (hp : w.cell? ⟨g, 13, none⟩ = some (.int .i64 0)) :
    Calls Yba.prog 70 #[.pointer (some ⟨g, 0, none⟩)] w fun e w' => e = .returned (.bool true) ∧ w = w' := by
  go_enter Yba.func70, Yba.ntmps70
  go_wp2
  go_ret
  exact ⟨rfl, rfl⟩

set_option maxRecDepth 100000 in
theorem background (w : World) : Calls Yba.prog 17 #[] w fun e w' => e = .returned (.iface 140 (.agg #[])) ∧ w = w' := by
  go_enter Yba.func17, Yba.ntmps17
  go_wp2
  go_ret
  exact ⟨rfl, rfl⟩

theorem method_err0 (w : World) : (method 314 140 (.agg #[]) "Err").run Yba.prog w = .ok (101, .agg #[]) w := by kernel_rfl

set_option maxRecDepth 100000 in
theorem err_nil (w : World) : Calls Yba.prog 101 #[.agg #[]] w fun e w' => e = .returned .nilIface ∧ w' = w.alloc (.cells #[] 138) := by
  go_enter Yba.func101, Yba.ntmps101
  go_wp2
  go_ret
  exact ⟨rfl, rfl⟩

set_option maxRecDepth 100000 in
theorem settledLocked_one (g : Nat) (w : World) (hp : w.cell? ⟨g, 13, none⟩ = some (.int .i64 1)) (hc : w.cell? ⟨g, 1, none⟩ = some (.iface 140 (.agg #[]))) :
    Calls Yba.prog 70 #[.pointer (some ⟨g, 0, none⟩)] w fun e w' => e = .returned (.bool false) ∧ w' = w.alloc (.cells #[] 138) := by
  have hm := method_err0
  go_enter Yba.func70, Yba.ntmps70
  go_wp2_with (go_at_call 101; refine (err_nil _).mono ?_; rintro e w' ⟨rfl, rfl⟩)
  go_ret
  exact ⟨rfl, rfl⟩

/-- All blocks but g are as they were. -/
structure Keep (g : Nat) (w w' : World) : Prop where
  bel : ∀ B, B ≤ g → B ≤ w.heap.size → Below B w w'
  size : w.heap.size ≤ w'.heap.size
  block : ∀ b, b < w.heap.size → b ≠ g → w'.heap[b]? = w.heap[b]?

theorem Keep.refl (g : Nat) (w : World) : Keep g w w := ⟨fun _ _ _ => Below.refl _ _, Nat.le_refl _, fun _ _ _ => rfl⟩
theorem Keep.trans {g : Nat} {a b c : World} (h : Keep g a b) (k : Keep g b c) : Keep g a c :=
  ⟨fun B h1 h2 => (h.bel B h1 h2).trans (k.bel B h1 (Nat.le_trans h2 h.size)), Nat.le_trans h.size k.size, fun b h1 h2 => (k.block b (Nat.lt_of_lt_of_le h1 h.size) h2).trans (h.block b h1 h2)⟩
theorem Keep.set {g : Nat} (w : World) (o : Nat) (v : Value) : Keep g w (w.setCell ⟨g, o, none⟩ v) := by
  have hb : ∀ B, B ≤ g → Below B w (w.setCell ⟨g, o, none⟩ v) := fun B h => (Below.refl B w).setCell (p := ⟨g, o, none⟩) h v
  refine ⟨fun B h _ => hb B h, (hb 0 (Nat.zero_le _)).size, fun b h1 h2 => ?_⟩
  simp [World.setCell, Array.getElem?_modify]
  intro e
  exact absurd e.symm h2
theorem Keep.alloc {g : Nat} (w : World) (o : Obj) : Keep g w (w.alloc o) :=
  ⟨fun _ _ h => (Below.refl _ _).alloc h _, by rw [World.size_alloc]; omega, fun b h1 _ => ((Below.refl w.heap.size w).alloc (Nat.le_refl _) o).block b h1⟩
theorem Keep.row {g : Nat} {w w' : World} (h : Keep g w w') {b t n : Nat} {f : Nat → Value} (hr : w.rowIs b t n f) (hne : b ≠ g) : w'.rowIs b t n f := hr.of_block (h.block b hr.lt hne)

set_option maxRecDepth 100000 in
theorem settled_any (g : Nat) (st : Bool) (f : Nat → Value) (w : World) (hr : w.rowIs g 100 25 f) (f4 : f 4 = .int .i32 0) (f13 : f 13 = .int .i64 (if st then 0 else 1)) (f1 : f 1 = .iface 140 (.agg #[])) :
    Calls Yba.prog 58 #[.pointer (some ⟨g, 0, none⟩)] w fun e w' => e = .returned (.bool st) ∧ Keep g w w' ∧ w'.rowIs g 100 25 f := by
  have hl : w.cell? ⟨g, 4, none⟩ = some (.int .i32 0) := by rw [hr.cell (by omega), f4]
  have hz := hr.frozen 4
  have r1 := hr.set 4 (.int .i32 1)
  have k1 := Keep.set (g := g) w 4 (.int .i32 1)
  have hl1 := World.cell?_setCell_same w ⟨g, 4, none⟩ (.int .i32 1) hl
  have hp1 : (w.setCell ⟨g, 4, none⟩ (.int .i32 1)).cell? ⟨g, 13, none⟩ = some (.int .i64 (if st then 0 else 1)) := by rw [r1.cell (by omega), ← f13]; rfl
  have hc1 : (w.setCell ⟨g, 4, none⟩ (.int .i32 1)).cell? ⟨g, 1, none⟩ = some (.iface 140 (.agg #[])) := by rw [r1.cell (by omega), ← f1]; rfl
  have fin : ∀ i, (fun i => if i = 4 then Value.int .i32 0 else if i = 4 then .int .i32 1 else f i) i = f i := by
    intro i
    by_cases e : i = 4
    · subst e; simp [f4]
    · simp [e]
  cases st
  · have q1 := k1.trans (Keep.alloc (g := g) _ (.cells #[] 138))
    have r2 := r1.alloc (.cells #[] 138)
    have z2 := r2.frozen 4
    have l2 : ((w.setCell ⟨g, 4, none⟩ (.int .i32 1)).alloc (.cells #[] 138)).cell? ⟨g, 4, none⟩ = some (.int .i32 1) := by rw [r2.cell (by omega)]; rfl
    have q2 := q1.trans (Keep.set (g := g) _ 4 (.int .i32 0))
    have r3 := (r2.set 4 (.int .i32 0)).congr (g := f) (fun i _ => fin i)
    go_enter_defers Yba.func58, Yba.ntmps58
    go_wp2_with (first | (go_at_call 36; refine (Go.MuLone.lock_free Yba.muLib ⟨g, 4, none⟩ _ hl hz).mono ?_; rintro e w' ⟨rfl, rfl⟩) | (go_at_call 70; refine (settledLocked_one g _ hp1 hc1).mono ?_; rintro e w' ⟨rfl, rfl⟩))
    refine leaves_cons (f := 38) (args := #[.pointer (some ⟨g, 4, none⟩)]) (by simp) (by simp [go_sem]) ?_
    refine (Go.MuLone.unlock_deferred Yba.muLib ⟨g, 4, none⟩ .returning _ l2 z2).mono ?_
    rintro e u' w'' ⟨rfl, rfl, rfl⟩
    exact ⟨_, results_tmp rfl _ _ _, rfl, q2, r3⟩
  · have z2 := r1.frozen 4
    have q2 := k1.trans (Keep.set (g := g) _ 4 (.int .i32 0))
    have r3 := (r1.set 4 (.int .i32 0)).congr (g := f) (fun i _ => fin i)
    go_enter_defers Yba.func58, Yba.ntmps58
    go_wp2_with (first | (go_at_call 36; refine (Go.MuLone.lock_free Yba.muLib ⟨g, 4, none⟩ _ hl hz).mono ?_; rintro e w' ⟨rfl, rfl⟩) | (go_at_call 70; refine (settledLocked_zero g _ hp1).mono ?_; rintro e w' ⟨rfl, rfl⟩))
    refine leaves_cons (f := 38) (args := #[.pointer (some ⟨g, 4, none⟩)]) (by simp) (by simp [go_sem]) ?_
    refine (Go.MuLone.unlock_deferred Yba.muLib ⟨g, 4, none⟩ .returning _ hl1 z2).mono ?_
    rintro e u' w'' ⟨rfl, rfl, rfl⟩
    exact ⟨_, results_tmp rfl _ _ _, rfl, q2, r3⟩

set_option maxRecDepth 100000 in
theorem stop_any (x g : Nat) (st : Bool) (r : Int) (f h : Nat → Value) (w : World) (hg : w.rowIs g 100 25 f) (f4 : f 4 = .int .i32 0) (f13 : f 13 = .int .i64 (if st then 0 else 1)) (f1 : f 1 = .iface 140 (.agg #[]))
    (hx : w.rowIs x 58 25 h) (h16 : h 16 = .int .i32 r) (hne : x ≠ g) :
    Calls Yba.prog 41 #[.pointer (some ⟨x, 0, none⟩), .pointer (some ⟨g, 0, none⟩)] w fun e w' => e = .returned (.bool (st || decide (0 < r))) ∧ Keep g w w' ∧ w'.rowIs g 100 25 f := by
  cases st
  · go_enter Yba.func41, Yba.ntmps41
    go_wp2_with fail
    refine (settled_any g false f w hg f4 f13 f1).mono ?_
    rintro e w1 ⟨rfl, k1, r1⟩
    have hr1 : w1.cell? ⟨x, 16, none⟩ = some (.int .i32 r) := by rw [(k1.row hx hne).cell (by omega), h16]
    go_wp2_with (go_at_call 20; refine (Atom.i32Load _ _ r _ hr1).mono ?_; rintro e w' ⟨rfl, rfl⟩)
    go_ret
    exact ⟨by simp, k1, r1⟩
  · go_enter Yba.func41, Yba.ntmps41
    go_wp2_with fail
    refine (settled_any g true f w hg f4 f13 f1).mono ?_
    rintro e w1 ⟨rfl, k1, r1⟩
    go_wp2
    go_ret
    exact ⟨by simp, k1, r1⟩

end Go.Proofs.Ybulksnw.Park
