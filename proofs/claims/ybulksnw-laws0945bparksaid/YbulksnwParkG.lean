import Derived.Test.YbulksnwParkF
namespace Go.Proofs.Ybulksnw.Park
open Go.RowKit

/-- What park reads of the pool. -/
structure PF (f : Nat → Value) (ov pe q k : Int) (cl : Bool) : Prop where
  f1 : f 1 = .int .i32 0
  f74 : f 74 = .int .u64 0
  f188 : f 188 = .int .u64 0
  f1216 : f 1216 = .int .i64 ov
  f1220 : f 1220 = .int .u32 k
  f1224 : f 1224 = .int .i32 q
  f1225 : f 1225 = .int .i64 pe
  f1226 : f 1226 = .int .u32 (if cl then 1 else 0)

theorem lock_back {f : Nat → Value} (h : f 1 = .int .i32 0) (i : Nat) : (if i = 1 then Value.int .i32 0 else if i = 1 then .int .i32 1 else f i) = f i := by
  by_cases e : i = 1
  · subst e; rw [if_pos rfl, h]
  · rw [if_neg e, if_neg e]

set_option maxRecDepth 100000 in
set_option maxHeartbeats 1000000 in
theorem park_shared (B x : Nat) (g : Option Addr) (f : Nat → Value) (ov pe q k : Int) (cl : Bool) (F : PF f ov pe q k cl) (w : World) (hB : w.rowIs B 85 1233 f) (h0 : decide (0 < ov) = true) :
    Calls Yba.prog 18 #[.pointer (some ⟨B, 0, none⟩), .pointer (some ⟨x, 0, none⟩), .pointer g] w fun e w' => e = .returned (.bool true) ∧ Kept (fun b => b = B) w w' ∧ w'.rowIs B 85 1233 f := by
  have hl : w.cell? ⟨B, 1, none⟩ = some (.int .i32 0) := by rw [hB.cell (by omega), F.f1]
  have hz := hB.frozen 1
  have R1 := hB.set 1 (.int .i32 1)
  have k1 : Kept (fun b => b = B) w (w.setCell ⟨B, 1, none⟩ (.int .i32 1)) := Kept.set (D := fun b => b = B) (Kept.refl _ w) (g := B) rfl 1 _
  have c1 : (w.setCell ⟨B, 1, none⟩ (.int .i32 1)).cell? ⟨B, 74, none⟩ = some (.int .u64 0) := by rw [R1.cell (by omega), ← F.f74]; rfl
  have c2 : (w.setCell ⟨B, 1, none⟩ (.int .i32 1)).cell? ⟨B, 188, none⟩ = some (.int .u64 0) := by rw [R1.cell (by omega), ← F.f188]; rfl
  have c3 : (w.setCell ⟨B, 1, none⟩ (.int .i32 1)).cell? ⟨B, 1216, none⟩ = some (.int .i64 ov) := by rw [R1.cell (by omega), ← F.f1216]; rfl
  have c4 : (w.setCell ⟨B, 1, none⟩ (.int .i32 1)).cell? ⟨B, 1, none⟩ = some (.int .i32 1) := by rw [R1.cell (by omega)]; rfl
  have z4 := R1.frozen 1
  have k2 := Kept.set (D := fun b => b = B) k1 (g := B) rfl 1 (.int .i32 0)
  have R2 := (R1.set 1 (.int .i32 0)).congr (g := f) (fun i _ => lock_back F.f1 i)
  clear R1 k1
  generalize hw1 : w.setCell ⟨B, 1, none⟩ (.int .i32 1) = w1 at *
  go_enter Yba.func18, Yba.ntmps18
  go_wp2_with (first | (go_at_call 36; refine (Go.MuLone.lock_free Yba.muLib ⟨B, 1, none⟩ _ hl hz).mono ?_; rintro e w' ⟨rfl, hw2⟩; rw [hw1] at hw2; subst hw2) | (go_at_call 37; refine (shared_any B ov _ c1 c2 c3).mono ?_; rw [h0]; rintro e w' ⟨rfl, rfl⟩) | (go_at_call 38; refine (Go.MuLone.unlock_held Yba.muLib ⟨B, 1, none⟩ _ c4 z4).mono ?_; rintro e w' ⟨rfl, rfl⟩))
  go_ret
  exact ⟨rfl, k2, R2⟩

set_option maxRecDepth 100000 in
set_option maxHeartbeats 1000000 in
theorem park_closed (B x : Nat) (g : Option Addr) (f : Nat → Value) (ov pe q k : Int) (cl : Bool) (F : PF f ov pe q k cl) (w : World) (hB : w.rowIs B 85 1233 f) (h0 : decide (0 < ov) = false) (hcl : cl = true) (hpe : pe = 0) :
    Calls Yba.prog 18 #[.pointer (some ⟨B, 0, none⟩), .pointer (some ⟨x, 0, none⟩), .pointer g] w fun e w' => e = .returned (.bool false) ∧ Kept (fun b => b = B) w w' ∧ w'.rowIs B 85 1233 f := by
  have hl : w.cell? ⟨B, 1, none⟩ = some (.int .i32 0) := by rw [hB.cell (by omega), F.f1]
  have hz := hB.frozen 1
  have R1 := hB.set 1 (.int .i32 1)
  have k1 : Kept (fun b => b = B) w (w.setCell ⟨B, 1, none⟩ (.int .i32 1)) := Kept.set (D := fun b => b = B) (Kept.refl _ w) (g := B) rfl 1 _
  have c1 : (w.setCell ⟨B, 1, none⟩ (.int .i32 1)).cell? ⟨B, 74, none⟩ = some (.int .u64 0) := by rw [R1.cell (by omega), ← F.f74]; rfl
  have c2 : (w.setCell ⟨B, 1, none⟩ (.int .i32 1)).cell? ⟨B, 188, none⟩ = some (.int .u64 0) := by rw [R1.cell (by omega), ← F.f188]; rfl
  have c3 : (w.setCell ⟨B, 1, none⟩ (.int .i32 1)).cell? ⟨B, 1216, none⟩ = some (.int .i64 ov) := by rw [R1.cell (by omega), ← F.f1216]; rfl
  have c5 : (w.setCell ⟨B, 1, none⟩ (.int .i32 1)).cell? ⟨B, 1226, none⟩ = some (.int .u32 1) := by rw [R1.cell (by omega)]; show some (f 1226) = _; rw [F.f1226, hcl]; rfl
  have c6 : (w.setCell ⟨B, 1, none⟩ (.int .i32 1)).cell? ⟨B, 1225, none⟩ = some (.int .i64 0) := by rw [R1.cell (by omega), ← hpe, ← F.f1225]; rfl
  have c4 : (w.setCell ⟨B, 1, none⟩ (.int .i32 1)).cell? ⟨B, 1, none⟩ = some (.int .i32 1) := by rw [R1.cell (by omega)]; rfl
  have z4 := R1.frozen 1
  have k2 := Kept.set (D := fun b => b = B) k1 (g := B) rfl 1 (.int .i32 0)
  have R2 := (R1.set 1 (.int .i32 0)).congr (g := f) (fun i _ => lock_back F.f1 i)
  clear R1 k1
  generalize hw1 : w.setCell ⟨B, 1, none⟩ (.int .i32 1) = w1 at *
  go_enter Yba.func18, Yba.ntmps18
  go_wp2_with (first | (go_at_call 36; refine (Go.MuLone.lock_free Yba.muLib ⟨B, 1, none⟩ _ hl hz).mono ?_; rintro e w' ⟨rfl, hw2⟩; rw [hw1] at hw2; subst hw2) | (go_at_call 37; refine (shared_any B ov _ c1 c2 c3).mono ?_; rw [h0]; rintro e w' ⟨rfl, rfl⟩) | (go_at_call 21; refine (Atom.boolLoad B 1226 1 _ c5).mono ?_; rintro e w' ⟨rfl, rfl⟩) | (go_at_call 39; refine (Atom.i64Load B 1225 0 _ c6).mono ?_; rintro e w' ⟨rfl, rfl⟩) | (go_at_call 38; refine (Go.MuLone.unlock_held Yba.muLib ⟨B, 1, none⟩ _ c4 z4).mono ?_; rintro e w' ⟨rfl, rfl⟩))
  go_ret
  exact ⟨rfl, k2, R2⟩

end Go.Proofs.Ybulksnw.Park
