import Derived.Test.YbulksnwParkB
namespace Go.Proofs.Ybulksnw.Park
open Go.RowKit
open Recl (row_sets row_sets_other below_sets size_sets)

/-- All blocks but those of D are as they were. -/
structure Kept (D : Nat → Prop) (w w' : World) : Prop where
  bel : ∀ C, (∀ d, D d → C ≤ d) → C ≤ w.heap.size → Below C w w'
  size : w.heap.size ≤ w'.heap.size
  block : ∀ b, b < w.heap.size → ¬ D b → w'.heap[b]? = w.heap[b]?

theorem Keep.kept {g : Nat} {D : Nat → Prop} {w w' : World} (h : Keep g w w') (hD : D g) : Kept D w w' :=
  ⟨fun C h1 h2 => h.bel C (h1 g hD) h2, h.size, fun b h1 h2 => h.block b h1 (fun e => h2 (e ▸ hD))⟩
theorem Kept.refl (D : Nat → Prop) (w : World) : Kept D w w := ⟨fun _ _ _ => Below.refl _ _, Nat.le_refl _, fun _ _ _ => rfl⟩
theorem Kept.trans {D : Nat → Prop} {a b c : World} (h : Kept D a b) (k : Kept D b c) : Kept D a c :=
  ⟨fun B h1 h2 => (h.bel B h1 h2).trans (k.bel B h1 (Nat.le_trans h2 h.size)), Nat.le_trans h.size k.size, fun b h1 h2 => (k.block b (Nat.lt_of_lt_of_le h1 h.size) h2).trans (h.block b h1 h2)⟩
theorem Kept.set {D : Nat → Prop} {a w : World} (h : Kept D a w) {g : Nat} (hD : D g) (o : Nat) (v : Value) : Kept D a (w.setCell ⟨g, o, none⟩ v) := h.trans ((Keep.set (g := g) w o v).kept hD)
theorem Kept.alloc {D : Nat → Prop} {a w : World} (h : Kept D a w) (o : Obj) : Kept D a (w.alloc o) :=
  h.trans ⟨fun _ _ h => (Below.refl _ _).alloc h _, by rw [World.size_alloc]; omega, fun b h1 _ => ((Below.refl w.heap.size w).alloc (Nat.le_refl _) o).block b h1⟩
theorem Kept.drew {D : Nat → Prop} {a w : World} (h : Kept D a w) : Kept D a w.drew := ⟨fun C h1 h2 => (h.bel C h1 h2).drew, h.size, h.block⟩
theorem Kept.sets {D : Nat → Prop} {g : Nat} (hD : D g) : ∀ (vs : List Value) (o : Nat) {a w : World}, Kept D a w → Kept D a (w.setCells g o vs)
  | [], _, _, _, h => h
  | v :: r, o, _, _, h => Kept.sets hD r (o + 1) (h.set hD o v)
theorem Kept.row {D : Nat → Prop} {w w' : World} (h : Kept D w w') {b t n : Nat} {f : Nat → Value} (hr : w.rowIs b t n f) (hne : ¬ D b) : w'.rowIs b t n f := hr.of_block (h.block b hr.lt hne)

/-- A way out that does not panic: for a region that draws its order in a function that defers. -/
def NP (Q : Exit → Act → World → Prop) : Exit → Act → World → Prop
  | .panic _, _, _ => False
  | e, a, w => Q e a w
theorem NP.le {Q : Exit → Act → World → Prop} (e : Exit) (a : Act) (w : World) (h : NP Q e a w) : Q e a w := by
  cases e <;> first | exact h | exact h.elim
theorem NP.normal {Q : Exit → Act → World → Prop} {a : Act} {w : World} (h : Q .normal a w) : NP Q .normal a w := h

set_option maxRecDepth 100000 in
set_option maxHeartbeats 1000000 in
theorem unlist_any (B X n c : Nat) (Hd : Nat → Nat) (f h : Nat → Value) (w : World) (hB : w.rowIs B 85 1233 f) (hX : w.rowIs X 24 c h) (f1 : f 1 = .int .i32 0) (f2 : f 1217 = .slice (some ⟨X, 0, none⟩) (n + 1) c) (u : Value) (f3 : f 1218 = u)
    (hh : ∀ i, i < n + 1 → h i = .pointer (some ⟨Hd i, 0, none⟩)) (hc : n + 1 ≤ c) (hn : n ≤ 300) (hrow : ∀ i, i < n + 1 → ∃ g, w.rowIs (Hd i) 58 25 g) (hne : ∀ i, i < n → Hd n ≠ Hd i) (hBX : B ≠ X) (hHB : ∀ i, i < n + 1 → Hd i ≠ B) :
    Calls Yba.prog 42 #[.pointer (some ⟨B, 0, none⟩), .pointer (some ⟨Hd n, 0, none⟩)] w fun e w' => e = .returned (.bool true) ∧ Kept (fun b => b = B ∨ b = X) w w' ∧
      w'.rowIs B 85 1233 (fun i => if i = 1218 then .int .i32 n else if i = 1217 then .slice (some ⟨X, 0, none⟩) n c else f i) ∧ w'.rowIs X 24 c (fun i => if i = n then .pointer none else h i) := by
  have hl : w.cell? ⟨B, 1, none⟩ = some (.int .i32 0) := by rw [hB.cell (by omega), f1]
  have hz := hB.frozen 1
  have R1 := hB.set 1 (.int .i32 1)
  have X1 := hX.setOther (a := ⟨B, 1, none⟩) (fun e => hBX e.symm) (.int .i32 1)
  have k1 : Kept (fun b => b = B ∨ b = X) w (w.setCell ⟨B, 1, none⟩ (.int .i32 1)) := (Kept.refl _ w).set (Or.inl rfl) 1 _
  have r1 : ∀ i, i < n + 1 → ∃ g, (w.setCell ⟨B, 1, none⟩ (.int .i32 1)).rowIs (Hd i) 58 25 g := fun i hi => by
    obtain ⟨g, hg⟩ := hrow i hi
    exact ⟨g, hg.setOther (a := ⟨B, 1, none⟩) (hHB i hi) _⟩
  have HH : Hid (∀ i, i < n + 1 → h i = .pointer (some ⟨Hd i, 0, none⟩)) := hh
  have HN : Hid (∀ i, i < n → Hd n ≠ Hd i) := hne
  have HF : Hid (f 1 = .int .i32 0 ∧ f 1217 = .slice (some ⟨X, 0, none⟩) (n + 1) c ∧ f 1218 = u) := ⟨f1, f2, f3⟩
  clear hh hne hHB hrow f1 f2 f3 hB hX
  go_enter_defers Yba.func42, Yba.ntmps42
  go_wp2_with fail
  refine (Go.MuLone.lock_free Yba.muLib ⟨B, 1, none⟩ _ hl hz).mono ?_
  rintro e w1 ⟨rfl, hw1⟩
  rw [← hw1] at R1 X1 k1 r1
  clear hw1 hl hz
  have RR : Hid (∀ i, i < n + 1 → ∃ g, w1.rowIs (Hd i) 58 25 g) := r1
  clear r1
  have q1 : w1.cell? ⟨B, 1217, none⟩ = some (.slice (some ⟨X, 0, none⟩) (n + 1) c) := by rw [R1.cell (by omega), ← HF.out.2.1]; rfl
  have q2 := R1.frozen 1217
  go_wp2_with (go_at_call 59; refine (index_any X (n + 1) c n Hd h _ X1 HH.out hc (by omega) (by omega) RR.out HN.out).mono ?_; rintro e w' ⟨rfl, rfl⟩)
  have DL := delete_any X (n + 1) c n h w1 X1 (by omega) hc (by omega)
  rw [show ((n + 1 : Nat) : Int) = (n : Int) + 1 by omega, show n + 1 - n = 1 by omega] at DL
  refine DL.mono ?_
  rintro e w2 ⟨rfl, hw2⟩
  clear DL q1 q2 RR
  have R2 : w2.rowIs B 85 1233 (fun j => if j = 1 then .int .i32 1 else f j) := by rw [hw2]; exact row_sets_other hBX _ _ _ R1.drew
  have X2 : w2.rowIs X 24 c (fun i => if i = n then .pointer none else h i) := by
    rw [hw2]
    refine (row_sets (.pointer none) 1 n _ _ X1.drew).congr fun i _ => ?_
    by_cases e : i = n
    · subst e; rw [if_pos (by omega), if_pos rfl]
    · rw [if_neg (by omega), if_neg e]
  have k2 : Kept (fun b => b = B ∨ b = X) w w2 := by rw [hw2]; exact Kept.sets (Or.inr rfl) _ _ k1.drew
  clear hw2 R1 X1 k1
  have q1 : w2.cell? ⟨B, 1217, none⟩ = some (.slice (some ⟨X, 0, none⟩) (n + 1) c) := by rw [R2.cell (by omega), ← HF.out.2.1]; rfl
  have q2 := R2.frozen 1217
  have R3 := R2.set 1217 (.slice (some ⟨X, 0, none⟩) n c)
  have X3 := X2.setOther (a := ⟨B, 1217, none⟩) (fun e => hBX e.symm) (.slice (some ⟨X, 0, none⟩) n c)
  have k3 := k2.set (Or.inl rfl) 1217 (.slice (some ⟨X, 0, none⟩) n c)
  go_wp2
  clear R2 X2 k2
  have q3 : (w2.setCell ⟨B, 1217, none⟩ (.slice (some ⟨X, 0, none⟩) n c)).drew.cell? ⟨B, 1218, none⟩ = some u := by rw [R3.drew.cell (by omega), ← HF.out.2.2]; rfl
  have q4 := R3.drew.frozen 1218
  have hwr : IntKind.i32.wrap (n : Int) = (n : Int) := by rw [IntKind.wrap_i32]; omega
  refine Code.wp_mono NP.le ?_
  go_region_with (go_at_call 14; refine (Atom.i32Store B 1218 n u _ q3 q4).mono ?_; rintro e w' ⟨rfl, rfl⟩)
  refine NP.normal ?_
  have R4 := (R3.set 1218 (.int .i32 n)).drew
  have X4 := (X3.setOther (a := ⟨B, 1218, none⟩) (fun e => hBX e.symm) (.int .i32 n)).drew
  have k4 := (k3.set (Or.inl rfl) 1218 (.int .i32 n)).drew
  have l4 : ((w2.setCell ⟨B, 1217, none⟩ (.slice (some ⟨X, 0, none⟩) n c)).setCell ⟨B, 1218, none⟩ (.int .i32 n)).drew.cell? ⟨B, 1, none⟩ = some (.int .i32 1) := by rw [R4.cell (by omega)]; rfl
  have z4 := R4.frozen 1
  have R5 := R4.set 1 (.int .i32 0)
  have X5 := X4.setOther (a := ⟨B, 1, none⟩) (fun e => hBX e.symm) (.int .i32 0)
  have k5 := k4.set (Or.inl rfl) 1 (.int .i32 0)
  have F1 := HF.out.1
  have R6 := R5.congr (g := fun i => if i = 1218 then .int .i32 n else if i = 1217 then .slice (some ⟨X, 0, none⟩) n c else f i) (fun i _ => by
    show (if i = 1 then Value.int .i32 0 else if i = 1218 then .int .i32 n else if i = 1217 then .slice (some ⟨X, 0, none⟩) n c else if i = 1 then .int .i32 1 else f i) = (if i = 1218 then Value.int .i32 n else if i = 1217 then .slice (some ⟨X, 0, none⟩) n c else f i)
    by_cases e : i = 1
    · subst e; rw [if_pos rfl, if_neg (by omega), if_neg (by omega), F1]
    · rw [if_neg e]
      by_cases e2 : i = 1218
      · rw [if_pos e2, if_pos e2]
      · rw [if_neg e2, if_neg e2]
        by_cases e3 : i = 1217
        · rw [if_pos e3, if_pos e3]
        · rw [if_neg e3, if_neg e3, if_neg e])
  clear R3 X3 k3 R4 X4 k4 R5 q1 q2 q3 q4 F1
  go_wp2
  generalize ((w2.setCell ⟨B, 1217, none⟩ (.slice (some ⟨X, 0, none⟩) n c)).setCell ⟨B, 1218, none⟩ (.int .i32 n)).drew = w4 at *
  refine leaves_cons (f := 38) (args := #[.pointer (some ⟨B, 1, none⟩)]) (by simp) (by simp [go_sem]) ?_
  refine (Go.MuLone.unlock_deferred Yba.muLib ⟨B, 1, none⟩ .returning _ l4 z4).mono ?_
  rintro e u' w'' ⟨rfl, rfl, rfl⟩
  exact ⟨_, results_tmp rfl _ _ _, rfl, k5, R6, X5⟩

end Go.Proofs.Ybulksnw.Park
