import Derived.Test.YbulksnwPushFull
import Derived.Test.YbulksnwPopMid
namespace Go.Proofs.Ybulksnw.Queue
open Go.RowKit

theorem row_ne {w : World} {a b t t' n m : Nat} {f f' : Nat → Value} (h1 : w.rowIs a t n f) (h2 : w.rowIs b t' m f') (ht : t ≠ t') : a ≠ b := by
  rintro rfl
  obtain ⟨c, h, _⟩ := h1
  obtain ⟨c', h', _⟩ := h2
  rw [h] at h'
  simp at h'
  exact ht h'.2

/-- The i-th task's block, the j-th queue block: by the number of the group's block. -/
def Tk (g k : Nat) : Nat := g + 1 + k + (k + 509) / 510
def Bq (g j : Nat) : Nat := g + 2 + 511 * j
abbrev tv (t : Nat) : Value := .iface 113 (.pointer (some ⟨t, 0, none⟩))

/-- The group in its block. -/
def GI (w : World) (g : Nat) (cx : Value) (pen lim adm : Int) (hd tl : Value) (fi n sk : Int) : Prop :=
  ∃ f, w.rowIs g 100 25 f ∧ f 1 = cx ∧ f 13 = .int .i64 pen ∧ f 15 = .int .i64 lim ∧ f 16 = .int .i64 adm ∧ f 17 = hd ∧ f 18 = tl ∧ f 19 = .int .i64 fi ∧ f 20 = .int .i64 n ∧ f 23 = .int .u32 sk

namespace GI
variable {w : World} {g : Nat} {cx : Value} {pen lim adm : Int} {hd tl : Value} {fi n sk : Int}
theorem c1 (h : GI w g cx pen lim adm hd tl fi n sk) : w.cell? ⟨g, 1, none⟩ = some cx := by
  obtain ⟨f, hr, h1, h13, h15, h16, h17, h18, h19, h20, h23⟩ := h
  rw [hr.cell (by omega), h1]
theorem c13 (h : GI w g cx pen lim adm hd tl fi n sk) : w.cell? ⟨g, 13, none⟩ = some (.int .i64 pen) := by
  obtain ⟨f, hr, h1, h13, h15, h16, h17, h18, h19, h20, h23⟩ := h
  rw [hr.cell (by omega), h13]
theorem c15 (h : GI w g cx pen lim adm hd tl fi n sk) : w.cell? ⟨g, 15, none⟩ = some (.int .i64 lim) := by
  obtain ⟨f, hr, h1, h13, h15, h16, h17, h18, h19, h20, h23⟩ := h
  rw [hr.cell (by omega), h15]
theorem c16 (h : GI w g cx pen lim adm hd tl fi n sk) : w.cell? ⟨g, 16, none⟩ = some (.int .i64 adm) := by
  obtain ⟨f, hr, h1, h13, h15, h16, h17, h18, h19, h20, h23⟩ := h
  rw [hr.cell (by omega), h16]
theorem c17 (h : GI w g cx pen lim adm hd tl fi n sk) : w.cell? ⟨g, 17, none⟩ = some hd := by
  obtain ⟨f, hr, h1, h13, h15, h16, h17, h18, h19, h20, h23⟩ := h
  rw [hr.cell (by omega), h17]
theorem c18 (h : GI w g cx pen lim adm hd tl fi n sk) : w.cell? ⟨g, 18, none⟩ = some tl := by
  obtain ⟨f, hr, h1, h13, h15, h16, h17, h18, h19, h20, h23⟩ := h
  rw [hr.cell (by omega), h18]
theorem c19 (h : GI w g cx pen lim adm hd tl fi n sk) : w.cell? ⟨g, 19, none⟩ = some (.int .i64 fi) := by
  obtain ⟨f, hr, h1, h13, h15, h16, h17, h18, h19, h20, h23⟩ := h
  rw [hr.cell (by omega), h19]
theorem c20 (h : GI w g cx pen lim adm hd tl fi n sk) : w.cell? ⟨g, 20, none⟩ = some (.int .i64 n) := by
  obtain ⟨f, hr, h1, h13, h15, h16, h17, h18, h19, h20, h23⟩ := h
  rw [hr.cell (by omega), h20]
theorem c23 (h : GI w g cx pen lim adm hd tl fi n sk) : w.cell? ⟨g, 23, none⟩ = some (.int .u32 sk) := by
  obtain ⟨f, hr, h1, h13, h15, h16, h17, h18, h19, h20, h23⟩ := h
  rw [hr.cell (by omega), h23]
theorem fz (h : GI w g cx pen lim adm hd tl fi n sk) (i : Nat) : w.frozen? ⟨g, i, none⟩ = false := by
  obtain ⟨f, hr, _⟩ := h
  exact hr.frozen i
theorem lt (h : GI w g cx pen lim adm hd tl fi n sk) : g < w.heap.size := by
  obtain ⟨f, hr, _⟩ := h
  exact hr.lt
theorem ne (h : GI w g cx pen lim adm hd tl fi n sk) {b t m : Nat} {f' : Nat → Value} (h2 : w.rowIs b t m f') (ht : t ≠ 100) : b ≠ g := by
  obtain ⟨f, hr, _⟩ := h
  exact row_ne h2 hr ht
theorem s13 (h : GI w g cx pen lim adm hd tl fi n sk) (x : Int) : GI (w.setCell ⟨g, 13, none⟩ (.int .i64 x)) g cx x lim adm hd tl fi n sk := by
  obtain ⟨f, hr, h1, h13, h15, h16, h17, h18, h19, h20, h23⟩ := h
  exact ⟨_, hr.set 13 _, by simp [h1], by simp, by simp [h15], by simp [h16], by simp [h17], by simp [h18], by simp [h19], by simp [h20], by simp [h23]⟩
theorem s16 (h : GI w g cx pen lim adm hd tl fi n sk) (x : Int) : GI (w.setCell ⟨g, 16, none⟩ (.int .i64 x)) g cx pen lim x hd tl fi n sk := by
  obtain ⟨f, hr, h1, h13, h15, h16, h17, h18, h19, h20, h23⟩ := h
  exact ⟨_, hr.set 16 _, by simp [h1], by simp [h13], by simp [h15], by simp, by simp [h17], by simp [h18], by simp [h19], by simp [h20], by simp [h23]⟩
theorem s17 (h : GI w g cx pen lim adm hd tl fi n sk) (x : Value) : GI (w.setCell ⟨g, 17, none⟩ x) g cx pen lim adm x tl fi n sk := by
  obtain ⟨f, hr, h1, h13, h15, h16, h17, h18, h19, h20, h23⟩ := h
  exact ⟨_, hr.set 17 _, by simp [h1], by simp [h13], by simp [h15], by simp [h16], by simp, by simp [h18], by simp [h19], by simp [h20], by simp [h23]⟩
theorem s18 (h : GI w g cx pen lim adm hd tl fi n sk) (x : Value) : GI (w.setCell ⟨g, 18, none⟩ x) g cx pen lim adm hd x fi n sk := by
  obtain ⟨f, hr, h1, h13, h15, h16, h17, h18, h19, h20, h23⟩ := h
  exact ⟨_, hr.set 18 _, by simp [h1], by simp [h13], by simp [h15], by simp [h16], by simp [h17], by simp, by simp [h19], by simp [h20], by simp [h23]⟩
theorem s19 (h : GI w g cx pen lim adm hd tl fi n sk) (x : Int) : GI (w.setCell ⟨g, 19, none⟩ (.int .i64 x)) g cx pen lim adm hd tl x n sk := by
  obtain ⟨f, hr, h1, h13, h15, h16, h17, h18, h19, h20, h23⟩ := h
  exact ⟨_, hr.set 19 _, by simp [h1], by simp [h13], by simp [h15], by simp [h16], by simp [h17], by simp [h18], by simp, by simp [h20], by simp [h23]⟩
theorem s20 (h : GI w g cx pen lim adm hd tl fi n sk) (x : Int) : GI (w.setCell ⟨g, 20, none⟩ (.int .i64 x)) g cx pen lim adm hd tl fi x sk := by
  obtain ⟨f, hr, h1, h13, h15, h16, h17, h18, h19, h20, h23⟩ := h
  exact ⟨_, hr.set 20 _, by simp [h1], by simp [h13], by simp [h15], by simp [h16], by simp [h17], by simp [h18], by simp [h19], by simp, by simp [h23]⟩
theorem s23 (h : GI w g cx pen lim adm hd tl fi n sk) (x : Int) : GI (w.setCell ⟨g, 23, none⟩ (.int .u32 x)) g cx pen lim adm hd tl fi n x := by
  obtain ⟨f, hr, h1, h13, h15, h16, h17, h18, h19, h20, h23⟩ := h
  exact ⟨_, hr.set 23 _, by simp [h1], by simp [h13], by simp [h15], by simp [h16], by simp [h17], by simp [h18], by simp [h19], by simp [h20], by simp⟩
theorem other (h : GI w g cx pen lim adm hd tl fi n sk) {b i : Nat} (hb : b ≠ g) (v : Value) : GI (w.setCell ⟨b, i, none⟩ v) g cx pen lim adm hd tl fi n sk := by
  obtain ⟨f, hr, r⟩ := h
  exact ⟨f, hr.setOther (fun e => hb e.symm) v, r⟩
theorem alloc (h : GI w g cx pen lim adm hd tl fi n sk) (o : Obj) : GI (w.alloc o) g cx pen lim adm hd tl fi n sk := by
  obtain ⟨f, hr, r⟩ := h
  exact ⟨f, hr.alloc o, r⟩
theorem drew (h : GI w g cx pen lim adm hd tl fi n sk) : GI w.drew g cx pen lim adm hd tl fi n sk := h
end GI

/-- The queue's blocks and the tasks. -/
structure QI (w : World) (g lo hi : Nat) : Prop where
  blk : ∀ j, 510 * j < hi → ∃ h, w.rowIs (Bq g j) 168 512 h ∧ (∀ i, i < 510 → lo ≤ 510 * j + i → 510 * j + i < hi → h i = tv (Tk g (510 * j + i))) ∧ h 510 = .int .i64 ((min 510 (hi - 510 * j) : Nat) : Int) ∧
    h 511 = (if 510 * (j + 1) < hi then .pointer (some ⟨Bq g (j + 1), 0, none⟩) else .pointer none)
  tsk : ∀ i, i < hi → w.rowIs (Tk g i) 116 1 (fun _ => .int .i64 (i : Int))

theorem QI.other {w : World} {g lo hi b i : Nat} (q : QI w g lo hi) (v : Value) (h1 : ∀ j, 510 * j < hi → Bq g j ≠ b) (h2 : ∀ k, k < hi → Tk g k ≠ b) : QI (w.setCell ⟨b, i, none⟩ v) g lo hi :=
  ⟨fun j hj => by obtain ⟨h, hr, r⟩ := q.blk j hj; exact ⟨h, hr.setOther (h1 j hj) v, r⟩, fun k hk => (q.tsk k hk).setOther (h2 k hk) v⟩
theorem QI.grp {w : World} {g lo hi i : Nat} (q : QI w g lo hi) (v : Value) : QI (w.setCell ⟨g, i, none⟩ v) g lo hi :=
  q.other v (fun j _ => by unfold Bq; omega) (fun k _ => by unfold Tk; omega)
theorem QI.alloc {w : World} {g lo hi : Nat} (q : QI w g lo hi) (o : Obj) : QI (w.alloc o) g lo hi :=
  ⟨fun j hj => by obtain ⟨h, hr, r⟩ := q.blk j hj; exact ⟨h, hr.alloc o, r⟩, fun k hk => (q.tsk k hk).alloc o⟩
theorem QI.drew {w : World} {g lo hi : Nat} (q : QI w g lo hi) : QI w.drew g lo hi := ⟨q.blk, q.tsk⟩

def hdv (g lo hi : Nat) : Value := if hi = 0 then .pointer none else .pointer (some ⟨Bq g (lo / 510), 0, none⟩)
def tlv (g hi : Nat) : Value := if hi = 0 then .pointer none else .pointer (some ⟨Bq g ((hi - 1) / 510), 0, none⟩)

structure QInv (W w : World) (g c : Nat) (ev : Value) (pen lim adm sk : Int) (lo hi : Nat) : Prop where
  gr : Grown W w
  hW : W.heap.size ≤ c
  cg : c < g
  gi : GI w g (.iface 147 (.pointer (some ⟨c, 0, none⟩))) pen lim adm (hdv g lo hi) (tlv g hi) ((lo % 510 : Nat) : Int) ((hi - lo : Nat) : Int) sk
  cr : w.rowIs c 149 1 (fun _ => ev)
  qi : QI w g lo hi
  sz : w.heap.size = g + 1 + hi + (hi + 509) / 510

end Go.Proofs.Ybulksnw.Queue
