import Derived.Test.YbulksnwCond
namespace Go.Proofs.Ybulksnw.Recl
open Go.RowKit

theorem row_ne {w : World} {a b t t' n m : Nat} {f f' : Nat → Value} (h1 : w.rowIs a t n f) (h2 : w.rowIs b t' m f') (ht : t ≠ t') : a ≠ b := by
  rintro rfl
  obtain ⟨c, h, _⟩ := h1
  obtain ⟨c', h', _⟩ := h2
  rw [h] at h'
  simp at h'
  exact ht h'.2

/-- The worker (block S), the slice of holdings (S + 1), the holdings (from S + 2 on), the current one (block oc, if any), the suspended ones' row (X). -/
structure RS (W w : World) (S n X c m : Nat) (oc : Option Nat) (cl : Bool) (cv sv ck : Value) (hd : Int) (ho : Nat → Int) (lo : Nat → Bool) : Prop where
  bel : Below W.heap.size W w
  hWS : W.heap.size ≤ S
  nc : n ≤ c
  xs : S + 1 < X
  wk : ∃ f, w.rowIs S 58 25 f ∧ f 7 = cv ∧ f 8 = sv ∧ f 10 = .int .u32 0 ∧ f 11 = .int .u32 0 ∧ f 15 = ck ∧ f 17 = .int .u64 hd
  hs : w.rowIs (S + 1) 39 n (fun i => .pointer (some ⟨S + 2 + i, 0, none⟩))
  hg : ∀ i, i < n → ∃ f, w.rowIs (S + 2 + i) 62 4 f ∧ f 1 = .int .u64 (ho i) ∧ f 2 = .bool (lo i)
  xr : w.rowIs X 39 c (fun i => if i < m then .pointer (some ⟨S + 2 + i, 0, none⟩) else .pointer none)
  cu : ∀ C, oc = some C → S < C ∧ (∀ i, i < n → C ≠ S + 2 + i) ∧ ∃ f, w.rowIs C 62 4 f ∧ f 2 = .bool cl

namespace RS
variable {W w : World} {S n X c m : Nat} {oc : Option Nat} {cl : Bool} {cv sv ck : Value} {hd : Int} {ho : Nat → Int} {lo : Nat → Bool}

theorem c7 (h : RS W w S n X c m oc cl cv sv ck hd ho lo) : w.cell? ⟨S, 7, none⟩ = some cv := by
  obtain ⟨f, hr, h7, h8, h10, h11, h15, h17⟩ := h.wk
  rw [hr.cell (by omega), h7]
theorem c8 (h : RS W w S n X c m oc cl cv sv ck hd ho lo) : w.cell? ⟨S, 8, none⟩ = some sv := by
  obtain ⟨f, hr, h7, h8, h10, h11, h15, h17⟩ := h.wk
  rw [hr.cell (by omega), h8]
theorem c10 (h : RS W w S n X c m oc cl cv sv ck hd ho lo) : w.cell? ⟨S, 10, none⟩ = some (.int .u32 0) := by
  obtain ⟨f, hr, h7, h8, h10, h11, h15, h17⟩ := h.wk
  rw [hr.cell (by omega), h10]
theorem c11 (h : RS W w S n X c m oc cl cv sv ck hd ho lo) : w.cell? ⟨S, 11, none⟩ = some (.int .u32 0) := by
  obtain ⟨f, hr, h7, h8, h10, h11, h15, h17⟩ := h.wk
  rw [hr.cell (by omega), h11]
theorem c15 (h : RS W w S n X c m oc cl cv sv ck hd ho lo) : w.cell? ⟨S, 15, none⟩ = some ck := by
  obtain ⟨f, hr, h7, h8, h10, h11, h15, h17⟩ := h.wk
  rw [hr.cell (by omega), h15]
theorem c17 (h : RS W w S n X c m oc cl cv sv ck hd ho lo) : w.cell? ⟨S, 17, none⟩ = some (.int .u64 hd) := by
  obtain ⟨f, hr, h7, h8, h10, h11, h15, h17⟩ := h.wk
  rw [hr.cell (by omega), h17]
theorem fz (h : RS W w S n X c m oc cl cv sv ck hd ho lo) (i : Nat) : w.frozen? ⟨S, i, none⟩ = false := by
  obtain ⟨f, hr, _⟩ := h.wk
  exact hr.frozen i
theorem h1 (h : RS W w S n X c m oc cl cv sv ck hd ho lo) {i : Nat} (hi : i < n) : w.cell? ⟨S + 2 + i, 1, none⟩ = some (.int .u64 (ho i)) := by
  obtain ⟨f, hr, h1, h2⟩ := h.hg i hi
  rw [hr.cell (by omega), h1]
theorem h2 (h : RS W w S n X c m oc cl cv sv ck hd ho lo) {i : Nat} (hi : i < n) : w.cell? ⟨S + 2 + i, 2, none⟩ = some (.bool (lo i)) := by
  obtain ⟨f, hr, h1, h2⟩ := h.hg i hi
  rw [hr.cell (by omega), h2]
theorem hz (h : RS W w S n X c m oc cl cv sv ck hd ho lo) {i : Nat} (hi : i < n) (j : Nat) : w.frozen? ⟨S + 2 + i, j, none⟩ = false := by
  obtain ⟨f, hr, h1, h2⟩ := h.hg i hi
  exact hr.frozen j
theorem hsc (h : RS W w S n X c m oc cl cv sv ck hd ho lo) {i : Nat} (hi : i < n) : w.cell? ⟨S + 1, i, none⟩ = some (.pointer (some ⟨S + 2 + i, 0, none⟩)) := h.hs.cell hi
theorem xc (h : RS W w S n X c m oc cl cv sv ck hd ho lo) {i : Nat} (hi : i < m) (hm : m ≤ n) : w.cell? ⟨X, i, none⟩ = some (.pointer (some ⟨S + 2 + i, 0, none⟩)) := by
  rw [h.xr.cell (by have := h.nc; omega), if_pos hi]

theorem drew (h : RS W w S n X c m oc cl cv sv ck hd ho lo) : RS W w.drew S n X c m oc cl cv sv ck hd ho lo :=
  ⟨h.bel.drew, h.hWS, h.nc, h.xs, h.wk, h.hs, h.hg, h.xr, h.cu⟩

/-- A store into the worker. -/
theorem wset (h : RS W w S n X c m oc cl cv sv ck hd ho lo) (i : Nat) (v cv' sv' ck' : Value) (hd' : Int)
    (e : ∀ f : Nat → Value, f 7 = cv → f 8 = sv → f 10 = .int .u32 0 → f 11 = .int .u32 0 → f 15 = ck → f 17 = .int .u64 hd →
      (if 7 = i then v else f 7) = cv' ∧ (if 8 = i then v else f 8) = sv' ∧ (if 10 = i then v else f 10) = .int .u32 0 ∧ (if 11 = i then v else f 11) = .int .u32 0 ∧ (if 15 = i then v else f 15) = ck' ∧ (if 17 = i then v else f 17) = .int .u64 hd') :
    RS W (w.setCell ⟨S, i, none⟩ v) S n X c m oc cl cv' sv' ck' hd' ho lo := by
  have hx := h.xs
  refine ⟨h.bel.setCell (p := ⟨S, i, none⟩) h.hWS v, h.hWS, h.nc, h.xs, ?_, h.hs.setOther (a := ⟨S, i, none⟩) (by show S + 1 ≠ S; omega) v, ?_, h.xr.setOther (a := ⟨S, i, none⟩) (by show X ≠ S; omega) v, ?_⟩
  · obtain ⟨f, hr, h7, h8, h10, h11, h15, h17⟩ := h.wk
    obtain ⟨e1, e2, e3, e4, e5, e6⟩ := e f h7 h8 h10 h11 h15 h17
    exact ⟨_, hr.set i v, e1, e2, e3, e4, e5, e6⟩
  · intro j hj
    obtain ⟨f, hr, q⟩ := h.hg j hj
    exact ⟨f, hr.setOther (a := ⟨S, i, none⟩) (by show S + 2 + j ≠ S; omega) v, q⟩
  · intro C hC
    obtain ⟨g1, g2, f, hr, q⟩ := h.cu C hC
    exact ⟨g1, g2, f, hr.setOther (a := ⟨S, i, none⟩) (by show C ≠ S; omega) v, q⟩

theorem s7 (h : RS W w S n X c m oc cl cv sv ck hd ho lo) (v : Value) : RS W (w.setCell ⟨S, 7, none⟩ v) S n X c m oc cl v sv ck hd ho lo :=
  h.wset 7 v v sv ck hd fun f h7 h8 h10 h11 h15 h17 => by simp [h8, h10, h11, h15, h17]
theorem s8 (h : RS W w S n X c m oc cl cv sv ck hd ho lo) (v : Value) : RS W (w.setCell ⟨S, 8, none⟩ v) S n X c m oc cl cv v ck hd ho lo :=
  h.wset 8 v cv v ck hd fun f h7 h8 h10 h11 h15 h17 => by simp [h7, h10, h11, h15, h17]
theorem s15 (h : RS W w S n X c m oc cl cv sv ck hd ho lo) (v : Value) : RS W (w.setCell ⟨S, 15, none⟩ v) S n X c m oc cl cv sv v hd ho lo :=
  h.wset 15 v cv sv v hd fun f h7 h8 h10 h11 h15 h17 => by simp [h7, h8, h10, h11, h17]
theorem s17 (h : RS W w S n X c m oc cl cv sv ck hd ho lo) (x : Int) : RS W (w.setCell ⟨S, 17, none⟩ (.int .u64 x)) S n X c m oc cl cv sv ck x ho lo :=
  h.wset 17 _ cv sv ck x fun f h7 h8 h10 h11 h15 h17 => by simp [h7, h8, h10, h11, h15]

/-- A store into a holding. -/
theorem hset (h : RS W w S n X c m oc cl cv sv ck hd ho lo) {i : Nat} (hi : i < n) (j : Nat) (v : Value) (ho' : Nat → Int) (lo' : Nat → Bool) (hne : ∀ k, k < n → k ≠ i → ho' k = ho k ∧ lo' k = lo k)
    (e : ∀ f : Nat → Value, f 1 = .int .u64 (ho i) → f 2 = .bool (lo i) → (if 1 = j then v else f 1) = .int .u64 (ho' i) ∧ (if 2 = j then v else f 2) = .bool (lo' i)) :
    RS W (w.setCell ⟨S + 2 + i, j, none⟩ v) S n X c m oc cl cv sv ck hd ho' lo' := by
  have hW := h.hWS
  obtain ⟨fi, hri, q1, q2⟩ := h.hg i hi
  have hxne := row_ne h.xr hri (by decide)
  refine ⟨h.bel.setCell (p := ⟨S + 2 + i, j, none⟩) (by show W.heap.size ≤ S + 2 + i; omega) v, h.hWS, h.nc, h.xs, ?_, h.hs.setOther (a := ⟨S + 2 + i, j, none⟩) (by show S + 1 ≠ S + 2 + i; omega) v, ?_, h.xr.setOther (a := ⟨S + 2 + i, j, none⟩) hxne v, ?_⟩
  · obtain ⟨f, hr, q⟩ := h.wk
    exact ⟨f, hr.setOther (a := ⟨S + 2 + i, j, none⟩) (by show S ≠ S + 2 + i; omega) v, q⟩
  · intro k hk
    by_cases ek : k = i
    · subst ek
      obtain ⟨e1, e2⟩ := e fi q1 q2
      exact ⟨_, hri.set j v, e1, e2⟩
    · obtain ⟨f, hr, r1, r2⟩ := h.hg k hk
      obtain ⟨e1, e2⟩ := hne k hk ek
      exact ⟨f, hr.setOther (a := ⟨S + 2 + i, j, none⟩) (by show S + 2 + k ≠ S + 2 + i; omega) v, by rw [e1]; exact r1, by rw [e2]; exact r2⟩
  · intro C hC
    obtain ⟨g1, g2, f, hr, q⟩ := h.cu C hC
    exact ⟨g1, g2, f, hr.setOther (a := ⟨S + 2 + i, j, none⟩) (g2 i hi) v, q⟩

theorem lost (h : RS W w S n X c m oc cl cv sv ck hd ho lo) {i : Nat} (hi : i < n) (b : Bool) : RS W (w.setCell ⟨S + 2 + i, 2, none⟩ (.bool b)) S n X c m oc cl cv sv ck hd ho (fun k => if k = i then b else lo k) :=
  h.hset hi 2 _ ho _ (fun k _ e => ⟨rfl, if_neg e⟩) fun f h1 h2 => by simp [h1]
theorem hold (h : RS W w S n X c m oc cl cv sv ck hd ho lo) {i : Nat} (hi : i < n) (x : Int) : RS W (w.setCell ⟨S + 2 + i, 1, none⟩ (.int .u64 x)) S n X c m oc cl cv sv ck hd (fun k => if k = i then x else ho k) lo :=
  h.hset hi 1 _ _ lo (fun k _ e => ⟨if_neg e, rfl⟩) fun f h1 h2 => by simp [h2]

/-- The current one is told that it has lost the worker. -/
theorem curLost {C : Nat} (h : RS W w S n X c m (some C) cl cv sv ck hd ho lo) (b : Bool) : RS W (w.setCell ⟨C, 2, none⟩ (.bool b)) S n X c m (some C) b cv sv ck hd ho lo := by
  have hW := h.hWS
  obtain ⟨g1, g2, fC, hrC, qC⟩ := h.cu C rfl
  have hxne := row_ne h.xr hrC (by decide)
  have hsne := row_ne h.hs hrC (by decide)
  refine ⟨h.bel.setCell (p := ⟨C, 2, none⟩) (by show W.heap.size ≤ C; omega) _, h.hWS, h.nc, h.xs, ?_, h.hs.setOther (a := ⟨C, 2, none⟩) hsne _, ?_, h.xr.setOther (a := ⟨C, 2, none⟩) hxne _, ?_⟩
  · obtain ⟨f, hr, q⟩ := h.wk
    exact ⟨f, hr.setOther (a := ⟨C, 2, none⟩) (by show S ≠ C; omega) _, q⟩
  · intro k hk
    obtain ⟨f, hr, q⟩ := h.hg k hk
    exact ⟨f, hr.setOther (a := ⟨C, 2, none⟩) (fun e => g2 k hk e.symm) _, q⟩
  · intro C' hC
    obtain rfl : C = C' := by simpa using hC
    exact ⟨g1, g2, _, hrC.set 2 _, by simp⟩

/-- The suspended row is cut at k. -/
theorem cut (h : RS W w S n X c n oc cl cv sv ck hd ho lo) {k : Nat} (hk : k < n) : RS W (w.setCells X k (List.replicate (n - k) (.pointer none))) S n X c k oc cl cv sv ck hd ho lo := by
  have hW := h.hWS
  have hx := h.xs
  refine ⟨below_sets (by omega) _ _ _ h.bel, h.hWS, h.nc, h.xs, ?_, row_sets_other (by omega) _ _ _ h.hs, ?_, ?_, ?_⟩
  · obtain ⟨f, hr, q⟩ := h.wk
    exact ⟨f, row_sets_other (by omega) _ _ _ hr, q⟩
  · intro j hj
    obtain ⟨f, hr, q⟩ := h.hg j hj
    exact ⟨f, row_sets_other (row_ne hr h.xr (by decide)) _ _ _ hr, q⟩
  · refine (row_sets (.pointer none) (n - k) k w _ h.xr).congr fun j _ => ?_
    by_cases e : k ≤ j ∧ j < k + (n - k)
    · rw [if_pos e, if_neg (by omega)]
    · rw [if_neg e]
      by_cases e2 : j < k
      · rw [if_pos e2, if_pos (by omega)]
      · rw [if_neg e2, if_neg (by omega)]
  · intro C hC
    obtain ⟨g1, g2, f, hr, q⟩ := h.cu C hC
    exact ⟨g1, g2, f, row_sets_other (row_ne hr h.xr (by decide)) _ _ _ hr, q⟩
end RS
end Go.Proofs.Ybulksnw.Recl
