import Derived.Test.YbulksnwReclaimC
namespace Go.Proofs.Ybulksnw.Recl
open Go.RowKit

theorem lt_of_cell {w : World} {b o : Nat} {v : Value} (h : w.cell? ⟨b, o, none⟩ = some v) : b < w.heap.size := by
  simp only [World.cell?] at h
  split at h
  · rename_i hb
    obtain ⟨hlt, _⟩ := Array.getElem?_eq_some_iff.1 hb
    exact hlt
  · cases h

theorem Lst.later {W w : World} {a : Option Addr} {len : Nat} {L : Nat → Bool} (h : Lst W a len L) (hb : Below W.heap.size W w) : Lst w a len L := by
  rcases h with h | ⟨b, off, ha, hc⟩
  · exact .inl h
  · refine .inr ⟨b, off, ha, fun j hj => ?_⟩
    have := hc j hj
    rw [hb.cell (p := ⟨b, off + j, none⟩) (lt_of_cell this)]
    exact this

/-- The worker's cells that matter. -/
def WK (w : World) (S : Nat) (cv sv : Value) (hd : Int) : Prop := ∃ f, w.rowIs S 58 25 f ∧ f 7 = cv ∧ f 8 = sv ∧ f 10 = .int .u32 0 ∧ f 11 = .int .u32 0 ∧ f 15 = .int .u64 0 ∧ f 17 = .int .u64 hd

/-- j holdings have been made. -/
structure B1 (W w : World) (S n j : Nat) (h tH : Int) (F : Nat → Bool) : Prop where
  bel : Below W.heap.size W w
  hWS : W.heap.size ≤ S
  wk : WK w S (.pointer none) (.slice none 0 0) h
  hs : w.rowIs (S + 1) 39 n (fun i => if i < j then .pointer (some ⟨S + 2 + i, 0, none⟩) else .pointer none)
  hg : ∀ i, i < j → ∃ f, w.rowIs (S + 2 + i) 62 4 f ∧ f 1 = .int .u64 tH ∧ f 2 = .bool (F i)
  sz : w.heap.size = S + 2 + j

theorem B1.start (W : World) (n : Nat) (h tH : Int) (F : Nat → Bool) :
    B1 W ((W.alloc (.cells ((wcells W.heap.size (.pointer none)).setIfInBounds 17 (.int .u64 h)) 58)).alloc (.cells (madeCells #[.pointer none] n) 39)) W.heap.size n 0 h tH F := by
  refine ⟨((Below.refl _ W).alloc (Nat.le_refl _) _).alloc (by rw [World.size_alloc]; omega) _, Nat.le_refl _, ?_, ?_, fun i hi => by omega, by rw [World.size_alloc, World.size_alloc]⟩
  · have R := World.rowIs_alloc W ((wcells W.heap.size (.pointer none)).setIfInBounds 17 (.int .u64 h)) 58 (fun i => (((wcells W.heap.size (.pointer none)).setIfInBounds 17 (.int .u64 h))[i]?).getD .nilIface) (fun i hi => by rw [Array.getElem?_eq_getElem hi]; rfl)
    exact ⟨_, R.alloc _, rfl, rfl, rfl, rfl, rfl, rfl⟩
  · have R := World.rowIs_made (W.alloc (.cells ((wcells W.heap.size (.pointer none)).setIfInBounds 17 (.int .u64 h)) 58)) (.pointer none) n 39
    rw [World.size_alloc] at R
    exact R.congr fun i _ => by rw [if_neg (by omega)]

theorem B1.step {W w : World} {S n j : Nat} {h tH : Int} {F : Nat → Bool} (B : B1 W w S n j h tH F) (_hj : j < n) :
    B1 W ((w.setCell ⟨S + 1, j, none⟩ (.pointer (some ⟨w.heap.size, 0, none⟩))).alloc (.cells #[.pointer (some ⟨S, 0, none⟩), .int .u64 tH, .bool (F j), .bool false] 62)) S n (j + 1) h tH F := by
  have hs := B.sz
  have hW := B.hWS
  have hsz : (w.setCell ⟨S + 1, j, none⟩ (.pointer (some ⟨w.heap.size, 0, none⟩))).heap.size = S + 2 + j := by simp [World.setCell, hs]
  refine ⟨(B.bel.setCell (p := ⟨S + 1, j, none⟩) (by show W.heap.size ≤ S + 1; omega) _).alloc (by rw [hsz]; omega) _, B.hWS, ?_, ?_, ?_, ?_⟩
  · obtain ⟨f, hr, q⟩ := B.wk
    exact ⟨f, (hr.setOther (a := ⟨S + 1, j, none⟩) (by show S ≠ S + 1; omega) _).alloc _, q⟩
  · refine ((B.hs.set j _).alloc _).congr fun i _ => ?_
    rw [hs]
    show (if i = j then _ else if i < j then _ else _) = _
    by_cases e : i = j
    · subst e; rw [if_pos rfl, if_pos (by omega)]
    · rw [if_neg e]
      by_cases e2 : i < j
      · rw [if_pos e2, if_pos (by omega)]
      · rw [if_neg e2, if_neg (by omega)]
  · intro i hi
    by_cases e : i = j
    · subst e
      have R := World.rowIs_alloc (w.setCell ⟨S + 1, i, none⟩ (.pointer (some ⟨w.heap.size, 0, none⟩))) #[.pointer (some ⟨S, 0, none⟩), .int .u64 tH, .bool (F i), .bool false] 62 (fun k => (#[.pointer (some ⟨S, 0, none⟩), .int .u64 tH, .bool (F i), .bool false][k]?).getD .nilIface) (fun k hk => by rw [Array.getElem?_eq_getElem hk]; rfl)
      rw [hsz] at R
      exact ⟨_, R, rfl, rfl⟩
    · obtain ⟨f, hr, q⟩ := B.hg i (by omega)
      exact ⟨f, (hr.setOther (a := ⟨S + 1, j, none⟩) (by show S + 2 + i ≠ S + 1; omega) _).alloc _, q⟩
  · rw [World.size_alloc, hsz]; omega

/-- All holdings are there, and the current one. -/
structure B2 (W w : World) (S n : Nat) (oc : Option Nat) (cl : Bool) (cv sv : Value) (h tH : Int) (F : Nat → Bool) : Prop where
  bel : Below W.heap.size W w
  hWS : W.heap.size ≤ S
  wk : WK w S cv sv h
  hs : w.rowIs (S + 1) 39 n (fun i => .pointer (some ⟨S + 2 + i, 0, none⟩))
  hg : ∀ i, i < n → ∃ f, w.rowIs (S + 2 + i) 62 4 f ∧ f 1 = .int .u64 tH ∧ f 2 = .bool (F i)
  cu : ∀ C, oc = some C → S < C ∧ (∀ i, i < n → C ≠ S + 2 + i) ∧ ∃ f, w.rowIs C 62 4 f ∧ f 2 = .bool cl

theorem B1.bare {W w : World} {S n : Nat} {h tH : Int} {F : Nat → Bool} (B : B1 W w S n n h tH F) (cl : Bool) : B2 W w S n none cl (.pointer none) (.slice none 0 0) h tH F :=
  ⟨B.bel, B.hWS, B.wk, B.hs.congr fun i hi => if_pos hi, B.hg, fun C e => by cases e⟩

theorem B1.cur {W w : World} {S n : Nat} {h tH : Int} {F : Nat → Bool} (B : B1 W w S n n h tH F) (cl : Bool) :
    B2 W (w.alloc (.cells #[.pointer (some ⟨S, 0, none⟩), .int .u64 0, .bool cl, .bool false] 62)) S n (some w.heap.size) cl (.pointer none) (.slice none 0 0) h tH F := by
  have hs := B.sz
  refine ⟨B.bel.alloc (by have := B.bel.size; omega) _, B.hWS, ?_, (B.hs.congr fun i hi => if_pos hi).alloc _, ?_, ?_⟩
  · obtain ⟨f, hr, q⟩ := B.wk
    exact ⟨f, hr.alloc _, q⟩
  · intro i hi
    obtain ⟨f, hr, q⟩ := B.hg i hi
    exact ⟨f, hr.alloc _, q⟩
  · intro C e
    obtain rfl : w.heap.size = C := by simpa using e
    have R := World.rowIs_alloc w #[.pointer (some ⟨S, 0, none⟩), .int .u64 0, .bool cl, .bool false] 62 (fun k => (#[.pointer (some ⟨S, 0, none⟩), .int .u64 0, .bool cl, .bool false][k]?).getD .nilIface) (fun k hk => by rw [Array.getElem?_eq_getElem hk]; rfl)
    exact ⟨by omega, fun i hi => by omega, _, R, rfl⟩

theorem B2.s7 {W w : World} {S n : Nat} {oc : Option Nat} {cl : Bool} {cv sv : Value} {h tH : Int} {F : Nat → Bool} (B : B2 W w S n oc cl cv sv h tH F) (v : Value) : B2 W (w.setCell ⟨S, 7, none⟩ v) S n oc cl v sv h tH F := by
  refine ⟨B.bel.setCell (p := ⟨S, 7, none⟩) B.hWS v, B.hWS, ?_, B.hs.setOther (a := ⟨S, 7, none⟩) (by show S + 1 ≠ S; omega) v, ?_, ?_⟩
  · obtain ⟨f, hr, h7, h8, h10, h11, h15, h17⟩ := B.wk
    exact ⟨_, hr.set 7 v, by simp, by simp [h8], by simp [h10], by simp [h11], by simp [h15], by simp [h17]⟩
  · intro i hi
    obtain ⟨f, hr, q⟩ := B.hg i hi
    exact ⟨f, hr.setOther (a := ⟨S, 7, none⟩) (by show S + 2 + i ≠ S; omega) v, q⟩
  · intro C e
    obtain ⟨g1, g2, f, hr, q⟩ := B.cu C e
    exact ⟨g1, g2, f, hr.setOther (a := ⟨S, 7, none⟩) (by show C ≠ S; omega) v, q⟩

theorem clone_b2 {W w : World} {S n : Nat} {oc : Option Nat} {cl : Bool} {cv sv : Value} {h tH : Int} {F : Nat → Bool} (B : B2 W w S n oc cl cv sv h tH F) (hn : n ≤ 2000) (h0 : 1 ≤ n) :
    Calls Yba.prog 11 #[.slice (some ⟨S + 1, 0, none⟩) n n] w fun e w' => ∃ X c, e = .returned (.slice (some ⟨X, 0, none⟩) n c) ∧ RS W w' S n X c n oc cl cv sv (.int .u64 0) h (fun _ => tH) F := by
  refine (clone_any (S + 1) n _ w B.hs (fun i _ => rfl) hn h0).mono ?_
  rintro e w' ⟨c, rfl, hc, hx, hb, hz⟩
  have hlt := B.hs.lt
  have hsz := B.bel.size
  refine ⟨w.heap.size + 1, c, rfl, ?_, B.hWS, hc, by omega, ?_, B.hs.of_block (hb.block _ hlt), ?_, hx, ?_⟩
  · exact B.bel.trans (hb.mono hsz)
  · obtain ⟨f, hr, q⟩ := B.wk
    exact ⟨f, hr.of_block (hb.block _ hr.lt), q⟩
  · intro i hi
    obtain ⟨f, hr, q⟩ := B.hg i hi
    exact ⟨f, hr.of_block (hb.block _ hr.lt), q⟩
  · intro C e
    obtain ⟨g1, g2, f, hr, q⟩ := B.cu C e
    exact ⟨g1, g2, f, hr.of_block (hb.block _ hr.lt), q⟩

theorem B2.c7 {W w : World} {S n : Nat} {oc : Option Nat} {cl : Bool} {cv sv : Value} {h tH : Int} {F : Nat → Bool} (B : B2 W w S n oc cl cv sv h tH F) : w.cell? ⟨S, 7, none⟩ = some cv ∧ w.frozen? ⟨S, 7, none⟩ = false := by
  obtain ⟨f, hr, h7, h8, h10, h11, h15, h17⟩ := B.wk
  exact ⟨by rw [hr.cell (by omega), h7], hr.frozen _⟩

theorem wrap_two (h : Int) : IntKind.u64.wrap (IntKind.u64.wrap (h + 1) + 1) = IntKind.u64.wrap (h + 2) := by
  simp only [IntKind.wrap_u64]
  omega
end Go.Proofs.Ybulksnw.Recl
