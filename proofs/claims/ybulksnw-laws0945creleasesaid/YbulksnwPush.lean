import Derived.Test.YbulksnwInv
namespace Go.Proofs.Ybulksnw.Queue
open Go.RowKit

theorem row_one (w : World) (x : Value) (t : TypeId) : (w.alloc (.cells #[x] t)).rowIs w.heap.size t 1 (fun _ => x) := by
  refine World.rowIs_alloc w #[x] t _ ?_
  intro i hi
  simp at hi
  subst hi
  rfl

/-- The tasks of a queue with one more at its end. -/
theorem tsk_step {w : World} {g k : Nat} (h : ∀ i, i < k → w.rowIs (Tk g i) 116 1 (fun _ => .int .i64 (i : Int))) (hk : w.rowIs (Tk g k) 116 1 (fun _ => .int .i64 (k : Int))) :
    ∀ i, i < k + 1 → w.rowIs (Tk g i) 116 1 (fun _ => .int .i64 (i : Int)) := by
  intro i hi
  by_cases e : i = k
  · subst e; exact hk
  · exact h i (by omega)

theorem tk_ne_bq {w : World} {g k j lo hi : Nat} (q : QI w g lo hi) (hk : k < hi) (hj : 510 * j < hi) : Tk g k ≠ Bq g j := by
  obtain ⟨h, hr, _⟩ := q.blk j hj
  exact row_ne (q.tsk k hk) hr (by decide)

theorem push_room_inv {W w : World} {g c : Nat} {ev : Value} {pen lim adm sk : Int} {k : Nat} (hk : k ≤ 2000) (hk5 : ¬ k % 510 = 0) (I : QInv W w g c ev pen lim adm sk 0 k) :
    Calls Yba.prog 47 #[.pointer (some ⟨g, 17, none⟩), tv w.heap.size] (w.alloc (.cells #[.int .i64 (k : Int)] 116)) fun ed w' => ed = .returned (.tuple #[]) ∧ QInv W w' g c ev pen lim adm sk 0 (k + 1) := by
  have esz : w.heap.size = Tk g k := by rw [I.sz]; rfl
  have ht0 := row_one w (.int .i64 (k : Int)) 116
  rw [esz] at ht0 ⊢
  have hj : 510 * (k / 510) < k := by omega
  have gi := I.gi.alloc (.cells #[.int .i64 (k : Int)] 116)
  have qi := I.qi.alloc (.cells #[.int .i64 (k : Int)] 116)
  have cr := I.cr.alloc (.cells #[.int .i64 (k : Int)] 116)
  have gr := I.gr.alloc #[.int .i64 (k : Int)] 116
  have sz : (w.alloc (.cells #[.int .i64 (k : Int)] 116)).heap.size = g + 1 + k + (k + 509) / 510 + 1 := by rw [World.size_alloc, I.sz]
  generalize w.alloc (.cells #[.int .i64 (k : Int)] 116) = wt at *
  obtain ⟨h, hr, hv, h510, h511⟩ := qi.blk (k / 510) hj
  have etl : tlv g k = .pointer (some ⟨Bq g (k / 510), 0, none⟩) := by
    unfold tlv
    rw [if_neg (by omega), show (k - 1) / 510 = k / 510 by omega]
  rw [etl] at gi
  have ht := gi.c18
  have hn := gi.c20
  have hend := hr.cell (i := 510) (by omega)
  rw [h510, show min 510 (k - 510 * (k / 510)) = k % 510 by omega] at hend
  have hgb : ¬ g = Bq g (k / 510) := by unfold Bq; omega
  have hne : Bq g (k / 510) ≠ g := fun e => hgb e.symm
  refine (push_room g (Bq g (k / 510)) (k % 510) ((k - 0 : Nat) : Int) 113 (.pointer (some ⟨Tk g k, 0, none⟩)) _ wt hgb (by omega) (by omega) (by omega) ht hend hn (hr.cell (by omega)) hr.frozen gi.fz).mono ?_
  rintro ed w' ⟨rfl, rfl⟩
  refine ⟨rfl, ?_⟩
  have hneT : ∀ i, i < k → Tk g i ≠ Bq g (k / 510) := fun i hi => tk_ne_bq qi hi hj
  have hneK : Tk g k ≠ Bq g (k / 510) := row_ne ht0 hr (by decide)
  have hneC : c ≠ Bq g (k / 510) := row_ne cr hr (by decide)
  have hcg : c ≠ g := by have := I.cg; omega
  have hWc := I.hW
  have hcg' := I.cg
  refine ⟨?_, I.hW, I.cg, ?_, ?_, ⟨?_, ?_⟩, ?_⟩
  · exact (((gr.setCell (by show W.heap.size ≤ Bq g (k / 510); unfold Bq; omega) _).setCell (by show W.heap.size ≤ Bq g (k / 510); unfold Bq; omega) _).setCell (by show W.heap.size ≤ g; omega) _).drew
  · have G := ((gi.other (i := k % 510) hne (tv (Tk g k))).other (i := 510) hne (.int .i64 ((k % 510 : Nat) + 1))).s20 (((k - 0 : Nat) : Int) + 1)
    have e1 : hdv g 0 (k + 1) = hdv g 0 k := by unfold hdv; rw [if_neg (by omega), if_neg (by omega)]
    have e2 : tlv g (k + 1) = .pointer (some ⟨Bq g (k / 510), 0, none⟩) := by unfold tlv; rw [if_neg (by omega)]; simp
    rw [e1, e2]
    have e3 : ((k + 1 - 0 : Nat) : Int) = ((k - 0 : Nat) : Int) + 1 := by omega
    rw [e3]
    exact G.drew
  · exact ((cr.setOther hneC _).setOther hneC _).setOther hcg _
  · intro j hj1
    have hj2 : 510 * j < k := by omega
    by_cases ej : j = k / 510
    · subst ej
      refine ⟨_, ((hr.set (k % 510) _).set 510 _).setOther (a := ⟨g, 20, none⟩) hne _, ?_, ?_, ?_⟩
      · intro i hi h1 h2
        show (if i = 510 then _ else if i = k % 510 then _ else h i) = _
        rw [if_neg (by omega)]
        by_cases ei : i = k % 510
        · rw [if_pos ei, show 510 * (k / 510) + i = k by omega]
        · rw [if_neg ei]
          exact hv i hi h1 (by omega)
      · show (if (510 : Nat) = 510 then _ else _) = _
        rw [if_pos rfl, show min 510 (k + 1 - 510 * (k / 510)) = k % 510 + 1 by omega]
        rfl
      · show (if (511 : Nat) = 510 then _ else if 511 = k % 510 then _ else h 511) = _
        rw [if_neg (by omega), if_neg (by omega), h511, if_neg (by omega), if_neg (by omega)]
    · obtain ⟨h', hr', hv', h510', h511'⟩ := qi.blk j hj2
      have hnb : Bq g j ≠ Bq g (k / 510) := by unfold Bq; omega
      refine ⟨h', ((hr'.setOther hnb _).setOther hnb _).setOther (a := ⟨g, 20, none⟩) (by show Bq g j ≠ g; unfold Bq; omega) _, fun i hi h1 h2 => hv' i hi h1 (by omega), ?_, ?_⟩
      · rw [h510', show min 510 (k - 510 * j) = min 510 (k + 1 - 510 * j) by omega]
      · rw [h511']
        by_cases h3 : 510 * (j + 1) < k
        · rw [if_pos h3, if_pos (by omega)]
        · rw [if_neg h3, if_neg (by omega)]
  · refine tsk_step (fun i hi => ?_) ?_
    · exact (((qi.tsk i hi).setOther (hneT i hi) _).setOther (hneT i hi) _).setOther (a := ⟨g, 20, none⟩) (by show Tk g i ≠ g; unfold Tk; omega) _
    · exact ((ht0.setOther hneK _).setOther hneK _).setOther (a := ⟨g, 20, none⟩) (by show Tk g k ≠ g; unfold Tk; omega) _
  · show (((wt.setCell _ _).setCell _ _).setCell _ _).heap.size = _
    simp only [World.setCell, Array.size_modify]
    rw [sz]
    omega

end Go.Proofs.Ybulksnw.Queue
