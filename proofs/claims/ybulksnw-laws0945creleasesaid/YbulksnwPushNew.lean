import Derived.Test.YbulksnwPush
namespace Go.Proofs.Ybulksnw.Queue
open Go.RowKit

theorem new_row (w : World) (v : Value) : ∃ h, (w.alloc (.cells ((Yba.zeroCells168.setIfInBounds 0 v).setIfInBounds 510 (.int .i64 1)) 168)).rowIs w.heap.size 168 512 h ∧ h 0 = v ∧ h 510 = .int .i64 1 ∧ h 511 = .pointer none := by
  have hs := Yba.zeroCells168_size
  have h511 := z511
  generalize Yba.zeroCells168 = Z at *
  have hs2 : ((Z.setIfInBounds 0 v).setIfInBounds 510 (.int .i64 1)).size = 512 := by rw [Array.size_setIfInBounds, Array.size_setIfInBounds, hs]
  have R := World.rowIs_alloc w ((Z.setIfInBounds 0 v).setIfInBounds 510 (.int .i64 1)) 168 (fun i => (((Z.setIfInBounds 0 v).setIfInBounds 510 (.int .i64 1))[i]?).getD .nilIface) (fun i hi => by rw [Array.getElem?_eq_getElem hi]; rfl)
  rw [hs2] at R
  refine ⟨_, R, ?_, ?_, ?_⟩
  · show ((((Z.setIfInBounds 0 v).setIfInBounds 510 (.int .i64 1))[0]?).getD .nilIface) = v
    rw [Array.getElem?_setIfInBounds_ne (by omega), Array.getElem?_setIfInBounds_self_of_lt (by omega)]
    rfl
  · show ((((Z.setIfInBounds 0 v).setIfInBounds 510 (.int .i64 1))[510]?).getD .nilIface) = _
    rw [Array.getElem?_setIfInBounds_self_of_lt (by rw [Array.size_setIfInBounds]; omega)]
    rfl
  · show ((((Z.setIfInBounds 0 v).setIfInBounds 510 (.int .i64 1))[511]?).getD .nilIface) = _
    rw [Array.getElem?_setIfInBounds_ne (by omega), Array.getElem?_setIfInBounds_ne (by omega), h511]
    rfl

theorem push_first_inv {W w : World} {g c : Nat} {ev : Value} {pen lim adm sk : Int} (I : QInv W w g c ev pen lim adm sk 0 0) :
    Calls Yba.prog 47 #[.pointer (some ⟨g, 17, none⟩), tv w.heap.size] (w.alloc (.cells #[.int .i64 ((0 : Nat) : Int)] 116)) fun ed w' => ed = .returned (.tuple #[]) ∧ QInv W w' g c ev pen lim adm sk 0 1 := by
  have esz : w.heap.size = Tk g 0 := by rw [I.sz]; rfl
  have ht0 := row_one w (.int .i64 ((0 : Nat) : Int)) 116
  rw [esz] at ht0 ⊢
  have gi := I.gi.alloc (.cells #[.int .i64 ((0 : Nat) : Int)] 116)
  have cr := I.cr.alloc (.cells #[.int .i64 ((0 : Nat) : Int)] 116)
  have gr := I.gr.alloc #[.int .i64 ((0 : Nat) : Int)] 116
  have sz : (w.alloc (.cells #[.int .i64 ((0 : Nat) : Int)] 116)).heap.size = Bq g 0 := by rw [World.size_alloc, I.sz]; unfold Bq; omega
  generalize w.alloc (.cells #[.int .i64 ((0 : Nat) : Int)] 116) = wt at *
  rw [show tlv g 0 = .pointer none from rfl, show hdv g 0 0 = .pointer none from rfl] at gi
  have ht := gi.c18
  have hn := gi.c20
  have hh := gi.c17
  refine (push_first g _ ((0 - 0 : Nat) : Int) 113 (.pointer (some ⟨Tk g 0, 0, none⟩)) wt gi.lt (by omega) (by omega) hh ht hn gi.fz).mono ?_
  rintro ed w' ⟨rfl, rfl⟩
  refine ⟨rfl, ?_⟩
  rw [sz]
  have hcg : c ≠ g := by have := I.cg; omega
  have hWc := I.hW
  have hcg' := I.cg
  have hneB : Bq g 0 ≠ g := by unfold Bq; omega
  have hneT : Tk g 0 ≠ g := by unfold Tk; omega
  have G := ((gi.s17 (.pointer (some ⟨Bq g 0, 0, none⟩))).s18 (.pointer (some ⟨Bq g 0, 0, none⟩))).s20 (((0 - 0 : Nat) : Int) + 1)
  have T := ((ht0.setOther (a := ⟨g, 17, none⟩) hneT (.pointer (some ⟨Bq g 0, 0, none⟩))).setOther (a := ⟨g, 18, none⟩) hneT (.pointer (some ⟨Bq g 0, 0, none⟩))).setOther (a := ⟨g, 20, none⟩) hneT (.int .i64 (((0 - 0 : Nat) : Int) + 1))
  have C := ((cr.setOther (a := ⟨g, 17, none⟩) hcg (.pointer (some ⟨Bq g 0, 0, none⟩))).setOther (a := ⟨g, 18, none⟩) hcg (.pointer (some ⟨Bq g 0, 0, none⟩))).setOther (a := ⟨g, 20, none⟩) hcg (.int .i64 (((0 - 0 : Nat) : Int) + 1))
  have hgW : W.heap.size ≤ g := by omega
  have R := ((gr.setCell (a := ⟨g, 17, none⟩) hgW (.pointer (some ⟨Bq g 0, 0, none⟩))).setCell (a := ⟨g, 18, none⟩) hgW (.pointer (some ⟨Bq g 0, 0, none⟩))).setCell (a := ⟨g, 20, none⟩) hgW (.int .i64 (((0 - 0 : Nat) : Int) + 1))
  have S : (((wt.setCell ⟨g, 17, none⟩ (.pointer (some ⟨Bq g 0, 0, none⟩))).setCell ⟨g, 18, none⟩ (.pointer (some ⟨Bq g 0, 0, none⟩))).setCell ⟨g, 20, none⟩ (.int .i64 (((0 - 0 : Nat) : Int) + 1))).heap.size = Bq g 0 := by
    simp only [World.setCell, Array.size_modify]
    exact sz
  generalize ((wt.setCell ⟨g, 17, none⟩ (.pointer (some ⟨Bq g 0, 0, none⟩))).setCell ⟨g, 18, none⟩ (.pointer (some ⟨Bq g 0, 0, none⟩))).setCell ⟨g, 20, none⟩ (.int .i64 (((0 - 0 : Nat) : Int) + 1)) = wv at *
  obtain ⟨h, hr, h0, h510, h511⟩ := new_row wv (tv (Tk g 0))
  rw [S] at hr
  refine ⟨(R.alloc _ _).drew, I.hW, I.cg, ?_, C.alloc _, ⟨?_, ?_⟩, ?_⟩
  · exact (G.alloc _).drew
  · intro j hj
    obtain rfl : j = 0 := by omega
    refine ⟨h, hr, ?_, ?_, ?_⟩
    · intro i hi _ h2
      obtain rfl : i = 0 := by omega
      exact h0
    · exact h510
    · exact h511
  · intro i hi
    obtain rfl : i = 0 := by omega
    exact T.alloc _
  · show (wv.alloc _).heap.size = _
    rw [World.size_alloc, S]
    unfold Bq
    omega

theorem push_full_inv {W w : World} {g c : Nat} {ev : Value} {pen lim adm sk : Int} {m : Nat} (hk : 510 * (m + 1) ≤ 2000) (I : QInv W w g c ev pen lim adm sk 0 (510 * (m + 1))) :
    Calls Yba.prog 47 #[.pointer (some ⟨g, 17, none⟩), tv w.heap.size] (w.alloc (.cells #[.int .i64 ((510 * (m + 1) : Nat) : Int)] 116)) fun ed w' => ed = .returned (.tuple #[]) ∧ QInv W w' g c ev pen lim adm sk 0 (510 * (m + 1) + 1) := by
  obtain ⟨k, hkm⟩ : ∃ k, k = 510 * (m + 1) := ⟨_, rfl⟩
  rw [← hkm] at I hk ⊢
  have esz : w.heap.size = Tk g k := by rw [I.sz]; rfl
  have ht0 := row_one w (.int .i64 (k : Int)) 116
  rw [esz] at ht0 ⊢
  have hj : 510 * m < k := by omega
  have gi := I.gi.alloc (.cells #[.int .i64 (k : Int)] 116)
  have qi := I.qi.alloc (.cells #[.int .i64 (k : Int)] 116)
  have cr := I.cr.alloc (.cells #[.int .i64 (k : Int)] 116)
  have gr := I.gr.alloc #[.int .i64 (k : Int)] 116
  have sz : (w.alloc (.cells #[.int .i64 (k : Int)] 116)).heap.size = Bq g (m + 1) := by rw [World.size_alloc, I.sz]; unfold Bq; omega
  generalize w.alloc (.cells #[.int .i64 (k : Int)] 116) = wt at *
  obtain ⟨h, hr, hv, h510, h511⟩ := qi.blk m hj
  have etl : tlv g k = .pointer (some ⟨Bq g m, 0, none⟩) := by
    unfold tlv
    rw [if_neg (by omega), show (k - 1) / 510 = m by omega]
  rw [etl] at gi
  have ht := gi.c18
  have hn := gi.c20
  have hend := hr.cell (i := 510) (by omega)
  rw [h510, show min 510 (k - 510 * m) = 510 by omega] at hend
  have hgb : ¬ g = Bq g m := by unfold Bq; omega
  have hne : Bq g m ≠ g := fun e => hgb e.symm
  refine (push_full g (Bq g m) ((k - 0 : Nat) : Int) _ 113 (.pointer (some ⟨Tk g k, 0, none⟩)) wt hgb gi.lt hr.lt (by omega) (by omega) ht hend (hr.cell (by omega)) hn hr.frozen gi.fz).mono ?_
  rintro ed w' ⟨rfl, rfl⟩
  refine ⟨rfl, ?_⟩
  rw [sz]
  have hneT : ∀ i, i < k → Tk g i ≠ Bq g m := fun i hi => tk_ne_bq qi hi hj
  have hneK : Tk g k ≠ Bq g m := row_ne ht0 hr (by decide)
  have hneC : c ≠ Bq g m := row_ne cr hr (by decide)
  have hcg : c ≠ g := by have := I.cg; omega
  have hWc := I.hW
  have hcg' := I.cg
  have hneTg : ∀ i, Tk g i ≠ g := fun i => by unfold Tk; omega
  have hgW : W.heap.size ≤ g := by omega
  have hbW : W.heap.size ≤ Bq g m := by unfold Bq; omega
  have hBg : ∀ j, Bq g j ≠ g := fun j => by unfold Bq; omega
  have G := ((gi.other (i := 511) hne (.pointer (some ⟨Bq g (m + 1), 0, none⟩))).s18 (.pointer (some ⟨Bq g (m + 1), 0, none⟩))).s20 (((k - 0 : Nat) : Int) + 1)
  have T : ∀ i, i < k → (((wt.setCell ⟨Bq g m, 511, none⟩ (.pointer (some ⟨Bq g (m + 1), 0, none⟩))).setCell ⟨g, 18, none⟩ (.pointer (some ⟨Bq g (m + 1), 0, none⟩))).setCell ⟨g, 20, none⟩ (.int .i64 (((k - 0 : Nat) : Int) + 1))).rowIs (Tk g i) 116 1 (fun _ => .int .i64 (i : Int)) :=
    fun i hi => (((qi.tsk i hi).setOther (a := ⟨Bq g m, 511, none⟩) (hneT i hi) _).setOther (a := ⟨g, 18, none⟩) (hneTg i) _).setOther (a := ⟨g, 20, none⟩) (hneTg i) _
  have TK := ((ht0.setOther (a := ⟨Bq g m, 511, none⟩) hneK (.pointer (some ⟨Bq g (m + 1), 0, none⟩))).setOther (a := ⟨g, 18, none⟩) (hneTg k) (.pointer (some ⟨Bq g (m + 1), 0, none⟩))).setOther (a := ⟨g, 20, none⟩) (hneTg k) (.int .i64 (((k - 0 : Nat) : Int) + 1))
  have C := ((cr.setOther (a := ⟨Bq g m, 511, none⟩) hneC (.pointer (some ⟨Bq g (m + 1), 0, none⟩))).setOther (a := ⟨g, 18, none⟩) hcg (.pointer (some ⟨Bq g (m + 1), 0, none⟩))).setOther (a := ⟨g, 20, none⟩) hcg (.int .i64 (((k - 0 : Nat) : Int) + 1))
  have R := ((gr.setCell (a := ⟨Bq g m, 511, none⟩) hbW (.pointer (some ⟨Bq g (m + 1), 0, none⟩))).setCell (a := ⟨g, 18, none⟩) hgW (.pointer (some ⟨Bq g (m + 1), 0, none⟩))).setCell (a := ⟨g, 20, none⟩) hgW (.int .i64 (((k - 0 : Nat) : Int) + 1))
  have L := ((hr.set 511 (.pointer (some ⟨Bq g (m + 1), 0, none⟩))).setOther (a := ⟨g, 18, none⟩) hne (.pointer (some ⟨Bq g (m + 1), 0, none⟩))).setOther (a := ⟨g, 20, none⟩) hne (.int .i64 (((k - 0 : Nat) : Int) + 1))
  have O : ∀ j, 510 * j < k → ¬ j = m → ∀ h', wt.rowIs (Bq g j) 168 512 h' → (((wt.setCell ⟨Bq g m, 511, none⟩ (.pointer (some ⟨Bq g (m + 1), 0, none⟩))).setCell ⟨g, 18, none⟩ (.pointer (some ⟨Bq g (m + 1), 0, none⟩))).setCell ⟨g, 20, none⟩ (.int .i64 (((k - 0 : Nat) : Int) + 1))).rowIs (Bq g j) 168 512 h' :=
    fun j _ hjm h' hr' => ((hr'.setOther (a := ⟨Bq g m, 511, none⟩) (by show Bq g j ≠ Bq g m; unfold Bq; omega) _).setOther (a := ⟨g, 18, none⟩) (hBg j) _).setOther (a := ⟨g, 20, none⟩) (hBg j) _
  have S : (((wt.setCell ⟨Bq g m, 511, none⟩ (.pointer (some ⟨Bq g (m + 1), 0, none⟩))).setCell ⟨g, 18, none⟩ (.pointer (some ⟨Bq g (m + 1), 0, none⟩))).setCell ⟨g, 20, none⟩ (.int .i64 (((k - 0 : Nat) : Int) + 1))).heap.size = Bq g (m + 1) := by
    simp only [World.setCell, Array.size_modify]
    exact sz
  generalize ((wt.setCell ⟨Bq g m, 511, none⟩ (.pointer (some ⟨Bq g (m + 1), 0, none⟩))).setCell ⟨g, 18, none⟩ (.pointer (some ⟨Bq g (m + 1), 0, none⟩))).setCell ⟨g, 20, none⟩ (.int .i64 (((k - 0 : Nat) : Int) + 1)) = wv at *
  obtain ⟨hN, hrN, hN0, hN510, hN511⟩ := new_row wv (tv (Tk g k))
  rw [S] at hrN
  refine ⟨(R.alloc _ _).drew, I.hW, I.cg, ?_, C.alloc _, ⟨?_, ?_⟩, ?_⟩
  · have e1 : hdv g 0 (k + 1) = hdv g 0 k := by unfold hdv; rw [if_neg (by omega), if_neg (by omega)]
    have e2 : tlv g (k + 1) = .pointer (some ⟨Bq g (m + 1), 0, none⟩) := by unfold tlv; rw [if_neg (by omega), show (k + 1 - 1) / 510 = m + 1 by omega]
    have e3 : ((k + 1 - 0 : Nat) : Int) = ((k - 0 : Nat) : Int) + 1 := by omega
    rw [e1, e2, e3]
    exact (G.alloc _).drew
  · intro j hj1
    by_cases e1 : j = m + 1
    · subst e1
      refine ⟨hN, hrN, ?_, ?_, ?_⟩
      · intro i hi _ h2
        obtain rfl : i = 0 := by omega
        rw [hN0, show 510 * (m + 1) + 0 = k by omega]
      · rw [hN510, show min 510 (k + 1 - 510 * (m + 1)) = 1 by omega]
        rfl
      · rw [hN511, if_neg (by omega)]
    · have hj2 : 510 * j < k := by omega
      by_cases e2 : j = m
      · subst e2
        refine ⟨_, L.alloc _, ?_, ?_, ?_⟩
        · intro i hi h1 h2
          show (if i = 511 then _ else h i) = _
          rw [if_neg (by omega)]
          exact hv i hi h1 (by omega)
        · show (if (510 : Nat) = 511 then _ else h 510) = _
          rw [if_neg (by omega), h510, show min 510 (k - 510 * j) = min 510 (k + 1 - 510 * j) by omega]
        · show (if (511 : Nat) = 511 then _ else h 511) = _
          rw [if_pos rfl, if_pos (by omega)]
      · obtain ⟨h', hr', hv', h510', h511'⟩ := qi.blk j hj2
        refine ⟨h', (O j hj2 e2 h' hr').alloc _, fun i hi h1 h2 => hv' i hi h1 (by omega), ?_, ?_⟩
        · rw [h510', show min 510 (k - 510 * j) = min 510 (k + 1 - 510 * j) by omega]
        · rw [h511', if_pos (by omega), if_pos (by omega)]
  · exact tsk_step (fun i hi => (T i hi).alloc _) (TK.alloc _)
  · show (wv.alloc _).heap.size = _
    rw [World.size_alloc, S]
    unfold Bq
    omega

theorem push_inv {W w : World} {g c : Nat} {ev : Value} {pen lim adm sk : Int} {k : Nat} (hk : k ≤ 2000) (I : QInv W w g c ev pen lim adm sk 0 k) :
    Calls Yba.prog 47 #[.pointer (some ⟨g, 17, none⟩), tv w.heap.size] (w.alloc (.cells #[.int .i64 (k : Int)] 116)) fun ed w' => ed = .returned (.tuple #[]) ∧ QInv W w' g c ev pen lim adm sk 0 (k + 1) := by
  by_cases h5 : k % 510 = 0
  · by_cases h0 : k = 0
    · subst h0
      exact push_first_inv I
    · obtain ⟨m, rfl⟩ : ∃ m, k = 510 * (m + 1) := ⟨k / 510 - 1, by omega⟩
      exact push_full_inv hk I
  · exact push_room_inv hk h5 I

end Go.Proofs.Ybulksnw.Queue
