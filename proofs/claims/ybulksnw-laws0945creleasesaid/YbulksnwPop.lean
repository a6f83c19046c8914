import Derived.Test.YbulksnwPushNew
namespace Go.Proofs.Ybulksnw.Queue
open Go.RowKit

/-- What is left where the queue has been emptied. -/
structure Emp (W w : World) (g c : Nat) (ev : Value) (pen lim adm sk : Int) (n : Nat) : Prop where
  gr : Grown W w
  hW : W.heap.size ≤ c
  cg : c < g
  gi : ∃ hd tl fi, GI w g (.iface 147 (.pointer (some ⟨c, 0, none⟩))) pen lim adm hd tl fi 0 sk
  cr : w.rowIs c 149 1 (fun _ => ev)
  tsk : ∀ i, i < n → w.rowIs (Tk g i) 116 1 (fun _ => .int .i64 (i : Int))

theorem QInv.emp {W w : World} {g c : Nat} {ev : Value} {pen lim adm sk : Int} (I : QInv W w g c ev pen lim adm sk 0 0) : Emp W w g c ev pen lim adm sk 0 :=
  ⟨I.gr, I.hW, I.cg, ⟨_, _, _, I.gi⟩, I.cr, fun _ h => by omega⟩

theorem sz_set (w : World) (a : Addr) (v : Value) : (w.setCell a v).heap.size = w.heap.size := by simp [World.setCell]
theorem sz_drew (w : World) : w.drew.heap.size = w.heap.size := rfl

set_option maxHeartbeats 600000 in
theorem pop_inv {W w : World} {g c : Nat} {ev : Value} {pen lim adm sk : Int} {lo hi : Nat} (hlo : lo + 1 < hi) (hhi : hi ≤ 2000) (I : QInv W w g c ev pen lim adm sk lo hi) :
    Calls Yba.prog 48 #[.pointer (some ⟨g, 17, none⟩)] w fun ed w' => ed = .returned (tv (Tk g lo)) ∧ QInv W w' g c ev pen lim adm sk (lo + 1) hi := by
  have hj : 510 * (lo / 510) < hi := by omega
  have gi := I.gi
  have qi := I.qi
  have cr := I.cr
  have gr := I.gr
  have sz := I.sz
  obtain ⟨h, hr, hv, h510, h511⟩ := qi.blk (lo / 510) hj
  have ehd : hdv g lo hi = .pointer (some ⟨Bq g (lo / 510), 0, none⟩) := by
    unfold hdv
    rw [if_neg (by omega)]
  rw [ehd] at gi
  have hgb : ¬ g = Bq g (lo / 510) := by unfold Bq; omega
  have hne : Bq g (lo / 510) ≠ g := fun e => hgb e.symm
  have hcell := hr.cell (i := lo % 510) (by omega)
  rw [hv (lo % 510) (by omega) (by omega) (by omega), show 510 * (lo / 510) + lo % 510 = lo by omega] at hcell
  have hneT : ∀ i, i < hi → Tk g i ≠ Bq g (lo / 510) := fun i hi => tk_ne_bq qi hi hj
  have hneC : c ≠ Bq g (lo / 510) := row_ne cr hr (by decide)
  have hcg : c ≠ g := by have := I.cg; omega
  have hWc := I.hW
  have hcg' := I.cg
  have hneTg : ∀ i, Tk g i ≠ g := fun i => by unfold Tk; omega
  have hgW : W.heap.size ≤ g := by omega
  have hbW : W.heap.size ≤ Bq g (lo / 510) := by unfold Bq; omega
  have hBg : ∀ j, Bq g j ≠ g := fun j => by unfold Bq; omega
  have en : ((hi - (lo + 1) : Nat) : Int) = ((hi - lo : Nat) : Int) - 1 := by omega
  by_cases hm : lo % 510 = 509
  · -- the block's last
    have hnx := hr.cell (i := 511) (by omega)
    rw [h511, if_pos (by omega)] at hnx
    have hf := gi.c19
    rw [hm] at hf hcell
    refine (pop_edge g (Bq g (lo / 510)) ((hi - lo : Nat) : Int) (tv (Tk g lo)) _ w hgb (by omega) (by omega) gi.c17 hf gi.c20 hcell hnx hr.frozen gi.fz).mono ?_
    rintro ed w' ⟨rfl, rfl⟩
    refine ⟨rfl, ?_⟩
    have G := ((((gi.other (i := 509) hne .nilIface).s19 510).s20 (((hi - lo : Nat) : Int) - 1)).s17 (.pointer (some ⟨Bq g (lo / 510 + 1), 0, none⟩))).s19 0
    refine ⟨?_, I.hW, I.cg, ?_, ?_, ⟨?_, ?_⟩, ?_⟩
    · exact (((((gr.setCell (a := ⟨Bq g (lo / 510), 509, none⟩) hbW _).setCell (a := ⟨g, 19, none⟩) hgW _).setCell (a := ⟨g, 20, none⟩) hgW _).setCell (a := ⟨g, 17, none⟩) hgW _).setCell (a := ⟨g, 19, none⟩) hgW _).drew.drew
    · have e1 : hdv g (lo + 1) hi = .pointer (some ⟨Bq g (lo / 510 + 1), 0, none⟩) := by unfold hdv; rw [if_neg (by omega), show (lo + 1) / 510 = lo / 510 + 1 by omega]
      rw [e1, en, show (lo + 1) % 510 = 0 by omega]
      exact G.drew.drew
    · exact ((((cr.setOther (a := ⟨Bq g (lo / 510), 509, none⟩) hneC _).setOther (a := ⟨g, 19, none⟩) hcg _).setOther (a := ⟨g, 20, none⟩) hcg _).setOther (a := ⟨g, 17, none⟩) hcg _).setOther (a := ⟨g, 19, none⟩) hcg _ |>.drew.drew
    · intro j hj1
      by_cases ej : j = lo / 510
      · subst ej
        refine ⟨_, (((((hr.set 509 _).setOther (a := ⟨g, 19, none⟩) hne _).setOther (a := ⟨g, 20, none⟩) hne _).setOther (a := ⟨g, 17, none⟩) hne _).setOther (a := ⟨g, 19, none⟩) hne _).drew.drew, ?_, ?_, ?_⟩
        · intro i hi h1 h2
          omega
        · show (if (510 : Nat) = 509 then _ else h 510) = _
          rw [if_neg (by omega), h510]
        · show (if (511 : Nat) = 509 then _ else h 511) = _
          rw [if_neg (by omega), h511]
      · obtain ⟨h', hr', hv', h510', h511'⟩ := qi.blk j hj1
        have hnb : Bq g j ≠ Bq g (lo / 510) := by unfold Bq; omega
        exact ⟨h', ((((hr'.setOther (a := ⟨Bq g (lo / 510), 509, none⟩) hnb _).setOther (a := ⟨g, 19, none⟩) (hBg j) _).setOther (a := ⟨g, 20, none⟩) (hBg j) _).setOther (a := ⟨g, 17, none⟩) (hBg j) _).setOther (a := ⟨g, 19, none⟩) (hBg j) _ |>.drew.drew, fun i hi h1 h2 => hv' i hi (by omega) h2, h510', h511'⟩
    · intro i hi1
      exact (((((qi.tsk i hi1).setOther (a := ⟨Bq g (lo / 510), 509, none⟩) (hneT i hi1) _).setOther (a := ⟨g, 19, none⟩) (hneTg i) _).setOther (a := ⟨g, 20, none⟩) (hneTg i) _).setOther (a := ⟨g, 17, none⟩) (hneTg i) _).setOther (a := ⟨g, 19, none⟩) (hneTg i) _ |>.drew.drew
    · simp only [sz_drew, sz_set]
      exact sz
  · -- another follows in the block
    refine (pop_mid g (Bq g (lo / 510)) (lo % 510) ((hi - lo : Nat) : Int) (tv (Tk g lo)) w hgb (by omega) (by omega) (by omega) gi.c17 gi.c19 gi.c20 hcell hr.frozen gi.fz).mono ?_
    rintro ed w' ⟨rfl, rfl⟩
    refine ⟨rfl, ?_⟩
    have G := ((gi.other (i := lo % 510) hne .nilIface).s19 (((lo % 510 : Nat) : Int) + 1)).s20 (((hi - lo : Nat) : Int) - 1)
    refine ⟨?_, I.hW, I.cg, ?_, ?_, ⟨?_, ?_⟩, ?_⟩
    · exact (((gr.setCell (a := ⟨Bq g (lo / 510), lo % 510, none⟩) hbW _).setCell (a := ⟨g, 19, none⟩) hgW _).setCell (a := ⟨g, 20, none⟩) hgW _).drew.drew
    · have e1 : hdv g (lo + 1) hi = .pointer (some ⟨Bq g (lo / 510), 0, none⟩) := by unfold hdv; rw [if_neg (by omega), show (lo + 1) / 510 = lo / 510 by omega]
      have e2 : (((lo + 1) % 510 : Nat) : Int) = ((lo % 510 : Nat) : Int) + 1 := by omega
      rw [e1, en, e2]
      exact G.drew.drew
    · exact ((cr.setOther (a := ⟨Bq g (lo / 510), lo % 510, none⟩) hneC _).setOther (a := ⟨g, 19, none⟩) hcg _).setOther (a := ⟨g, 20, none⟩) hcg _ |>.drew.drew
    · intro j hj1
      by_cases ej : j = lo / 510
      · subst ej
        refine ⟨_, (((hr.set (lo % 510) _).setOther (a := ⟨g, 19, none⟩) hne _).setOther (a := ⟨g, 20, none⟩) hne _).drew.drew, ?_, ?_, ?_⟩
        · intro i hi h1 h2
          show (if i = lo % 510 then _ else h i) = _
          rw [if_neg (by omega)]
          exact hv i hi (by omega) h2
        · show (if (510 : Nat) = lo % 510 then _ else h 510) = _
          rw [if_neg (by omega), h510]
        · show (if (511 : Nat) = lo % 510 then _ else h 511) = _
          rw [if_neg (by omega), h511]
      · obtain ⟨h', hr', hv', h510', h511'⟩ := qi.blk j hj1
        have hnb : Bq g j ≠ Bq g (lo / 510) := by unfold Bq; omega
        exact ⟨h', ((hr'.setOther (a := ⟨Bq g (lo / 510), lo % 510, none⟩) hnb _).setOther (a := ⟨g, 19, none⟩) (hBg j) _).setOther (a := ⟨g, 20, none⟩) (hBg j) _ |>.drew.drew, fun i hi h1 h2 => hv' i hi (by omega) h2, h510', h511'⟩
    · intro i hi1
      exact (((qi.tsk i hi1).setOther (a := ⟨Bq g (lo / 510), lo % 510, none⟩) (hneT i hi1) _).setOther (a := ⟨g, 19, none⟩) (hneTg i) _).setOther (a := ⟨g, 20, none⟩) (hneTg i) _ |>.drew.drew
    · simp only [sz_drew, sz_set]
      exact sz

theorem pop_end {W w : World} {g c : Nat} {ev : Value} {pen lim adm sk : Int} {lo : Nat} (hhi : lo + 1 ≤ 2000) (I : QInv W w g c ev pen lim adm sk lo (lo + 1)) :
    Calls Yba.prog 48 #[.pointer (some ⟨g, 17, none⟩)] w fun ed w' => ed = .returned (tv (Tk g lo)) ∧ Emp W w' g c ev pen lim adm sk (lo + 1) := by
  have hj : 510 * (lo / 510) < lo + 1 := by omega
  have gi := I.gi
  have qi := I.qi
  have cr := I.cr
  have gr := I.gr
  have sz := I.sz
  obtain ⟨h, hr, hv, h510, h511⟩ := qi.blk (lo / 510) hj
  have ehd : hdv g lo (lo + 1) = .pointer (some ⟨Bq g (lo / 510), 0, none⟩) := by
    unfold hdv
    rw [if_neg (by omega)]
  rw [ehd, show ((lo + 1 - lo : Nat) : Int) = 1 by omega] at gi
  have hgb : ¬ g = Bq g (lo / 510) := by unfold Bq; omega
  have hne : Bq g (lo / 510) ≠ g := fun e => hgb e.symm
  have hcell := hr.cell (i := lo % 510) (by omega)
  rw [hv (lo % 510) (by omega) (by omega) (by omega), show 510 * (lo / 510) + lo % 510 = lo by omega] at hcell
  have hneT : ∀ i, i < lo + 1 → Tk g i ≠ Bq g (lo / 510) := fun i hi => tk_ne_bq qi hi hj
  have hneC : c ≠ Bq g (lo / 510) := row_ne cr hr (by decide)
  have hcg : c ≠ g := by have := I.cg; omega
  have hWc := I.hW
  have hcg' := I.cg
  have hneTg : ∀ i, Tk g i ≠ g := fun i => by unfold Tk; omega
  have hgW : W.heap.size ≤ g := by omega
  have hbW : W.heap.size ≤ Bq g (lo / 510) := by unfold Bq; omega
  refine (pop_last g (Bq g (lo / 510)) (lo % 510) (tv (Tk g lo)) _ w hgb (by omega) gi.c17 gi.c19 gi.c20 hcell (hr.cell (i := 510) (by omega)) hr.frozen gi.fz).mono ?_
  rintro ed w' ⟨rfl, rfl⟩
  refine ⟨rfl, ?_⟩
  have G := ((((gi.other (i := lo % 510) hne .nilIface).s19 (((lo % 510 : Nat) : Int) + 1)).s20 0).s19 0).other (i := 510) hne (.int .i64 0)
  refine ⟨?_, I.hW, I.cg, ⟨_, _, _, G.drew.drew⟩, ?_, ?_⟩
  · exact (((((gr.setCell (a := ⟨Bq g (lo / 510), lo % 510, none⟩) hbW _).setCell (a := ⟨g, 19, none⟩) hgW _).setCell (a := ⟨g, 20, none⟩) hgW _).setCell (a := ⟨g, 19, none⟩) hgW _).setCell (a := ⟨Bq g (lo / 510), 510, none⟩) hbW _).drew.drew
  · exact ((((cr.setOther (a := ⟨Bq g (lo / 510), lo % 510, none⟩) hneC _).setOther (a := ⟨g, 19, none⟩) hcg _).setOther (a := ⟨g, 20, none⟩) hcg _).setOther (a := ⟨g, 19, none⟩) hcg _).setOther (a := ⟨Bq g (lo / 510), 510, none⟩) hneC _ |>.drew.drew
  · intro i hi1
    exact (((((qi.tsk i hi1).setOther (a := ⟨Bq g (lo / 510), lo % 510, none⟩) (hneT i hi1) _).setOther (a := ⟨g, 19, none⟩) (hneTg i) _).setOther (a := ⟨g, 20, none⟩) (hneTg i) _).setOther (a := ⟨g, 19, none⟩) (hneTg i) _).setOther (a := ⟨Bq g (lo / 510), 510, none⟩) (hneT i hi1) _ |>.drew.drew

end Go.Proofs.Ybulksnw.Queue
