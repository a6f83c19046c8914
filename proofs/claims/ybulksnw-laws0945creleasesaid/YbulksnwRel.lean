import Derived.Test.YbulksnwFifo
import Derived.Test.YbulksnwSkip
namespace Go.Proofs.Ybulksnw.Queue
open Go.RowKit

theorem St.c23 {W w : World} {g c : Nat} {ev : Value} {pen lim adm sk : Int} {k n : Nat} (S : St W w g c ev pen lim adm sk k n) : w.cell? ⟨g, 23, none⟩ = some (.int .u32 sk) := by
  rcases S with ⟨_, I⟩ | ⟨_, I⟩
  · exact I.gi.c23
  · obtain ⟨hd, tl, fi, G⟩ := I.gi
    exact G.c23

theorem rel_skip_inv {W w : World} {g c : Nat} {T : TypeId} {x : Value} {pen lim adm sk : Int} {n : Nat} (hn : n ≤ 1024) (hn0 : 1 ≤ n) (hl : 1 ≤ lim) (ha0 : -1000 ≤ adm) (ha1 : adm ≤ 1000) (hp0 : -100000 ≤ pen) (hp1 : pen ≤ 100000) (I : QInv W w g c (.iface T x) pen lim adm sk 0 n) :
    Calls Yba.prog 23 #[.pointer (some ⟨g, 0, none⟩)] w fun e w' => e = .returned (.tuple #[.nilIface, .int .i64 (n : Int)]) ∧
      w'.cell? ⟨g, 13, none⟩ = some (.int .i64 (pen - n)) ∧ w'.cell? ⟨g, 16, none⟩ = some (.int .i64 (adm - 1)) ∧ w'.cell? ⟨g, 20, none⟩ = some (.int .i64 0) ∧ w'.cell? ⟨g, 23, none⟩ = some (.int .u32 1) ∧ Grown W w' := by
  have h1 := I.hW
  have h2 := I.cg
  have hcg : ¬ g = c := by omega
  have hgW : W.heap.size ≤ g := by omega
  have gi := I.gi
  have G := ((((((gi.s16 (adm - 1)).s17 (.pointer none)).s18 (.pointer none)).s19 0).s20 0).s13 (pen - ((n - 0 : Nat) : Int))).s23 1
  have R := ((((((I.gr.setCell (a := ⟨g, 16, none⟩) hgW (.int .i64 (adm - 1))).setCell (a := ⟨g, 17, none⟩) hgW (.pointer none)).setCell (a := ⟨g, 18, none⟩) hgW (.pointer none)).setCell (a := ⟨g, 19, none⟩) hgW (.int .i64 0)).setCell (a := ⟨g, 20, none⟩) hgW (.int .i64 0)).setCell (a := ⟨g, 13, none⟩) hgW (.int .i64 (pen - ((n - 0 : Nat) : Int)))).setCell (a := ⟨g, 23, none⟩) hgW (.int .u32 1)
  have K := rel_skip g c lim adm ((n - 0 : Nat) : Int) pen T x _ _ _ _ hl ha0 ha1 (by omega) (by omega) hp0 hp1 w hcg gi.c1 (I.cr.cell (by omega)) gi.c13 gi.c15 gi.c16 gi.c17 gi.c18 gi.c19 gi.c20 gi.c23 gi.fz
  rw [Nat.sub_zero] at K G R
  refine K.mono ?_
  rintro e w' ⟨rfl, rfl⟩
  exact ⟨rfl, G.drew.c13, G.drew.c16, G.drew.c20, G.drew.c23, R.drew⟩

set_option maxRecDepth 100000 in
set_option maxHeartbeats 1000000 in
theorem release_zero (a0 a1 a2 : Int) (b : Bool) (h0 : 0 ≤ a0) (h1 : a0 ≤ 255) (h2 : -128 ≤ a1) (h3 : a1 ≤ 127) (h4 : -32768 ≤ a2) (h5 : a2 ≤ 32767) (w : World) :
    Calls Yba.prog 5 #[.int .u8 a0, .int .i8 a1, .int .i16 a2, .int .u16 0, .bool b] w fun e w' => e = .returned (.bool true) ∧ Grown w w' := by
  have hmod0 : 0 ≤ a0 % 8 := by omega
  have hmod1 : a0 % 8 < 8 := by omega
  cases b
  · go_enter Yba.func5, Yba.ntmps5
    go_wp2_with (first
      | (go_at_call 22; refine (group_open _ a1 a2 0 (by omega) h2 h3 h4 h5 _).mono ?_; rintro e w1 ⟨rfl, I⟩)
      | (go_at_call 23; refine (rel_done (by omega) (by omega) (by omega) (St.start I)).mono ?_; rintro e w' ⟨rfl, S'⟩; obtain ⟨hT, hA, hN, hP, hG⟩ := S'.facts (Nat.le_refl _); have hS := S'.c23; clear hT)
      | (go_at_call 24; go_in)
      | (go_at_call 21; refine (Atom.boolLoad _ _ 0 _ hS).mono ?_; rintro e w' ⟨rfl, rfl⟩))
    go_ret
    exact ⟨rfl, hG⟩
  · go_enter Yba.func5, Yba.ntmps5
    go_wp2_with (first
      | (go_at_call 22; refine (group_done _ a1 a2 0 (by omega) h2 h3 h4 h5 _).mono ?_; rintro e w1 ⟨rfl, I⟩)
      | (go_at_call 23; refine (rel_done (by omega) (by omega) (by omega) (St.start I)).mono ?_; rintro e w' ⟨rfl, S'⟩; obtain ⟨hT, hA, hN, hP, hG⟩ := S'.facts (Nat.le_refl _); have hS := S'.c23; clear hT)
      | (go_at_call 24; go_in)
      | (go_at_call 21; refine (Atom.boolLoad _ _ 0 _ hS).mono ?_; rintro e w' ⟨rfl, rfl⟩))
    go_ret
    exact ⟨rfl, hG⟩

set_option maxRecDepth 100000 in
set_option maxHeartbeats 1000000 in
theorem release_skip (a0 a1 a2 : Int) (n : Nat) (h0 : 0 ≤ a0) (h1 : a0 ≤ 255) (h2 : -128 ≤ a1) (h3 : a1 ≤ 127) (h4 : -32768 ≤ a2) (h5 : a2 ≤ 32767) (hn : n ≤ 1024) (hn0 : 1 ≤ n) (w : World) :
    Calls Yba.prog 5 #[.int .u8 a0, .int .i8 a1, .int .i16 a2, .int .u16 (n : Int), .bool true] w fun e w' => e = .returned (.bool true) ∧ Grown w w' := by
  have hmod0 : 0 ≤ a0 % 8 := by omega
  have hmod1 : a0 % 8 < 8 := by omega
  have hn' : (n : Int) ≤ 1024 := by omega
  have hn1 : 1 ≤ (n : Int) := by omega
  go_enter Yba.func5, Yba.ntmps5
  go_wp2_with (first
    | (go_at_call 22; refine (group_done _ a1 a2 n hn h2 h3 h4 h5 _).mono ?_; rintro e w1 ⟨rfl, I⟩)
    | (go_at_call 23; refine (rel_skip_inv hn hn0 (by omega) (by omega) (by omega) (by omega) (by omega) I).mono ?_; rintro e w' ⟨rfl, hP, hA, hN, hS, hG⟩)
    | (go_at_call 24; go_in)
    | (go_at_call 21; refine (Atom.boolLoad _ _ 1 _ hS).mono ?_; rintro e w' ⟨rfl, rfl⟩))
  go_ret
  exact ⟨rfl, hG⟩

set_option maxRecDepth 100000 in
set_option maxHeartbeats 1000000 in
theorem release_pop (a0 a1 a2 : Int) (n : Nat) (h0 : 0 ≤ a0) (h1 : a0 ≤ 255) (h2 : -128 ≤ a1) (h3 : a1 ≤ 127) (h4 : -32768 ≤ a2) (h5 : a2 ≤ 32767) (hn : n ≤ 1024) (hn0 : 1 ≤ n) (w : World) :
    Calls Yba.prog 5 #[.int .u8 a0, .int .i8 a1, .int .i16 a2, .int .u16 (n : Int), .bool false] w fun e w' => e = .returned (.bool true) ∧ Grown w w' := by
  have hmod0 : 0 ≤ a0 % 8 := by omega
  have hmod1 : a0 % 8 < 8 := by omega
  have hn' : (n : Int) ≤ 1024 := by omega
  have hn1 : 1 ≤ (n : Int) := by omega
  have hta := assert_task
  go_enter Yba.func5, Yba.ntmps5
  go_wp2_with (first
    | (go_at_call 22; refine (group_open _ a1 a2 n hn h2 h3 h4 h5 _).mono ?_; rintro e w1 ⟨rfl, I⟩)
    | (go_at_call 23; refine (rel_st (k := 0) hn (by omega) (by omega) (by omega) hn0 (St.start I)).mono ?_; rintro e w' ⟨rfl, S'⟩; obtain ⟨hT, hA, hN, hP, hG⟩ := S'.facts hn0; have hTk := hT 0 hn0; have hS := S'.c23; clear hT)
    | (go_at_call 24; go_in)
    | (go_at_call 21; refine (Atom.boolLoad _ _ 0 _ hS).mono ?_; rintro e w' ⟨rfl, rfl⟩))
  go_ret
  exact ⟨rfl, hG⟩
end Go.Proofs.Ybulksnw.Queue
