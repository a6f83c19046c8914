import Derived.Test.YbulksnwGroup
import Derived.Test.YbulksnwRelease
namespace Go.Proofs.Ybulksnw.Queue
open Go.RowKit

theorem QInv.s16 {W w : World} {g c : Nat} {ev : Value} {pen lim adm sk : Int} {lo hi : Nat} (I : QInv W w g c ev pen lim adm sk lo hi) (x : Int) : QInv W (w.setCell ⟨g, 16, none⟩ (.int .i64 x)) g c ev pen lim x sk lo hi := by
  have h1 := I.hW
  have h2 := I.cg
  exact ⟨I.gr.setCell (a := ⟨g, 16, none⟩) (by show W.heap.size ≤ g; omega) _, h1, h2, I.gi.s16 x, I.cr.setOther (a := ⟨g, 16, none⟩) (by show c ≠ g; omega) _, I.qi.grp _, by rw [sz_set]; exact I.sz⟩

theorem Emp.s16 {W w : World} {g c : Nat} {ev : Value} {pen lim adm sk : Int} {n : Nat} (I : Emp W w g c ev pen lim adm sk n) (x : Int) : Emp W (w.setCell ⟨g, 16, none⟩ (.int .i64 x)) g c ev pen lim x sk n := by
  have h1 := I.hW
  have h2 := I.cg
  obtain ⟨hd, tl, fi, G⟩ := I.gi
  exact ⟨I.gr.setCell (a := ⟨g, 16, none⟩) (by show W.heap.size ≤ g; omega) _, h1, h2, ⟨hd, tl, fi, G.s16 x⟩, I.cr.setOther (a := ⟨g, 16, none⟩) (by show c ≠ g; omega) _,
    fun i hi => (I.tsk i hi).setOther (a := ⟨g, 16, none⟩) (by show Tk g i ≠ g; unfold Tk; omega) _⟩

/-- k of n tasks have been taken. -/
def St (W w : World) (g c : Nat) (ev : Value) (pen lim adm sk : Int) (k n : Nat) : Prop :=
  (k < n ∧ QInv W w g c ev pen lim adm sk k n) ∨ (k = n ∧ Emp W w g c ev pen lim adm sk n)

theorem St.facts {W w : World} {g c : Nat} {ev : Value} {pen lim adm sk : Int} {k n : Nat} (S : St W w g c ev pen lim adm sk k n) (_hk : k ≤ n) :
    (∀ i, i < n → w.cell? ⟨Tk g i, 0, none⟩ = some (.int .i64 (i : Int))) ∧ w.cell? ⟨g, 16, none⟩ = some (.int .i64 adm) ∧ w.cell? ⟨g, 20, none⟩ = some (.int .i64 ((n : Int) - k)) ∧ w.cell? ⟨g, 13, none⟩ = some (.int .i64 pen) ∧ Grown W w := by
  rcases S with ⟨h, I⟩ | ⟨h, I⟩
  · refine ⟨fun i hi => (I.qi.tsk i hi).cell (by omega), I.gi.c16, ?_, I.gi.c13, I.gr⟩
    rw [I.gi.c20]
    congr 2
    omega
  · obtain ⟨hd, tl, fi, G⟩ := I.gi
    refine ⟨fun i hi => (I.tsk i hi).cell (by omega), G.c16, ?_, G.c13, I.gr⟩
    rw [G.c20]
    congr 2
    omega

theorem rel_st {W w : World} {g c : Nat} {pen lim adm sk : Int} {k n : Nat} (hn : n ≤ 1024) (hl : 1 ≤ lim) (ha0 : -1000 ≤ adm) (ha1 : adm ≤ 1000) (hk : k < n) (S : St W w g c .nilIface pen lim adm sk k n) :
    Calls Yba.prog 23 #[.pointer (some ⟨g, 0, none⟩)] w fun e w' => e = .returned (.tuple #[.iface 113 (.pointer (some ⟨Tk g k, 0, none⟩)), .int .i64 0]) ∧ St W w' g c .nilIface pen lim adm sk (k + 1) n := by
  rcases S with ⟨_, I⟩ | ⟨h, _⟩
  · have hcg : ¬ g = c := by have := I.cg; omega
    have J : QInv W ((w.setCell ⟨g, 16, none⟩ (.int .i64 (adm - 1))).setCell ⟨g, 16, none⟩ (.int .i64 adm)) g c .nilIface pen lim adm sk k n := (I.s16 (adm - 1)).s16 adm
    refine rel_pop g c lim adm ((n - k : Nat) : Int) hl ha0 ha1 (by omega) (by omega) _ _ w hcg I.gi.c1 (I.cr.cell (by omega)) I.gi.c15 I.gi.c16 I.gi.c20 I.gi.fz ?_
    by_cases hlast : k + 1 = n
    · subst hlast
      exact (pop_end (by omega) J).mono fun e w' ⟨h1, h2⟩ => ⟨h1, .inr ⟨rfl, h2⟩⟩
    · exact (pop_inv (by omega) (by omega) J).mono fun e w' ⟨h1, h2⟩ => ⟨h1, .inl ⟨by omega, h2⟩⟩
  · omega

theorem rel_done {W w : World} {g c : Nat} {ev : Value} {pen lim adm sk : Int} {n : Nat} (hl : 1 ≤ lim) (ha0 : -1000 ≤ adm) (ha1 : adm ≤ 1000) (S : St W w g c ev pen lim adm sk n n) :
    Calls Yba.prog 23 #[.pointer (some ⟨g, 0, none⟩)] w fun e w' => e = .returned (.tuple #[.nilIface, .int .i64 0]) ∧ St W w' g c ev pen lim (adm - 1) sk n n := by
  rcases S with ⟨h, _⟩ | ⟨_, I⟩
  · omega
  · obtain ⟨hd, tl, fi, G⟩ := I.gi
    exact (rel_empty g lim adm hl ha0 ha1 w G.c15 G.c16 G.c20 G.fz).mono fun e w' ⟨h1, h2⟩ => ⟨h1, h2 ▸ .inr ⟨rfl, I.s16 _⟩⟩

theorem assert_task (a : Addr) (w : World) : (Instr.typeAssert (.iface 113 (.pointer (some a))) 35 113 true).run Yba.prog w = .ok (.tuple #[.pointer (some a), .bool true]) w := by kernel_rfl

theorem St.start {W w : World} {g c : Nat} {ev : Value} {pen lim adm sk : Int} {n : Nat} (I : QInv W w g c ev pen lim adm sk 0 n) : St W w g c ev pen lim adm sk 0 n := by
  by_cases h : n = 0
  · subst h
    exact .inr ⟨rfl, I.emp⟩
  · exact .inl ⟨by omega, I⟩

set_option maxRecDepth 100000 in
set_option maxHeartbeats 1000000 in
theorem fifo_walk (a0 a1 : Int) (n : Nat) (h0 : 0 ≤ a0) (h1 : a0 ≤ 255) (h2 : -128 ≤ a1) (h3 : a1 ≤ 127) (hn : n ≤ 1024) (w : World) :
    Calls Yba.prog 7 #[.int .u8 a0, .int .i8 a1, .int .u16 (n : Int)] w fun e w' => e = .returned (.bool true) ∧ Grown w w' := by
  have hn' : (n : Int) ≤ 1024 := by omega
  have hta := assert_task
  have hd0 : decide ((1024 : Int) < (n : Int)) = false := by simp; omega
  have hmod0 : 0 ≤ a0 % 8 := by omega
  have hmod1 : a0 % 8 < 8 := by omega
  go_enter Yba.func7, Yba.ntmps7
  go_wp2_with (go_at_call 22; refine (group_open _ a1 0 n hn h2 h3 (by omega) (by omega) _).mono ?_; rintro e w1 ⟨rfl, I⟩)
  go_loopw [9] (fun i wr => ∃ k : Nat, k ≤ n ∧ i = .int .i64 k ∧ St w wr (w.heap.size + 1) w.heap.size .nilIface 0 (a0 % 8 + 1) a1 0 k n) (fun i _ => n - (intOf i).toNat)
  case atStart => exact ⟨0, Nat.zero_le _, rfl, St.start I⟩
  case round =>
    clear I
    obtain ⟨k, hk, rfl, S⟩ := hrel
    by_cases hlt : k < n
    · go_wp2_with (first | (go_at_call 23; refine (rel_st hn (by omega) (by omega) (by omega) hlt S).mono ?_; rintro e w' ⟨rfl, S'⟩; obtain ⟨hT, hA, hN, hP, _⟩ := S'.facts hlt; have hTk := hT k hlt; clear hT) | (go_at_call 24; go_in))
      go_roundw
      case rel => exact ⟨k + 1, by omega, by go_num, S'⟩
      case measure => simp [intOf]; omega
    · obtain rfl : k = n := by omega
      go_wp2_with (first | (go_at_call 23; refine (rel_done (by omega) (by omega) (by omega) S).mono ?_; rintro e w' ⟨rfl, S'⟩; obtain ⟨hT, hA, hN, hP, hG⟩ := S'.facts (Nat.le_refl _); clear hT))
      go_ret
      exact ⟨rfl, hG⟩
end Go.Proofs.Ybulksnw.Queue
