import Derived.Test.YbulksnwRS
import Derived.RegionCalls
import Derived.Deep.RegionWith
namespace Go.Proofs.Ybulksnw.Recl
open Go.RowKit

set_option maxRecDepth 100000 in
theorem reclaim_even (S : Nat) (t : Option Addr) (h : Int) (w : World) (hc : w.cell? ⟨S, 17, none⟩ = some (.int .u64 h)) (h0 : 0 ≤ h) (he : (h % 2 == 0) = true) :
    Calls Yba.prog 12 #[.pointer (some ⟨S, 0, none⟩), .pointer t] w fun e w' => e = .returned (.bool false) ∧ w = w' := by
  go_enter Yba.func12, Yba.ntmps12
  go_wp2_with (go_at_call 13; refine (Atom.u64Load _ _ h _ hc).mono ?_; rintro e w' ⟨rfl, rfl⟩)
  go_ret
  exact ⟨rfl, rfl⟩

section
variable {W w : World} {S n X c m : Nat} {oc : Option Nat} {cl : Bool} {cv sv ck : Value} {hd : Int} {ho : Nat → Int} {lo : Nat → Bool}

theorem RS.congr {ho' : Nat → Int} {lo' : Nat → Bool} (h : RS W w S n X c m oc cl cv sv ck hd ho lo) (e1 : ∀ i, i < n → ho i = ho' i) (e2 : ∀ i, i < n → lo i = lo' i) : RS W w S n X c m oc cl cv sv ck hd ho' lo' :=
  ⟨h.bel, h.hWS, h.nc, h.xs, h.wk, h.hs, fun i hi => by rw [← e1 i hi, ← e2 i hi]; exact h.hg i hi, h.xr, h.cu⟩

theorem cas_rs (I : RS W w S n X c m oc cl cv sv ck hd ho lo) (y : Int) : Calls Yba.prog 26 #[.pointer (some ⟨S, 17, none⟩), .int .u64 hd, .int .u64 y] w fun e w' => e = .returned (.bool true) ∧ RS W w' S n X c m oc cl cv sv ck y ho lo :=
  (Atom.u64Cas S 17 hd y w I.c17 (I.fz 17)).mono fun _ _ ⟨h1, h2⟩ => ⟨h1, h2 ▸ I.s17 y⟩

theorem index_rs (I : RS W w S n X c n oc cl cv sv ck hd ho lo) {k : Nat} (hk : k < n) (hn : n ≤ 2000) : Calls Yba.prog 27 #[.slice (some ⟨X, 0, none⟩) n c, .pointer (some ⟨S + 2 + k, 0, none⟩)] w fun e w' => e = .returned (.int .i64 (k : Int)) ∧ RS W w' S n X c n oc cl cv sv ck hd ho lo :=
  (index_any X n c k (fun i => S + 2 + i) _ w I.xr (fun i hi => if_pos hi) I.nc hk hn (fun i hi => by obtain ⟨f, hr, _⟩ := I.hg i hi; exact ⟨f, hr⟩) (fun i hi => by show S + 2 + k ≠ S + 2 + i; omega)).mono fun _ _ ⟨h1, h2⟩ => ⟨h1, h2 ▸ I⟩

theorem delete_rs (I : RS W w S n X c n oc cl cv sv ck hd ho lo) {k : Nat} (hk : k < n) (hn : n ≤ 2000) : Calls Yba.prog 28 #[.slice (some ⟨X, 0, none⟩) n c, .int .i64 (k : Int), .int .i64 (n : Int)] w fun e w' => e = .returned (.slice (some ⟨X, 0, none⟩) k c) ∧ RS W w' S n X c k oc cl cv sv ck hd ho lo :=
  (delete_any X n c k _ w I.xr hk I.nc hn).mono fun _ _ ⟨h1, h2⟩ => ⟨h1, h2 ▸ I.drew.cut hk⟩

theorem add_rs (I : RS W w S n X c m oc cl cv sv ck hd ho lo) : Calls Yba.prog 29 #[.pointer (some ⟨S, 17, none⟩), .int .u64 1] w fun e w' => e = .returned (.int .u64 (IntKind.u64.wrap (hd + 1))) ∧ RS W w' S n X c m oc cl cv sv ck (IntKind.u64.wrap (hd + 1)) ho lo :=
  (Atom.u64Add S 17 hd 1 _ w I.c17 (I.fz 17) rfl).mono fun _ _ ⟨h1, h2⟩ => ⟨h1, h2 ▸ I.s17 _⟩

theorem broadcast_rs (I : RS W w S n X c m oc cl cv sv (.int .u64 0) hd ho lo) : Calls Yba.prog 30 #[.pointer (some ⟨S, 9, none⟩)] w fun e w' => e = .returned (.tuple #[]) ∧ RS W w' S n X c m oc cl cv sv (.pointer (some ⟨S, 15, none⟩)) hd ho lo :=
  (broadcast_any S 9 w I.c10 I.c11 I.c15 (I.fz 15)).mono fun _ _ ⟨h1, h2⟩ => ⟨h1, h2 ▸ I.s15 _⟩
end

/-- What the holdings' flags are when j above k have been told. -/
def told (lo : Nat → Bool) (k j : Nat) : Nat → Bool := fun i => if k < i ∧ i ≤ k + j then true else lo i

theorem told_zero (lo : Nat → Bool) (k i : Nat) : lo i = told lo k 0 i := by unfold told; rw [if_neg (by omega)]
theorem told_step (lo : Nat → Bool) (k j i : Nat) : (if i = k + 1 + j then true else told lo k j i) = told lo k (j + 1) i := by
  unfold told
  by_cases e : i = k + 1 + j
  · rw [if_pos e, if_pos (by omega)]
  · rw [if_neg e]
    by_cases e2 : k < i ∧ i ≤ k + j
    · rw [if_pos e2, if_pos (by omega)]
    · rw [if_neg e2, if_neg (by omega)]

set_option maxRecDepth 100000 in
set_option maxHeartbeats 2000000 in
theorem reclaim_odd_nil {W w : World} {S n X c k : Nat} {cl : Bool} {h x1 x2 : Int} {ho : Nat → Int} {lo : Nat → Bool} (hk : k < n) (hn : n ≤ 2000) (h0 : 0 ≤ h) (he : (h % 2 == 0) = false) (hx1 : Hid (IntKind.u64.wrap (h + 1) = x1)) (hx2 : Hid (IntKind.u64.wrap (x1 + 1) = x2))
    (I : RS W w S n X c n none cl (.pointer none) (.slice (some ⟨X, 0, none⟩) n c) (.int .u64 0) h ho lo) :
    Calls Yba.prog 12 #[.pointer (some ⟨S, 0, none⟩), .pointer (some ⟨S + 2 + k, 0, none⟩)] w fun e w' => e = .returned (.bool true) ∧
      RS W w' S n X c k none cl (.pointer (some ⟨S + 2 + k, 0, none⟩)) (.slice (some ⟨X, 0, none⟩) k c) (.pointer (some ⟨S, 15, none⟩)) x2 (fun i => if i = k then x2 else ho i) (told lo k (n - (k + 1))) := by
  have hc := I.c17
  have hnc := I.nc
  go_enter Yba.func12, Yba.ntmps12
  go_wp2_with (go_at_call 13; refine (Atom.u64Load _ _ h _ hc).mono ?_; rintro e w' ⟨rfl, rfl⟩)
  rw [hx1.out]
  refine (cas_rs I x1).mono ?_
  clear I hc
  rintro e w1 ⟨rfl, I⟩
  have q7 := I.c7
  have q8 := I.c8
  go_wp2_with fail
  refine (index_rs I hk hn).mono ?_
  clear I q7 q8
  rintro e w2 ⟨rfl, I⟩
  have q8 := I.c8
  have hk1 : (k : Int) + 1 ≤ (n : Int) := by omega
  have hn2 : (n : Int) ≤ (c : Int) := by omega
  by_cases hck : c = k + 1
  · obtain rfl : n = k + 1 := by omega
    subst hck
    have I := I.congr (fun _ _ => rfl) (fun i _ => told_zero lo k i)
    go_wp2
    go_loopw [51] (fun i wr => i = .int .i64 0 ∧ RS W wr S (k + 1) X (k + 1) (k + 1) none cl (.pointer none) (.slice (some ⟨X, 0, none⟩) (k + 1) (k + 1)) (.int .u64 0) x1 ho (told lo k 0)) (fun _ _ => 0)
    case atStart => exact ⟨rfl, I⟩
    case round =>
      clear I q8
      obtain ⟨rfl, I⟩ := hrel
      have q8 := I.c8
      go_wp2
      have I' := I.drew
      go_region_with (go_at_call 28; refine (delete_rs I' hk hn).mono ?_; rintro e w3 ⟨rfl, J⟩; have q8' := J.c8; have qz' := J.fz; have q7' := J.c7)
      all_goals
        go_wp2_with fail
        refine (add_rs ((J.s8 _).s7 _)).mono ?_
        rintro e w4 ⟨rfl, M⟩
        rw [hx2.out] at M ⊢
        clear J q8' qz' q7'
        have qh := M.h1 hk
        have qz := M.hz hk 1
        go_wp2_with fail
        refine (broadcast_rs (M.hold hk x2)).mono ?_
        rintro e w5 ⟨rfl, N⟩
        go_wp2
        go_ret
        exact ⟨rfl, N.congr (fun _ _ => rfl) (fun i _ => by rw [Nat.sub_self])⟩
  · go_wp2
    go_loopw [51] (fun i wr => ∃ j : Nat, i = .int .i64 j ∧ j ≤ n - (k + 1) ∧ RS W wr S n X c n none cl (.pointer none) (.slice (some ⟨X, 0, none⟩) n c) (.int .u64 0) x1 ho (told lo k j)) (fun i _ => n - (k + 1) - (intOf i).toNat)
    case atStart => exact ⟨0, rfl, by omega, I.congr (fun _ _ => rfl) (fun i _ => told_zero lo k i)⟩
    case round =>
      clear I q8
      obtain ⟨j, rfl, hj, I⟩ := hrel
      by_cases hlt : j < n - (k + 1)
      · have hlt' : (j : Int) < ((n - (k + 1) : Nat) : Int) := by omega
        have qx := I.xc (i := k + 1 + j) (by omega) (Nat.le_refl _)
        have qh := I.h2 (i := k + 1 + j) (by omega)
        have qz := I.hz (i := k + 1 + j) (by omega) 2
        have I' := (I.lost (i := k + 1 + j) (by omega) true).congr (fun _ _ => rfl) (fun i _ => told_step lo k j i)
        clear I
        go_wp2
        go_roundw
        case rel => exact ⟨j + 1, by go_num, by omega, I'⟩
        case measure => simp [intOf]; omega
      · have hlt' : ¬ (j : Int) < ((n - (k + 1) : Nat) : Int) := by omega
        obtain rfl : j = n - (k + 1) := by omega
        clear hlt hj
        have q8 := I.c8
        go_wp2
        have I' := I.drew
        go_region_with (go_at_call 28; refine (delete_rs I' hk hn).mono ?_; rintro e w3 ⟨rfl, J⟩; have q8' := J.c8; have qz' := J.fz; have q7' := J.c7)
        all_goals
          go_wp2_with fail
          refine (add_rs ((J.s8 _).s7 _)).mono ?_
          rintro e w4 ⟨rfl, M⟩
          rw [hx2.out] at M ⊢
          clear J q8' qz' q7'
          have qh := M.h1 hk
          have qz := M.hz hk 1
          go_wp2_with fail
          refine (broadcast_rs (M.hold hk x2)).mono ?_
          rintro e w5 ⟨rfl, N⟩
          go_wp2
          go_ret
          exact ⟨rfl, N⟩

end Go.Proofs.Ybulksnw.Recl
