import Derived.Test.YbulksnwReclaim
namespace Go.Proofs.Ybulksnw.Recl
open Go.RowKit

set_option maxRecDepth 100000 in
set_option maxHeartbeats 2000000 in
theorem reclaim_odd_cur {W w : World} {S n X c k C : Nat} {cl : Bool} {h x1 x2 : Int} {ho : Nat → Int} {lo : Nat → Bool} (hk : k < n) (hn : n ≤ 2000) (h0 : 0 ≤ h) (he : (h % 2 == 0) = false) (hx1 : Hid (IntKind.u64.wrap (h + 1) = x1)) (hx2 : Hid (IntKind.u64.wrap (x1 + 1) = x2))
    (I : RS W w S n X c n (some C) cl (.pointer (some ⟨C, 0, none⟩)) (.slice (some ⟨X, 0, none⟩) n c) (.int .u64 0) h ho lo) :
    Calls Yba.prog 12 #[.pointer (some ⟨S, 0, none⟩), .pointer (some ⟨S + 2 + k, 0, none⟩)] w fun e w' => e = .returned (.bool true) ∧
      RS W w' S n X c k (some C) true (.pointer (some ⟨S + 2 + k, 0, none⟩)) (.slice (some ⟨X, 0, none⟩) k c) (.pointer (some ⟨S, 15, none⟩)) x2 (fun i => if i = k then x2 else ho i) (told lo k (n - (k + 1))) := by
  have hc := I.c17
  have hnc := I.nc
  go_enter Yba.func12, Yba.ntmps12
  go_wp2_with (go_at_call 13; refine (Atom.u64Load _ _ h _ hc).mono ?_; rintro e w' ⟨rfl, rfl⟩)
  rw [hx1.out]
  refine (cas_rs I x1).mono ?_
  clear I hc
  rintro e w1 ⟨rfl, I⟩
  have q7 := I.c7
  have q8 := I.c8
  obtain ⟨hSC, hCH, fC, hrC, hC2⟩ := I.cu C rfl
  have qc := hrC.cell (i := 2) (by omega)
  have qcz := hrC.frozen 2
  have hSC' : ¬ S = C := by omega
  have hCS' : ¬ C = S := by omega
  clear hCH hrC hC2 hSC
  go_wp2_with fail
  refine (index_rs (I.curLost true) hk hn).mono ?_
  clear I q7 q8 qc qcz
  rintro e w2 ⟨rfl, I⟩
  have q8 := I.c8
  have hk1 : (k : Int) + 1 ≤ (n : Int) := by omega
  have hn2 : (n : Int) ≤ (c : Int) := by omega
  by_cases hck : c = k + 1
  · obtain rfl : n = k + 1 := by omega
    subst hck
    have I := I.congr (fun _ _ => rfl) (fun i _ => told_zero lo k i)
    go_wp2
    go_loopw [51] (fun i wr => i = .int .i64 0 ∧ RS W wr S (k + 1) X (k + 1) (k + 1) (some C) true (.pointer (some ⟨C, 0, none⟩)) (.slice (some ⟨X, 0, none⟩) (k + 1) (k + 1)) (.int .u64 0) x1 ho (told lo k 0)) (fun _ _ => 0)
    case atStart => exact ⟨rfl, I⟩
    case round =>
      clear I q8
      obtain ⟨rfl, I⟩ := hrel
      have q8 := I.c8
      go_wp2
      have I' := I.drew
      go_region_with (go_at_call 28; refine (delete_rs I' hk hn).mono ?_; rintro e w3 ⟨rfl, J⟩; have q8' := J.c8; have qz' := J.fz; have q7' := J.c7)
      all_goals
        go_wp2_with fail
        refine (add_rs ((J.s8 _).s7 _)).mono ?_
        rintro e w4 ⟨rfl, M⟩
        rw [hx2.out] at M ⊢
        clear J q8' qz' q7'
        have qh := M.h1 hk
        have qz := M.hz hk 1
        go_wp2_with fail
        refine (broadcast_rs (M.hold hk x2)).mono ?_
        rintro e w5 ⟨rfl, N⟩
        go_wp2
        go_ret
        exact ⟨rfl, N.congr (fun _ _ => rfl) (fun i _ => by rw [Nat.sub_self])⟩
  · go_wp2
    go_loopw [51] (fun i wr => ∃ j : Nat, i = .int .i64 j ∧ j ≤ n - (k + 1) ∧ RS W wr S n X c n (some C) true (.pointer (some ⟨C, 0, none⟩)) (.slice (some ⟨X, 0, none⟩) n c) (.int .u64 0) x1 ho (told lo k j)) (fun i _ => n - (k + 1) - (intOf i).toNat)
    case atStart => exact ⟨0, rfl, by omega, I.congr (fun _ _ => rfl) (fun i _ => told_zero lo k i)⟩
    case round =>
      clear I q8
      obtain ⟨j, rfl, hj, I⟩ := hrel
      by_cases hlt : j < n - (k + 1)
      · have hlt' : (j : Int) < ((n - (k + 1) : Nat) : Int) := by omega
        have qx := I.xc (i := k + 1 + j) (by omega) (Nat.le_refl _)
        have qh := I.h2 (i := k + 1 + j) (by omega)
        have qz := I.hz (i := k + 1 + j) (by omega) 2
        have I' := (I.lost (i := k + 1 + j) (by omega) true).congr (fun _ _ => rfl) (fun i _ => told_step lo k j i)
        clear I
        go_wp2
        go_roundw
        case rel => exact ⟨j + 1, by go_num, by omega, I'⟩
        case measure => simp [intOf]; omega
      · have hlt' : ¬ (j : Int) < ((n - (k + 1) : Nat) : Int) := by omega
        obtain rfl : j = n - (k + 1) := by omega
        clear hlt hj
        have q8 := I.c8
        go_wp2
        have I' := I.drew
        go_region_with (go_at_call 28; refine (delete_rs I' hk hn).mono ?_; rintro e w3 ⟨rfl, J⟩; have q8' := J.c8; have qz' := J.fz; have q7' := J.c7)
        all_goals
          go_wp2_with fail
          refine (add_rs ((J.s8 _).s7 _)).mono ?_
          rintro e w4 ⟨rfl, M⟩
          rw [hx2.out] at M ⊢
          clear J q8' qz' q7'
          have qh := M.h1 hk
          have qz := M.hz hk 1
          go_wp2_with fail
          refine (broadcast_rs (M.hold hk x2)).mono ?_
          rintro e w5 ⟨rfl, N⟩
          go_wp2
          go_ret
          exact ⟨rfl, N⟩

end Go.Proofs.Ybulksnw.Recl
