import Derived.Test.YbulksnwSetup
import Derived.Deep.QuietTactic
import Derived.BigQuiet
namespace Go.Proofs.Ybulksnw.Recl
open Go.RowKit

theorem info39' : (Yba.prog.info? 39).map (fun i => (i.zero, i.size, i.bytes)) = some (some (.pointer none), 1, 8) := by kernel_rfl

theorem RS.drewN {W w : World} {S n X c m : Nat} {oc : Option Nat} {cl : Bool} {cv sv ck : Value} {hd : Int} {ho : Nat → Int} {lo : Nat → Bool} (h : RS W w S n X c m oc cl cv sv ck hd ho lo) (q : Nat) : RS W (w.drewN q) S n X c m oc cl cv sv ck hd ho lo :=
  ⟨⟨h.bel.os, h.bel.tape, h.bel.output, h.bel.size, h.bel.block⟩, h.hWS, h.nc, h.xs, h.wk, h.hs, h.hg, h.xr, h.cu⟩

theorem flag_quiet (a : Option Addr) (len cap : Nat) (L : Nat → Bool) (i : Nat) (hi : i ≤ 2000) (w : World) (h : Lst w a len L) (q : Nat) :
    Calls Yba.prog 10 #[.slice a len cap, .int .i64 (i : Int)] (w.drewN q) fun e w' => e = .returned (.bool (fl L len i)) ∧ w' = w.drewN q :=
  flag_any a len cap L i hi (w.drewN q) h

theorem told_yes (lo : Nat → Bool) {k j i : Nat} (h : k < i) (h2 : i ≤ k + j) : told lo k j i = true := if_pos ⟨h, h2⟩
theorem told_no (lo : Nat → Bool) {k j i : Nat} (h : ¬ k < i) : told lo k j i = lo i := if_neg (by omega)

set_option maxRecDepth 100000 in
set_option maxHeartbeats 4000000 in
theorem law_nil (a : Option Addr) (len cap : Nat) (L : Nat → Bool) (n k : Nat) (sel h tH x1 x2 : Int) (cl : Bool) (w : World) (hL : Lst w a len L) (hlen : len ≤ 1024) (hln : (len : Int) + 1 = (n : Int)) (hmod : sel % (n : Int) = (k : Int)) (hk : k < n)
    (hs0 : 0 ≤ sel) (h0 : 0 ≤ h) (hx1 : Hid (IntKind.u64.wrap (h + 1) = x1)) (hx2 : Hid (IntKind.u64.wrap (x1 + 1) = x2)) (hx3 : IntKind.u64.wrap (h + 2) = x2) :
    Calls Yba.prog 3 #[.slice a len cap, .int .u64 sel, .bool false, .bool cl, .int .u64 h, .int .u64 tH] w fun e w' => e = .returned (.bool true) ∧ Below w.heap.size w w' := by
  have hnle : n ≤ 1025 := by omega
  have hnI : (n : Int) ≤ 1025 := by omega
  have hkI : (k : Int) < (n : Int) := by omega
  have hlI : decide ((1024 : Int) < (len : Int)) = false := by simp; omega
  have hmk := run_make_row' (P := Yba.prog) 40 39 (.pointer none) 8 Yba.underlying40 info39' rfl .i64 .i64 n (by omega) (by omega)
  have B0 := B1.start w n h tH (fl L len)
  go_enter Yba.func3, Yba.ntmps3
  go_wp2_with (first | (go_at_call 8; refine (worker_any _ _).mono ?_; rintro e w' ⟨rfl, rfl⟩) | (go_at_call 9; refine (Atom.u64Store _ _ _ _ _ (by go_simp; rfl) (by go_simp)).mono ?_; rintro e w' ⟨rfl, rfl⟩))
  clear hmk
  go_loopw [16] (fun i wr => ∃ j : Nat, j ≤ n ∧ i = .int .i64 j ∧ B1 w wr w.heap.size n j h tH (fl L len)) (fun i _ => n - (intOf i).toNat)
  case atStart => exact ⟨0, Nat.zero_le _, rfl, B0⟩
  case round =>
    clear B0
    obtain ⟨j, hj, rfl, B⟩ := hrel
    by_cases hlt : j < n
    · have hltI : (j : Int) < (n : Int) := by omega
      have LL := hL.later B.bel
      have qc := B.hs.cell (i := j) hlt
      have qz := B.hs.frozen j
      have ql := B.hs.lt
      have B' := B.step hlt
      clear B
      go_wp2_with (go_at_call 10; refine (flag_any a len cap L j (by omega) _ LL).mono ?_; rintro e w' ⟨rfl, rfl⟩)
      go_roundw
      case rel => exact ⟨j + 1, by omega, by go_num, B'⟩
      case measure => simp [intOf]; omega
    · have hltI : ¬ (j : Int) < (n : Int) := by omega
      obtain rfl : j = n := by omega
      have hsz := B.sz
      have D := B.bare cl
      clear B hlt hj
      clear hsz
      obtain ⟨q7, qz7⟩ := D.c7
      go_wp2_with fail
      refine (clone_b2 (D.s7 (.pointer none)) (by omega) (by omega)).mono ?_
      rintro e w2 ⟨X, c, rfl, I⟩
      clear D q7 qz7
      have q8 := I.c8
      have qz8 := I.fz 8
      have qhk := I.hsc hk
      have J := I.s8 (.slice (some ⟨X, 0, none⟩) j c)
      clear I
      go_wp2_with fail
      by_cases he : (h % 2 == 0) = true
      · refine (reclaim_even w.heap.size _ h _ J.c17 h0 he).mono ?_
        rintro e w3 ⟨rfl, rfl⟩
        generalize w2.setCell ⟨w.heap.size, 8, none⟩ (.slice (some ⟨X, 0, none⟩) j c) = w3 at J ⊢
        clear q8 qz8 qhk
        have r7 := J.c7
        have r8 := J.c8
        have r17 := J.c17
        have rh := J.h1 hk
        have hneq := neq_o39
        go_wp2_with (go_at_call 13; refine (Atom.u64Load _ _ h _ r17).mono ?_; rintro e w' ⟨rfl, rfl⟩)
        clear r7 r8 r17 rh
        go_loopw [21] (fun i wr => ∃ q : Nat, q ≤ j ∧ i = .int .i64 q ∧ RS w wr w.heap.size j X c j none cl (.pointer none) (.slice (some ⟨X, 0, none⟩) j c) (.int .u64 0) h (fun _ => tH) (fl L len)) (fun i _ => j - (intOf i).toNat)
        case atStart => exact ⟨0, Nat.zero_le _, rfl, J⟩
        case round =>
          clear J
          obtain ⟨q, hq, rfl, J⟩ := hrel
          by_cases hlt : q < j
          · have hltI : (q : Int) < (j : Int) := by omega
            have r8 := J.c8
            have rx := J.xc hlt (Nat.le_refl _)
            have rs := J.hsc hlt
            have rl := J.h2 hlt
            have LL := hL.later J.bel
            go_wp2
            go_quiet ((go_at_call 10; exact Calls.quiet_of_same (flag_quiet a len cap L q (by omega) _ LL _)))
            go_wp2
            go_roundw
            case rel => exact ⟨q + 1, by omega, by go_num, J.drewN _⟩
            case measure => simp [intOf]; omega
          · have hltI : ¬ (q : Int) < (j : Int) := by omega
            have bel := J.bel
            clear J
            go_wp2
            go_ret
            exact ⟨rfl, bel⟩
      · have he' : (h % 2 == 0) = false := by simpa using he
        clear he
        refine (reclaim_odd_nil hk (by omega) h0 he' hx1 hx2 J).mono ?_
        clear J q8 qz8 qhk
        rintro e w3 ⟨rfl, J⟩
        have r7 := J.c7
        have r8 := J.c8
        have r17 := J.c17
        have rh := J.h1 hk
        rw [if_pos rfl] at rh
        have hneq := neq_o39
        go_wp2_with (go_at_call 13; refine (Atom.u64Load _ _ x2 _ r17).mono ?_; rintro e w' ⟨rfl, rfl⟩)
        clear r7 r8 r17 rh
        go_loopw [22] (fun i wr => ∃ q : Nat, q ≤ k ∧ i = .int .i64 q ∧ RS w wr w.heap.size j X c k none cl (.pointer (some ⟨w.heap.size + 2 + k, 0, none⟩)) (.slice (some ⟨X, 0, none⟩) k c) (.pointer (some ⟨w.heap.size, 15, none⟩)) x2 (fun i => if i = k then x2 else tH) (told (fl L len) k (j - (k + 1)))) (fun i _ => k - (intOf i).toNat)
        case atStart => exact ⟨0, Nat.zero_le _, rfl, J⟩
        case round =>
          clear J
          obtain ⟨q, hq, rfl, J⟩ := hrel
          by_cases hlt : q < k
          · have hltI : (q : Int) < (k : Int) := by omega
            have hltJ : (q : Int) < (j : Int) := by omega
            have r8 := J.c8
            have rx := J.xc hlt (by omega)
            have rs := J.hsc (i := q) (by omega)
            go_wp2
            go_quiet (fail)
            go_wp2
            go_roundw
            case rel => exact ⟨q + 1, by omega, by go_num, J.drewN _⟩
            case measure => simp [intOf]; omega
          · have hltI : ¬ (q : Int) < (k : Int) := by omega
            clear hneq
            go_wp2
            go_loopw [23] (fun i wr => ∃ q : Nat, q ≤ j ∧ i = .int .i64 q ∧ RS w wr w.heap.size j X c k none cl (.pointer (some ⟨w.heap.size + 2 + k, 0, none⟩)) (.slice (some ⟨X, 0, none⟩) k c) (.pointer (some ⟨w.heap.size, 15, none⟩)) x2 (fun i => if i = k then x2 else tH) (told (fl L len) k (j - (k + 1)))) (fun i _ => j - (intOf i).toNat)
            case atStart => exact ⟨0, Nat.zero_le _, rfl, J⟩
            case round =>
              clear J hltI hlt hq
              obtain ⟨q, hq, rfl, J⟩ := hrel
              by_cases hlt : q < j
              · have hltI : (q : Int) < (j : Int) := by omega
                have rs := J.hsc hlt
                have rl := J.h2 hlt
                have LL := hL.later J.bel
                by_cases hkq : k < q
                · have hkI : (k : Int) < (q : Int) := by omega
                  rw [told_yes _ hkq (by omega)] at rl
                  go_wp2_with (go_at_call 10; refine (flag_any a len cap L q (by omega) _ LL).mono ?_; rintro e w' ⟨rfl, rfl⟩)
                  go_roundw
                  case rel => exact ⟨q + 1, by omega, by go_num, J⟩
                  case measure => simp [intOf]; omega
                · have hkI : ¬ (k : Int) < (q : Int) := by omega
                  rw [told_no _ hkq] at rl
                  go_wp2_with (go_at_call 10; refine (flag_any a len cap L q (by omega) _ LL).mono ?_; rintro e w' ⟨rfl, rfl⟩)
                  go_roundw
                  case rel => exact ⟨q + 1, by omega, by go_num, J⟩
                  case measure => simp [intOf]; omega
              · have hltI : ¬ (q : Int) < (j : Int) := by omega
                have bel := J.bel
                clear J
                go_wp2
                go_ret
                exact ⟨rfl, bel⟩

set_option maxRecDepth 100000 in
set_option maxHeartbeats 4000000 in
theorem law_cur (a : Option Addr) (len cap : Nat) (L : Nat → Bool) (n k : Nat) (sel h tH x1 x2 : Int) (cl : Bool) (w : World) (hL : Lst w a len L) (hlen : len ≤ 1024) (hln : (len : Int) + 1 = (n : Int)) (hmod : sel % (n : Int) = (k : Int)) (hk : k < n)
    (hs0 : 0 ≤ sel) (h0 : 0 ≤ h) (hx1 : Hid (IntKind.u64.wrap (h + 1) = x1)) (hx2 : Hid (IntKind.u64.wrap (x1 + 1) = x2)) (hx3 : IntKind.u64.wrap (h + 2) = x2) :
    Calls Yba.prog 3 #[.slice a len cap, .int .u64 sel, .bool true, .bool cl, .int .u64 h, .int .u64 tH] w fun e w' => e = .returned (.bool true) ∧ Below w.heap.size w w' := by
  have hnle : n ≤ 1025 := by omega
  have hnI : (n : Int) ≤ 1025 := by omega
  have hkI : (k : Int) < (n : Int) := by omega
  have hlI : decide ((1024 : Int) < (len : Int)) = false := by simp; omega
  have hmk := run_make_row' (P := Yba.prog) 40 39 (.pointer none) 8 Yba.underlying40 info39' rfl .i64 .i64 n (by omega) (by omega)
  have B0 := B1.start w n h tH (fl L len)
  go_enter Yba.func3, Yba.ntmps3
  go_wp2_with (first | (go_at_call 8; refine (worker_any _ _).mono ?_; rintro e w' ⟨rfl, rfl⟩) | (go_at_call 9; refine (Atom.u64Store _ _ _ _ _ (by go_simp; rfl) (by go_simp)).mono ?_; rintro e w' ⟨rfl, rfl⟩))
  clear hmk
  go_loopw [16] (fun i wr => ∃ j : Nat, j ≤ n ∧ i = .int .i64 j ∧ B1 w wr w.heap.size n j h tH (fl L len)) (fun i _ => n - (intOf i).toNat)
  case atStart => exact ⟨0, Nat.zero_le _, rfl, B0⟩
  case round =>
    clear B0
    obtain ⟨j, hj, rfl, B⟩ := hrel
    by_cases hlt : j < n
    · have hltI : (j : Int) < (n : Int) := by omega
      have LL := hL.later B.bel
      have qc := B.hs.cell (i := j) hlt
      have qz := B.hs.frozen j
      have ql := B.hs.lt
      have B' := B.step hlt
      clear B
      go_wp2_with (go_at_call 10; refine (flag_any a len cap L j (by omega) _ LL).mono ?_; rintro e w' ⟨rfl, rfl⟩)
      go_roundw
      case rel => exact ⟨j + 1, by omega, by go_num, B'⟩
      case measure => simp [intOf]; omega
    · have hltI : ¬ (j : Int) < (n : Int) := by omega
      obtain rfl : j = n := by omega
      have hsz := B.sz
      have D := B.cur cl
      clear B hlt hj
      rw [hsz] at D
      obtain ⟨q7, qz7⟩ := D.c7
      go_wp2_with fail
      refine (clone_b2 (D.s7 (.pointer (some ⟨w.heap.size + 2 + j, 0, none⟩))) (by omega) (by omega)).mono ?_
      rintro e w2 ⟨X, c, rfl, I⟩
      clear D q7 qz7
      have q8 := I.c8
      have qz8 := I.fz 8
      have qhk := I.hsc hk
      have J := I.s8 (.slice (some ⟨X, 0, none⟩) j c)
      clear I
      go_wp2_with fail
      by_cases he : (h % 2 == 0) = true
      · refine (reclaim_even w.heap.size _ h _ J.c17 h0 he).mono ?_
        rintro e w3 ⟨rfl, rfl⟩
        generalize w2.setCell ⟨w.heap.size, 8, none⟩ (.slice (some ⟨X, 0, none⟩) j c) = w3 at J ⊢
        clear q8 qz8 qhk
        have r7 := J.c7
        have r8 := J.c8
        have r17 := J.c17
        have rh := J.h1 hk
        have hneq := neq_o39
        obtain ⟨_, _, fC, rC, qC⟩ := J.cu _ rfl
        have qcu := rC.cell (i := 2) (by omega)
        rw [qC] at qcu
        clear rC qC
        go_wp2_with (go_at_call 13; refine (Atom.u64Load _ _ h _ r17).mono ?_; rintro e w' ⟨rfl, rfl⟩)
        clear r7 r8 r17 rh qcu
        go_loopw [21] (fun i wr => ∃ q : Nat, q ≤ j ∧ i = .int .i64 q ∧ RS w wr w.heap.size j X c j (some (w.heap.size + 2 + j)) cl (.pointer (some ⟨w.heap.size + 2 + j, 0, none⟩)) (.slice (some ⟨X, 0, none⟩) j c) (.int .u64 0) h (fun _ => tH) (fl L len)) (fun i _ => j - (intOf i).toNat)
        case atStart => exact ⟨0, Nat.zero_le _, rfl, J⟩
        case round =>
          clear J
          obtain ⟨q, hq, rfl, J⟩ := hrel
          by_cases hlt : q < j
          · have hltI : (q : Int) < (j : Int) := by omega
            have r8 := J.c8
            have rx := J.xc hlt (Nat.le_refl _)
            have rs := J.hsc hlt
            have rl := J.h2 hlt
            have LL := hL.later J.bel
            go_wp2
            go_quiet ((go_at_call 10; exact Calls.quiet_of_same (flag_quiet a len cap L q (by omega) _ LL _)))
            go_wp2
            go_roundw
            case rel => exact ⟨q + 1, by omega, by go_num, J.drewN _⟩
            case measure => simp [intOf]; omega
          · have hltI : ¬ (q : Int) < (j : Int) := by omega
            have bel := J.bel
            clear J
            go_wp2
            go_ret
            exact ⟨rfl, bel⟩
      · have he' : (h % 2 == 0) = false := by simpa using he
        clear he
        refine (reclaim_odd_cur hk (by omega) h0 he' hx1 hx2 J).mono ?_
        clear J q8 qz8 qhk
        rintro e w3 ⟨rfl, J⟩
        have r7 := J.c7
        have r8 := J.c8
        have r17 := J.c17
        have rh := J.h1 hk
        rw [if_pos rfl] at rh
        have hneq := neq_o39
        obtain ⟨_, _, fC, rC, qC⟩ := J.cu _ rfl
        have qcu := rC.cell (i := 2) (by omega)
        rw [qC] at qcu
        clear rC qC
        go_wp2_with (go_at_call 13; refine (Atom.u64Load _ _ x2 _ r17).mono ?_; rintro e w' ⟨rfl, rfl⟩)
        clear r7 r8 r17 rh qcu
        go_loopw [22] (fun i wr => ∃ q : Nat, q ≤ k ∧ i = .int .i64 q ∧ RS w wr w.heap.size j X c k (some (w.heap.size + 2 + j)) true (.pointer (some ⟨w.heap.size + 2 + k, 0, none⟩)) (.slice (some ⟨X, 0, none⟩) k c) (.pointer (some ⟨w.heap.size, 15, none⟩)) x2 (fun i => if i = k then x2 else tH) (told (fl L len) k (j - (k + 1)))) (fun i _ => k - (intOf i).toNat)
        case atStart => exact ⟨0, Nat.zero_le _, rfl, J⟩
        case round =>
          clear J
          obtain ⟨q, hq, rfl, J⟩ := hrel
          by_cases hlt : q < k
          · have hltI : (q : Int) < (k : Int) := by omega
            have hltJ : (q : Int) < (j : Int) := by omega
            have r8 := J.c8
            have rx := J.xc hlt (by omega)
            have rs := J.hsc (i := q) (by omega)
            go_wp2
            go_quiet (fail)
            go_wp2
            go_roundw
            case rel => exact ⟨q + 1, by omega, by go_num, J.drewN _⟩
            case measure => simp [intOf]; omega
          · have hltI : ¬ (q : Int) < (k : Int) := by omega
            clear hneq
            go_wp2
            go_loopw [23] (fun i wr => ∃ q : Nat, q ≤ j ∧ i = .int .i64 q ∧ RS w wr w.heap.size j X c k (some (w.heap.size + 2 + j)) true (.pointer (some ⟨w.heap.size + 2 + k, 0, none⟩)) (.slice (some ⟨X, 0, none⟩) k c) (.pointer (some ⟨w.heap.size, 15, none⟩)) x2 (fun i => if i = k then x2 else tH) (told (fl L len) k (j - (k + 1)))) (fun i _ => j - (intOf i).toNat)
            case atStart => exact ⟨0, Nat.zero_le _, rfl, J⟩
            case round =>
              clear J hltI hlt hq
              obtain ⟨q, hq, rfl, J⟩ := hrel
              by_cases hlt : q < j
              · have hltI : (q : Int) < (j : Int) := by omega
                have rs := J.hsc hlt
                have rl := J.h2 hlt
                have LL := hL.later J.bel
                by_cases hkq : k < q
                · have hkI : (k : Int) < (q : Int) := by omega
                  rw [told_yes _ hkq (by omega)] at rl
                  go_wp2_with (go_at_call 10; refine (flag_any a len cap L q (by omega) _ LL).mono ?_; rintro e w' ⟨rfl, rfl⟩)
                  go_roundw
                  case rel => exact ⟨q + 1, by omega, by go_num, J⟩
                  case measure => simp [intOf]; omega
                · have hkI : ¬ (k : Int) < (q : Int) := by omega
                  rw [told_no _ hkq] at rl
                  go_wp2_with (go_at_call 10; refine (flag_any a len cap L q (by omega) _ LL).mono ?_; rintro e w' ⟨rfl, rfl⟩)
                  go_roundw
                  case rel => exact ⟨q + 1, by omega, by go_num, J⟩
                  case measure => simp [intOf]; omega
              · have hltI : ¬ (q : Int) < (j : Int) := by omega
                have bel := J.bel
                clear J
                go_wp2
                go_ret
                exact ⟨rfl, bel⟩
end Go.Proofs.Ybulksnw.Recl
