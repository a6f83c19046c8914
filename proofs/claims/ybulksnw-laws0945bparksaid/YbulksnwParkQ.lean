import Derived.Test.YbulksnwParkN
import Derived.Test.YbulksnwParkO
import Derived.Test.YbulksnwParkP
namespace Go.Proofs.Ybulksnw.Park
open Go.RowKit Go.Conc
open Recl (wcells worker_any wpList_append_eq)
set_option maxRecDepth 100000 in
theorem tail_any (B n x C : Nat) (g : Option Addr) (a0 a5 a6 a8 a9 us : Bool) (a1 a2 a3 a7 : Int) (W w : World) (hn : n ≤ 255) (t30 t31 t32 t33 t34 t35 t36 t37 t38 t39 t40 t41 t42 t43 t44 t45 t46 t47 t48 t49 t50 t51 t52 t53 t54 t55 t56 t57 t58 t59 t60 t61 t62 t63 t64 t65 t66 t67 t68 t69 t70 t71 t72 t73 t74 t75 t76 t77 t78 t79 t80 t81 t82 t83 t84 t85 t86 t87 t88 t89 t90 t91 t92 t93 t94 t95 t96 t97 t98 t99 t100 t101 t102 t103 t104 t105 t106 t107 t108 t109 t110 t111 t112 t113 t114 t115 t116 t117 t118 t119 t120 t121 t122 t123 t124 t125 t126 t127 t128 t129 t130 t131 t132 t133 t134 t135 t136 t137 t138 t139 t140 t141 t142 t143 t144 t145 : Value) (hus : us = (a5 && (a6 || decide (0 < a7))))
    (PK : Calls Yba.prog 18 #[.pointer (some ⟨B, 0, none⟩), .pointer (some ⟨x, 0, none⟩), .pointer g] w fun e w' => e = .returned (.bool (decide (0 < a2) || !(a0 && decide (a1 = 0)))) ∧
      Fork (decide (0 < a2) || (a0 && decide (a1 = 0)) || (decide (0 < a3) || us)) (fun w' => ∃ a' c', En W w' B x C n n a8 (b32 a9) (.chan 1 #[.agg #[]] false 1 0 false) a' c') (fun w' => ∃ a' c', n + 1 ≤ c' ∧ En W w' B x C n (n + 1) false (b32 (a9 && !a8)) (.chan 1 #[] false 1 1 false) a' c') w') :
    wpK Yba.prog rest30 (bodyPost Yba.prog Yba.f4 fun e w' => e = .returned (.bool true) ∧ Below W.heap.size W w') { tmps := #[.bool a0, .int .i64 a1, .int .i64 a2, .int .i32 a3, .int .u8 n, .bool a5, .bool a6, .int .i32 a7, .bool a8, .bool a9, undef, undef, undef, undef, undef, undef, undef, undef, undef, undef, .bool false, .pointer (some ⟨B, 0, none⟩), .slice (some ⟨B + 1, 0, none⟩) n n, .int .i64 n, .int .i64 n, .pointer (some ⟨x, 0, none⟩), .pointer g, undef, undef, undef, t30, t31, t32, t33, t34, t35, t36, t37, t38, t39, t40, t41, t42, t43, t44, t45, t46, t47, t48, t49, t50, t51, t52, t53, t54, t55, t56, t57, t58, t59, t60, t61, t62, t63, t64, t65, t66, t67, t68, t69, t70, t71, t72, t73, t74, t75, t76, t77, t78, t79, t80, t81, t82, t83, t84, t85, t86, t87, t88, t89, t90, t91, t92, t93, t94, t95, t96, t97, t98, t99, t100, t101, t102, t103, t104, t105, t106, t107, t108, t109, t110, t111, t112, t113, t114, t115, t116, t117, t118, t119, t120, t121, t122, t123, t124, t125, t126, t127, t128, t129, t130, t131, t132, t133, t134, t135, t136, t137, t138, t139, t140, t141, t142, t143, t144, t145, undef, undef, undef, undef, undef, undef, undef, undef, undef, undef, undef, undef, undef, undef, undef, undef, undef, undef, undef, undef, undef, undef, undef, undef, undef, undef, undef, undef, undef, undef, undef, undef, undef, undef, undef, undef, undef, undef, undef, undef, undef, undef, undef, undef, undef, undef, undef, undef, undef, undef, undef, undef, undef, undef, undef, undef, undef, undef, undef, undef, undef, undef, undef, undef, undef, undef, undef, undef, undef, undef, undef, undef, undef, undef, undef, undef, undef, undef, undef, undef, undef, undef, undef, undef, undef, undef, undef, undef, undef, undef, undef, undef, undef, undef, undef, undef, undef, undef, undef, undef, undef, undef, undef, undef, undef, undef, undef, undef, undef, undef, undef, undef, undef, undef, undef, undef, undef, undef, undef, undef, undef, undef, undef, undef, undef, undef, undef, undef, undef, undef, undef, undef, undef, undef, undef, undef, undef, undef, undef, undef, undef, undef, undef, undef, undef, undef, undef, undef, undef, undef, undef, undef, undef, undef, undef, undef, undef, undef, undef, undef, undef, undef, undef, undef, undef, undef, undef, undef, undef, undef, undef, undef, undef, undef, undef, undef, undef, undef, undef, undef, undef, undef, undef, undef, undef, undef, undef, undef, undef, undef, undef, undef], defers := [] } w := by
  subst hus
  by_cases h0 : 0 < a2
  · rw [decide_eq_true h0] at PK
    exact tail_shared B n x C g a0 a5 a6 a8 a9 a1 a2 a3 a7 W w hn t30 t31 t32 t33 t34 t35 t36 t37 t38 t39 t40 t41 t42 t43 t44 t45 t46 t47 t48 t49 t50 t51 t52 t53 t54 t55 t56 t57 t58 t59 t60 t61 t62 t63 t64 t65 t66 t67 t68 t69 t70 t71 t72 t73 t74 t75 t76 t77 t78 t79 t80 t81 t82 t83 t84 t85 t86 t87 t88 t89 t90 t91 t92 t93 t94 t95 t96 t97 t98 t99 t100 t101 t102 t103 t104 t105 t106 t107 t108 t109 t110 t111 t112 t113 t114 t115 t116 t117 t118 t119 t120 t121 t122 t123 t124 t125 t126 t127 t128 t129 t130 t131 t132 t133 t134 t135 t136 t137 t138 t139 t140 t141 t142 t143 t144 t145 h0 (PK.mono fun e w' h => ⟨h.1, h.2.1 rfl⟩)
  · rw [decide_eq_false h0] at PK
    cases a0
    · cases hs : (decide (0 < a3) || (a5 && (a6 || decide (0 < a7))))
      · rw [hs] at PK
        exact tail_wait0 B n x C g a5 a6 a8 a9 a1 a2 a3 a7 W w hn t30 t31 t32 t33 t34 t35 t36 t37 t38 t39 t40 t41 t42 t43 t44 t45 t46 t47 t48 t49 t50 t51 t52 t53 t54 t55 t56 t57 t58 t59 t60 t61 t62 t63 t64 t65 t66 t67 t68 t69 t70 t71 t72 t73 t74 t75 t76 t77 t78 t79 t80 t81 t82 t83 t84 t85 t86 t87 t88 t89 t90 t91 t92 t93 t94 t95 t96 t97 t98 t99 t100 t101 t102 t103 t104 t105 t106 t107 t108 t109 t110 t111 t112 t113 t114 t115 t116 t117 t118 t119 t120 t121 t122 t123 t124 t125 t126 t127 t128 t129 t130 t131 t132 t133 t134 t135 t136 t137 t138 t139 t140 t141 t142 t143 t144 t145 h0 hs (PK.mono fun e w' h => ⟨h.1, h.2.2 rfl⟩)
      · rw [hs] at PK
        exact tail_stop0 B n x C g a5 a6 a8 a9 a1 a2 a3 a7 W w hn t30 t31 t32 t33 t34 t35 t36 t37 t38 t39 t40 t41 t42 t43 t44 t45 t46 t47 t48 t49 t50 t51 t52 t53 t54 t55 t56 t57 t58 t59 t60 t61 t62 t63 t64 t65 t66 t67 t68 t69 t70 t71 t72 t73 t74 t75 t76 t77 t78 t79 t80 t81 t82 t83 t84 t85 t86 t87 t88 t89 t90 t91 t92 t93 t94 t95 t96 t97 t98 t99 t100 t101 t102 t103 t104 t105 t106 t107 t108 t109 t110 t111 t112 t113 t114 t115 t116 t117 t118 t119 t120 t121 t122 t123 t124 t125 t126 t127 t128 t129 t130 t131 t132 t133 t134 t135 t136 t137 t138 t139 t140 t141 t142 t143 t144 t145 h0 hs (PK.mono fun e w' h => ⟨h.1, h.2.1 rfl⟩)
    · by_cases hpe : a1 = 0
      · rw [decide_eq_true hpe] at PK
        exact tail_closed B n x C g a5 a6 a8 a9 a1 a2 a3 a7 W w hn t30 t31 t32 t33 t34 t35 t36 t37 t38 t39 t40 t41 t42 t43 t44 t45 t46 t47 t48 t49 t50 t51 t52 t53 t54 t55 t56 t57 t58 t59 t60 t61 t62 t63 t64 t65 t66 t67 t68 t69 t70 t71 t72 t73 t74 t75 t76 t77 t78 t79 t80 t81 t82 t83 t84 t85 t86 t87 t88 t89 t90 t91 t92 t93 t94 t95 t96 t97 t98 t99 t100 t101 t102 t103 t104 t105 t106 t107 t108 t109 t110 t111 t112 t113 t114 t115 t116 t117 t118 t119 t120 t121 t122 t123 t124 t125 t126 t127 t128 t129 t130 t131 t132 t133 t134 t135 t136 t137 t138 t139 t140 t141 t142 t143 t144 t145 h0 hpe (PK.mono fun e w' h => ⟨h.1, h.2.1 rfl⟩)
      · rw [decide_eq_false hpe] at PK
        cases hs : (decide (0 < a3) || (a5 && (a6 || decide (0 < a7))))
        · rw [hs] at PK
          exact tail_wait1 B n x C g a5 a6 a8 a9 a1 a2 a3 a7 W w hn t30 t31 t32 t33 t34 t35 t36 t37 t38 t39 t40 t41 t42 t43 t44 t45 t46 t47 t48 t49 t50 t51 t52 t53 t54 t55 t56 t57 t58 t59 t60 t61 t62 t63 t64 t65 t66 t67 t68 t69 t70 t71 t72 t73 t74 t75 t76 t77 t78 t79 t80 t81 t82 t83 t84 t85 t86 t87 t88 t89 t90 t91 t92 t93 t94 t95 t96 t97 t98 t99 t100 t101 t102 t103 t104 t105 t106 t107 t108 t109 t110 t111 t112 t113 t114 t115 t116 t117 t118 t119 t120 t121 t122 t123 t124 t125 t126 t127 t128 t129 t130 t131 t132 t133 t134 t135 t136 t137 t138 t139 t140 t141 t142 t143 t144 t145 h0 hpe hs (PK.mono fun e w' h => ⟨h.1, h.2.2 rfl⟩)
        · rw [hs] at PK
          exact tail_stop1 B n x C g a5 a6 a8 a9 a1 a2 a3 a7 W w hn t30 t31 t32 t33 t34 t35 t36 t37 t38 t39 t40 t41 t42 t43 t44 t45 t46 t47 t48 t49 t50 t51 t52 t53 t54 t55 t56 t57 t58 t59 t60 t61 t62 t63 t64 t65 t66 t67 t68 t69 t70 t71 t72 t73 t74 t75 t76 t77 t78 t79 t80 t81 t82 t83 t84 t85 t86 t87 t88 t89 t90 t91 t92 t93 t94 t95 t96 t97 t98 t99 t100 t101 t102 t103 t104 t105 t106 t107 t108 t109 t110 t111 t112 t113 t114 t115 t116 t117 t118 t119 t120 t121 t122 t123 t124 t125 t126 t127 t128 t129 t130 t131 t132 t133 t134 t135 t136 t137 t138 t139 t140 t141 t142 t143 t144 t145 h0 hpe hs (PK.mono fun e w' h => ⟨h.1, h.2.1 rfl⟩)

set_option maxRecDepth 100000 in
set_option maxHeartbeats 40000000 in
theorem law (a0 : Bool) (a1 : Int) (a2 : Int) (a3 : Int) (n : Nat) (a5 : Bool) (a6 : Bool) (a7 : Int) (a8 : Bool) (a9 : Bool) (hn : n ≤ 255) (w : World) :
    Calls Yba.prog 4 #[.bool a0, .int .i64 a1, .int .i64 a2, .int .i32 a3, .int .u8 n, .bool a5, .bool a6, .int .i32 a7, .bool a8, .bool a9] w fun e w' => e = .returned (.bool true) ∧ Below w.heap.size w w' := by
  have hmk := run_make_room (P := Yba.prog) 67 24 (.pointer none) 8 Yba.underlying67 info24' rfl .i64 .i64 n (by omega) (by omega)
  refine calls_of_wpK Yba.func4 rfl ?_
  simp only [Yba.ntmps4, List.size_toArray, List.length_cons, List.length_nil, Nat.reduceAdd, Nat.reduceSub, Array.replicate_succ, Array.replicate_zero, List.push_toArray, List.append_toArray, List.nil_append, List.cons_append]
  refine wpK_seq_k fun K hK => ?_
  go_wp2
  refine wpK_seq_k fun K hK => ?_
  go_wp2
  refine wpK_seq_k fun K hK => ?_
  go_wp2
  refine wpK_seq_k fun K hK => ?_
  go_wp2
  clear hmk
  refine wpK_seq_k fun K hK => ?_
  go_wp2
  have S0 := L1.start w n
  go_loopw [22, 23] (fun p i wr => ∃ j : Nat, j ≤ n ∧ p = .slice (some ⟨w.heap.size + 1, 0, none⟩) j n ∧ i = .int .i64 j ∧ L1 w wr w.heap.size n j) (fun _ i _ => n - (intOf i).toNat)
  case atStart => exact ⟨0, Nat.zero_le _, rfl, rfl, S0⟩
  case round =>
    clear S0
    obtain ⟨j, hj, rfl, rfl, L⟩ := hrel
    by_cases hlt : j < n
    · have hltI : (j : Int) < (n : Int) := by omega
      have R1 := (L.prior.alloc (.cells (wcells wr.heap.size (.pointer (some ⟨w.heap.size, 0, none⟩))) 58)).alloc (.cells #[.pointer (some ⟨wr.heap.size, 0, none⟩)] 24)
      have T := World.rowIs_alloc (wr.alloc (.cells (wcells wr.heap.size (.pointer (some ⟨w.heap.size, 0, none⟩))) 58)) #[.pointer (some ⟨wr.heap.size, 0, none⟩)] 24 (fun _ => .pointer (some ⟨wr.heap.size, 0, none⟩)) (fun i hi => by
        simp at hi
        subst hi
        rfl)
      rw [World.size_alloc] at T
      have HR : Hid _ := append_room R1 (show j + 1 ≤ n by omega) (wr.heap.size + 1) T 67
      have L' := L.step hlt (.pointer (some ⟨w.heap.size, 0, none⟩))
      clear L R1 T
      go_wp2_with (first | (go_at_call 8; refine (worker_any _ _).mono ?_; rintro e w' ⟨rfl, rfl⟩) | (at_builtin; refine wpList_append_eq rfl _ _ _ _ rfl rfl rfl HR.out ?_))
      go_roundw
      case rel => exact ⟨j + 1, by omega, by go_num, by go_num, L'⟩
      case measure => simp [intOf]; omega
    · have hltI : ¬ (j : Int) < (n : Int) := by omega
      obtain rfl : n = j := by omega
      go_wp2
      clear hltI hlt hj
      refine wpK_seq_k fun K hK => ?_
      go_wp2
      have S0 := L2.start L
      clear L
      go_loopw [24] (fun i w2 => ∃ (j : Nat) (a : Option Addr) (c : Nat), j ≤ n ∧ i = .int .i64 j ∧ L2 w wr w2 w.heap.size n j a c) (fun i _ => n - (intOf i).toNat)
      case atStart => exact ⟨0, none, 0, Nat.zero_le _, rfl, S0⟩
      case round =>
        clear S0
        obtain ⟨j, a, c, hj, rfl, L⟩ := hrel
        by_cases hlt : j < n
        · have hltI : (j : Int) < (n : Int) := by omega
          have q1 : wr.cell? ⟨w.heap.size, 1217, none⟩ = some (.slice a j c) := by rw [L.pool.cell (by omega)]; rfl
          have q2 : wr.cell? ⟨w.heap.size + 1, j, none⟩ = some (.pointer (some ⟨w.heap.size + 2 + 2 * j, 0, none⟩)) := by
            rw [(L.kept.row L.l1.prior (by omega)).cell hlt, if_pos hlt]
          have q4 : (wr.alloc (.cells #[.pointer (some ⟨w.heap.size + 2 + 2 * j, 0, none⟩)] 24)).cell? ⟨w.heap.size, 1217, none⟩ = some (.slice a j c) := by rw [(L.pool.alloc _).cell (by omega)]; rfl
          have T0 := (World.rowIs_alloc wr #[.pointer (some ⟨w.heap.size + 2 + 2 * j, 0, none⟩)] 24 (fun _ => .pointer (some ⟨(fun i => w.heap.size + 2 + 2 * i) j, 0, none⟩)) (fun i hi => by
            simp at hi
            subst hi
            rfl)).drew
          have I2 : IL (wr.alloc (.cells #[.pointer (some ⟨w.heap.size + 2 + 2 * j, 0, none⟩)] 24)).drew a j c (fun i => w.heap.size + 2 + 2 * i) := L.il.kept (((Kept.refl (fun _ => False) wr).alloc _).drew) (fun _ _ h => h)
          obtain ⟨a', c', w3, hrun, I3, k3, ha'⟩ := append_one I2 (by omega) wr.heap.size T0 67
          have L' := L.step _ I3 k3 ha'
          have R3 := k3.row (L.pool.alloc _).drew L.aB
          have q3 : w3.cell? ⟨w.heap.size, 1217, none⟩ = some (.slice a j c) := by rw [R3.cell (by omega)]; rfl
          have z3 := R3.frozen 1217
          have HR : Hid _ := hrun
          clear hrun I2 I3 T0 k3 ha' R3 L
          go_wp2
          go_region_law (refine step_append_eq rfl _ _ _ _ rfl rfl rfl HR.out ?_)
          all_goals
            clear q1 q2 q3 q4 z3 HR
            go_wp2
            go_roundw
            case rel => exact ⟨j + 1, a', c', by omega, by go_num, L'⟩
            case measure => simp [intOf]; omega
        · have hltI : ¬ (j : Int) < (n : Int) := by omega
          obtain rfl : n = j := by omega
          clear hltI hlt hj
          go_wp2
          have hwr : IntKind.i32.wrap (n : Int) = (n : Int) := by rw [IntKind.wrap_i32]; omega
          have R := L.pool
          have k : Kept (fun b => b = w.heap.size) wr wr := Kept.refl _ wr
          have hlB := R.lt
          have cc := R.cell (i := 1218) (by omega)
          have cz := R.frozen 1218
          refine wpK_seq_k fun K hK => ?_
          go_wp2_with (go_at_call 14; refine (Atom.i32Store _ 1218 _ _ _ cc cz).mono ?_; rintro e w' ⟨rfl, rfl⟩)
          replace R := (R.set 1218 (.int .i32 n))
          replace k := (k.set (g := w.heap.size) rfl 1218 (.int .i32 n))
          clear cc cz
          generalize (wr.setCell ⟨w.heap.size, 1218, none⟩ (.int .i32 n)) = w2 at R k ⊢
          have cc := R.cell (i := 1226) (by omega)
          have cz := R.frozen 1226
          refine wpK_seq_k fun K hK => ?_
          go_wp2_with (go_at_call 15; refine (boolStore' _ 1226 _ _ _ cc cz).mono ?_; rintro e w' ⟨rfl, rfl⟩)
          replace R := (R.set 1226 (.int .u32 (b32 a0))).drew
          replace k := (k.set (g := w.heap.size) rfl 1226 (.int .u32 (b32 a0))).drew
          clear cc cz
          generalize (w2.setCell ⟨w.heap.size, 1226, none⟩ (.int .u32 (b32 a0))).drew = w3 at R k ⊢
          have cc := R.cell (i := 1225) (by omega)
          have cz := R.frozen 1225
          refine wpK_seq_k fun K hK => ?_
          go_wp2_with (go_at_call 16; refine (Atom.i64Store _ 1225 _ _ _ cc cz).mono ?_; rintro e w' ⟨rfl, rfl⟩)
          replace R := (R.set 1225 (.int .i64 a1))
          replace k := (k.set (g := w.heap.size) rfl 1225 (.int .i64 a1))
          clear cc cz
          generalize (w3.setCell ⟨w.heap.size, 1225, none⟩ (.int .i64 a1)) = w4 at R k ⊢
          have cc := R.cell (i := 1216) (by omega)
          have cz := R.frozen 1216
          refine wpK_seq_k fun K hK => ?_
          go_wp2_with (go_at_call 16; refine (Atom.i64Store _ 1216 _ _ _ cc cz).mono ?_; rintro e w' ⟨rfl, rfl⟩)
          replace R := (R.set 1216 (.int .i64 a2))
          replace k := (k.set (g := w.heap.size) rfl 1216 (.int .i64 a2))
          clear cc cz
          generalize (w4.setCell ⟨w.heap.size, 1216, none⟩ (.int .i64 a2)) = w5 at R k ⊢
          have cc := R.cell (i := 1224) (by omega)
          have cz := R.frozen 1224
          refine wpK_seq_k fun K hK => ?_
          go_wp2_with (go_at_call 14; refine (Atom.i32Store _ 1224 _ _ _ cc cz).mono ?_; rintro e w' ⟨rfl, rfl⟩)
          replace R := (R.set 1224 (.int .i32 a3))
          replace k := (k.set (g := w.heap.size) rfl 1224 (.int .i32 a3))
          clear cc cz
          generalize (w5.setCell ⟨w.heap.size, 1224, none⟩ (.int .i32 a3)) = w6 at R k ⊢
          have cc := R.cell (i := 1220) (by omega)
          have cz := R.frozen 1220
          refine wpK_seq_k fun K hK => ?_
          go_wp2_with (go_at_call 15; refine (boolStore' _ 1220 _ _ _ cc cz).mono ?_; rintro e w' ⟨rfl, rfl⟩)
          replace R := (R.set 1220 (.int .u32 (b32 a9))).drew
          replace k := (k.set (g := w.heap.size) rfl 1220 (.int .u32 (b32 a9))).drew
          clear cc cz
          generalize (w6.setCell ⟨w.heap.size, 1220, none⟩ (.int .u32 (b32 a9))).drew = w7 at R k ⊢
          clear hwr
          refine wpK_seq_k fun K hK => ?_
          go_wp2_with (go_at_call 8; refine (worker_any _ _).mono ?_; rintro e w' ⟨rfl, rfl⟩)
          have X := wf_row w7 w.heap.size
          replace R : w7.rowIs w.heap.size 85 1233 (pf w.heap.size n c a a0 a9 a1 a2 a3) := R
          obtain ⟨x, hx⟩ : ∃ x, x = w7.heap.size := ⟨_, rfl⟩
          have hxs : wr.heap.size ≤ x := by rw [hx]; exact k.size
          replace R := R.alloc (.cells (wcells w7.heap.size (.pointer (some ⟨w.heap.size, 0, none⟩))) 58)
          replace k := k.alloc (.cells (wcells w7.heap.size (.pointer (some ⟨w.heap.size, 0, none⟩))) 58)
          rw [← hx] at X R k ⊢
          generalize w7.alloc (.cells (wcells x (.pointer (some ⟨w.heap.size, 0, none⟩))) 58) = w8 at X R k ⊢
          clear hx
          have cc := X.cell (i := 20) (by omega)
          have cz := X.frozen 20
          refine wpK_seq_k fun K hK => ?_
          go_wp2
          replace X := X.set 20 (.bool true)
          replace R := R.setOther (a := ⟨x, 20, none⟩) (show w.heap.size ≠ x by omega) (.bool true)
          replace k := k.widen (Kept.set (D := fun b => b = x) (Kept.refl _ w8) (g := x) rfl 20 (.bool true)) (fun d e => .inr (by omega))
          clear cc cz
          generalize w8.setCell ⟨x, 20, none⟩ (.bool true) = w9 at X R k ⊢
          have hch := make_chan
          have cc := (X.alloc (.chan 1 #[] false 0 0 false)).cell (i := 19) (by omega)
          have cz := (X.alloc (.chan 1 #[] false 0 0 false)).frozen 19
          refine wpK_seq_k fun K hK => ?_
          go_wp2
          have m := M.start R X k hlB hxs (.chan 1 #[] false 0 0 false) (.chan (some w9.heap.size))
          clear R X k cc cz hch
          obtain ⟨C, hC⟩ : ∃ C, C = w9.heap.size := ⟨_, rfl⟩
          rw [← hC] at m ⊢
          generalize (w9.alloc (.chan 1 #[] false 0 0 false)).setCell ⟨x, 19, none⟩ (.chan (some C)) = w10 at m ⊢
          clear hC
          have cc : w10.cell? ⟨x, 19, none⟩ = some (.chan (some C)) := by rw [m.wk.cell (by omega)]; rfl
          refine wpK_seq (wpR_region ?_)
          change wpR _ _ _ [0, 1, 2, 3, 4, 5] _ _
          refine wpR_value rfl rfl rfl ?_
          refine wpR_value rfl rfl rfl ?_
          refine wpR_value rfl rfl (v := .pointer (some ⟨x, 19, none⟩)) (w' := w10) (by kernel_rfl) ?_
          refine wpR_value rfl rfl (v := .chan (some C)) (w' := w10) (by simp [go_sem, cc]) ?_
          refine wpR_value rfl rfl (v := .agg #[]) (w' := w10) (by kernel_rfl) ?_
          refine wpR_send rfl rfl (c := C) (v := .agg #[]) (z := .tuple #[]) (by simp [go_sem]; rfl) m.ch (by decide) ?_
          refine wpR_nil ?_
          clear cc
          show wpK _ _ _ _ (w10.setChan C 1 #[.agg #[]] false 1 0 false)
          replace m := m.chan 1 #[.agg #[]] false 1 0 false
          generalize w10.setChan C 1 #[.agg #[]] false 1 0 false = w11 at m ⊢
          have cc := m.wk.cell (i := 21) (by omega)
          have cz := m.wk.frozen 21
          refine wpK_seq_k fun K hK => ?_
          go_wp2
          replace m := m.setX 21 (.bool a8)
          generalize w11.setCell ⟨x, 21, none⟩ (.bool a8) = w12 at m ⊢
          clear cc cz
          have cc := m.wk.cell (i := 16) (by omega)
          have cz := m.wk.frozen 16
          refine wpK_seq_k fun K hK => ?_
          go_wp2_with (go_at_call 14; refine (Atom.i32Store _ 16 _ _ _ cc cz).mono ?_; rintro e w' ⟨rfl, rfl⟩)
          replace m := m.setX 16 (.int .i32 a7)
          generalize w12.setCell ⟨x, 16, none⟩ (.int .i32 a7) = w13 at m ⊢
          clear cc cz
          refine wpK_seq_k fun K hK => ?_
          go_wp2
          refine wpK_seq_k fun K hK => ?_
          replace m : M wr w13 w.heap.size x C (pf w.heap.size n c a a0 a9 a1 a2 a3) (hf w.heap.size x C a7 a8) (.chan 1 #[.agg #[]] false 1 0 false) := m
          have hwr : IntKind.i32.wrap (n : Int) = (n : Int) := by rw [IntKind.wrap_i32]; omega
          cases a5
          · have PK := park_law hn L m (.inl ⟨rfl, rfl⟩)
            clear L m
            go_wp2
            exact tail_any w.heap.size n x C none a0 false a6 a8 a9 _ a1 a2 a3 a7 w _ hn _ _ _ _ _ _ _ _ _ _ _ _ _ _ _ _ _ _ _ _ _ _ _ _ _ _ _ _ _ _ _ _ _ _ _ _ _ _ _ _ _ _ _ _ _ _ _ _ _ _ _ _ _ _ _ _ _ _ _ _ _ _ _ _ _ _ _ _ _ _ _ _ _ _ _ _ _ _ _ _ _ _ _ _ _ _ _ _ _ _ _ _ _ _ _ _ _ _ _ _ _ _ _ _ _ _ _ _ _ _ _ _ _ _ _ _ rfl PK
          · cases a6
            · have PK := park_law hn L (m.alloc _) (GU.made m false 1 rfl a7)
              clear L m
              go_wp2_with (go_at_call 17; refine (background _).mono ?_; rintro e w' ⟨rfl, rfl⟩)
              exact tail_any w.heap.size n x C _ a0 true false a8 a9 _ a1 a2 a3 a7 w _ hn _ _ _ _ _ _ _ _ _ _ _ _ _ _ _ _ _ _ _ _ _ _ _ _ _ _ _ _ _ _ _ _ _ _ _ _ _ _ _ _ _ _ _ _ _ _ _ _ _ _ _ _ _ _ _ _ _ _ _ _ _ _ _ _ _ _ _ _ _ _ _ _ _ _ _ _ _ _ _ _ _ _ _ _ _ _ _ _ _ _ _ _ _ _ _ _ _ _ _ _ _ _ _ _ _ _ _ _ _ _ _ _ _ _ _ _ rfl PK
            · have PK := park_law hn L (m.alloc _) (GU.made m true 0 rfl a7)
              clear L m
              go_wp2_with (go_at_call 17; refine (background _).mono ?_; rintro e w' ⟨rfl, rfl⟩)
              exact tail_any w.heap.size n x C _ a0 true true a8 a9 _ a1 a2 a3 a7 w _ hn _ _ _ _ _ _ _ _ _ _ _ _ _ _ _ _ _ _ _ _ _ _ _ _ _ _ _ _ _ _ _ _ _ _ _ _ _ _ _ _ _ _ _ _ _ _ _ _ _ _ _ _ _ _ _ _ _ _ _ _ _ _ _ _ _ _ _ _ _ _ _ _ _ _ _ _ _ _ _ _ _ _ _ _ _ _ _ _ _ _ _ _ _ _ _ _ _ _ _ _ _ _ _ _ _ _ _ _ _ _ _ _ _ _ _ _ rfl PK

end Go.Proofs.Ybulksnw.Park
