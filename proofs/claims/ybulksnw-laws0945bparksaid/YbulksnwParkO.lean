import Derived.Test.YbulksnwParkM
namespace Go.Proofs.Ybulksnw.Park
open Go.RowKit Go.Conc

set_option maxRecDepth 100000 in
set_option maxHeartbeats 40000000 in
theorem tail_wait0 (B n x C : Nat) (g : Option Addr) (a5 a6 a8 a9 : Bool) (a1 a2 a3 a7 : Int) (W w : World) (hn : n ≤ 255) (t30 t31 t32 t33 t34 t35 t36 t37 t38 t39 t40 t41 t42 t43 t44 t45 t46 t47 t48 t49 t50 t51 t52 t53 t54 t55 t56 t57 t58 t59 t60 t61 t62 t63 t64 t65 t66 t67 t68 t69 t70 t71 t72 t73 t74 t75 t76 t77 t78 t79 t80 t81 t82 t83 t84 t85 t86 t87 t88 t89 t90 t91 t92 t93 t94 t95 t96 t97 t98 t99 t100 t101 t102 t103 t104 t105 t106 t107 t108 t109 t110 t111 t112 t113 t114 t115 t116 t117 t118 t119 t120 t121 t122 t123 t124 t125 t126 t127 t128 t129 t130 t131 t132 t133 t134 t135 t136 t137 t138 t139 t140 t141 t142 t143 t144 t145 : Value)
    (h0 : ¬ 0 < a2) (hs : (decide (0 < a3) || (a5 && (a6 || decide (0 < a7)))) = false)
    (PK : Calls Yba.prog 18 #[.pointer (some ⟨B, 0, none⟩), .pointer (some ⟨x, 0, none⟩), .pointer g] w fun e w' => e = .returned (.bool true) ∧ ∃ a' c', n + 1 ≤ c' ∧ En W w' B x C n (n + 1) false (b32 (a9 && !a8)) (.chan 1 #[] false 1 1 false) a' c') :
    wpK Yba.prog rest30 (bodyPost Yba.prog Yba.f4 fun e w' => e = .returned (.bool true) ∧ Below W.heap.size W w') { tmps := #[.bool false, .int .i64 a1, .int .i64 a2, .int .i32 a3, .int .u8 n, .bool a5, .bool a6, .int .i32 a7, .bool a8, .bool a9, undef, undef, undef, undef, undef, undef, undef, undef, undef, undef, .bool false, .pointer (some ⟨B, 0, none⟩), .slice (some ⟨B + 1, 0, none⟩) n n, .int .i64 n, .int .i64 n, .pointer (some ⟨x, 0, none⟩), .pointer g, undef, undef, undef, t30, t31, t32, t33, t34, t35, t36, t37, t38, t39, t40, t41, t42, t43, t44, t45, t46, t47, t48, t49, t50, t51, t52, t53, t54, t55, t56, t57, t58, t59, t60, t61, t62, t63, t64, t65, t66, t67, t68, t69, t70, t71, t72, t73, t74, t75, t76, t77, t78, t79, t80, t81, t82, t83, t84, t85, t86, t87, t88, t89, t90, t91, t92, t93, t94, t95, t96, t97, t98, t99, t100, t101, t102, t103, t104, t105, t106, t107, t108, t109, t110, t111, t112, t113, t114, t115, t116, t117, t118, t119, t120, t121, t122, t123, t124, t125, t126, t127, t128, t129, t130, t131, t132, t133, t134, t135, t136, t137, t138, t139, t140, t141, t142, t143, t144, t145, undef, undef, undef, undef, undef, undef, undef, undef, undef, undef, undef, undef, undef, undef, undef, undef, undef, undef, undef, undef, undef, undef, undef, undef, undef, undef, undef, undef, undef, undef, undef, undef, undef, undef, undef, undef, undef, undef, undef, undef, undef, undef, undef, undef, undef, undef, undef, undef, undef, undef, undef, undef, undef, undef, undef, undef, undef, undef, undef, undef, undef, undef, undef, undef, undef, undef, undef, undef, undef, undef, undef, undef, undef, undef, undef, undef, undef, undef, undef, undef, undef, undef, undef, undef, undef, undef, undef, undef, undef, undef, undef, undef, undef, undef, undef, undef, undef, undef, undef, undef, undef, undef, undef, undef, undef, undef, undef, undef, undef, undef, undef, undef, undef, undef, undef, undef, undef, undef, undef, undef, undef, undef, undef, undef, undef, undef, undef, undef, undef, undef, undef, undef, undef, undef, undef, undef, undef, undef, undef, undef, undef, undef, undef, undef, undef, undef, undef, undef, undef, undef, undef, undef, undef, undef, undef, undef, undef, undef, undef, undef, undef, undef, undef, undef, undef, undef, undef, undef, undef, undef, undef, undef, undef, undef, undef, undef, undef, undef, undef, undef, undef, undef, undef, undef, undef, undef, undef, undef, undef, undef, undef, undef], defers := [] } w := by
  generalize hQ : (bodyPost Yba.prog Yba.f4 fun e w' => e = .returned (.bool true) ∧ Below W.heap.size W w') = Q
  unfold rest30
  dsimp only [Yba.f4, sndC]
  subst hQ
  have hwr : IntKind.i32.wrap (n : Int) = (n : Int) := by rw [IntKind.wrap_i32]; omega
  refine wpK_of_wp ?_
  have h0' : a2 ≤ 0 := by omega
  have h3 : ¬ 0 < a3 := fun h => by rw [decide_eq_true h] at hs; cases hs
  rw [decide_eq_false h3] at hs
  cases a5
  · clear hs
    go_wp2_with fail
    refine PK.mono ?_
    rintro e w20 ⟨rfl, a', c', hcap, E⟩
    clear PK
    rcases E.pl with h | ⟨X, rfl, hc⟩
    · omega
    have e1 := E.c1217
    have e8 : w20.cell? ⟨X, n, none⟩ = some (.pointer (some ⟨x, 0, none⟩)) := by rw [hc n (by omega), hd_n]
    have hq := neq_o24
    have pl' : PL w20 (some ⟨X, 0, none⟩) n (hd B n x) := .inr ⟨X, rfl, fun i hi => hc i (by omega)⟩
    have hcI : (n : Int) ≤ (c' : Int) := by omega
    clear hc
    go_wp2_with fail
    refine (same_any _ _ n c' n (by omega) _ w20 pl' E.pr).mono ?_
    rintro e w21 ⟨rfl, q⟩
    replace E := E.later q
    clear q e1 e8 pl' hq
    have e2 : w21.cell? ⟨B, 1218, none⟩ = some (.int .i32 ((n : Int) + 1)) := E.c1218
    have e3 := E.c1220
    have e4 := E.x19
    have e5 := E.x21
    have e6 : (Builtin.len_ #[55] 3 #[.chan (some C)]).run Yba.prog w21 = .ok (.int .i64 0) w21 := len_chan E.ch
    have hwr1 : IntKind.i32.wrap ((n : Int) + 1) = (n : Int) + 1 := by rw [IntKind.wrap_i32]; omega
    have bel := E.bel
    clear E
    cases a9 <;> cases a8
    all_goals
      go_wp2_with (first | (go_at_call 20; refine (Atom.i32Load _ _ _ _ e2).mono ?_; rintro e w' ⟨rfl, rfl⟩) | (go_at_call 21; refine (boolLoad' _ _ _ _ e3).mono ?_; rintro e w' ⟨rfl, rfl⟩))
      go_ret
      exact ⟨rfl, bel⟩
  · cases a6
    · have h7 : ¬ 0 < a7 := by simpa using hs
      clear hs
      go_wp2_with fail
      refine PK.mono ?_
      rintro e w20 ⟨rfl, a', c', hcap, E⟩
      clear PK
      rcases E.pl with h | ⟨X, rfl, hc⟩
      · omega
      have e1 := E.c1217
      have e8 : w20.cell? ⟨X, n, none⟩ = some (.pointer (some ⟨x, 0, none⟩)) := by rw [hc n (by omega), hd_n]
      have hq := neq_o24
      have pl' : PL w20 (some ⟨X, 0, none⟩) n (hd B n x) := .inr ⟨X, rfl, fun i hi => hc i (by omega)⟩
      have hcI : (n : Int) ≤ (c' : Int) := by omega
      clear hc
      go_wp2_with fail
      refine (same_any _ _ n c' n (by omega) _ w20 pl' E.pr).mono ?_
      rintro e w21 ⟨rfl, q⟩
      replace E := E.later q
      clear q e1 e8 pl' hq
      have e2 : w21.cell? ⟨B, 1218, none⟩ = some (.int .i32 ((n : Int) + 1)) := E.c1218
      have e3 := E.c1220
      have e4 := E.x19
      have e5 := E.x21
      have e6 : (Builtin.len_ #[55] 3 #[.chan (some C)]).run Yba.prog w21 = .ok (.int .i64 0) w21 := len_chan E.ch
      have hwr1 : IntKind.i32.wrap ((n : Int) + 1) = (n : Int) + 1 := by rw [IntKind.wrap_i32]; omega
      have bel := E.bel
      clear E
      cases a9 <;> cases a8
      all_goals
        go_wp2_with (first | (go_at_call 20; refine (Atom.i32Load _ _ _ _ e2).mono ?_; rintro e w' ⟨rfl, rfl⟩) | (go_at_call 21; refine (boolLoad' _ _ _ _ e3).mono ?_; rintro e w' ⟨rfl, rfl⟩))
        go_ret
        exact ⟨rfl, bel⟩
    · cases hs

end Go.Proofs.Ybulksnw.Park
