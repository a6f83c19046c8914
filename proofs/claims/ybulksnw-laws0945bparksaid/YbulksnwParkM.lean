import Derived.Test.YbulksnwParkL
namespace Go.Proofs.Ybulksnw.Park
open Go.RowKit Go.Conc

/-- The law's text from its call of park on. -/
def sndC : Code → Code
  | .seq _ y => y
  | c => c
noncomputable def rest30 : Code := match Yba.f4.body with
  | some c => sndC (sndC (sndC (sndC (sndC (sndC (sndC (sndC (sndC (sndC (sndC (sndC (sndC (sndC (sndC (sndC (sndC (sndC (sndC (sndC c)))))))))))))))))))
  | none => .skip

set_option maxRecDepth 100000 in
set_option maxHeartbeats 40000000 in
theorem tail_shared (B n x C : Nat) (g : Option Addr) (a0 a5 a6 a8 a9 : Bool) (a1 a2 a3 a7 : Int) (W w : World) (hn : n ≤ 255) (t30 t31 t32 t33 t34 t35 t36 t37 t38 t39 t40 t41 t42 t43 t44 t45 t46 t47 t48 t49 t50 t51 t52 t53 t54 t55 t56 t57 t58 t59 t60 t61 t62 t63 t64 t65 t66 t67 t68 t69 t70 t71 t72 t73 t74 t75 t76 t77 t78 t79 t80 t81 t82 t83 t84 t85 t86 t87 t88 t89 t90 t91 t92 t93 t94 t95 t96 t97 t98 t99 t100 t101 t102 t103 t104 t105 t106 t107 t108 t109 t110 t111 t112 t113 t114 t115 t116 t117 t118 t119 t120 t121 t122 t123 t124 t125 t126 t127 t128 t129 t130 t131 t132 t133 t134 t135 t136 t137 t138 t139 t140 t141 t142 t143 t144 t145 : Value)
    (h0 : 0 < a2)
    (PK : Calls Yba.prog 18 #[.pointer (some ⟨B, 0, none⟩), .pointer (some ⟨x, 0, none⟩), .pointer g] w fun e w' => e = .returned (.bool true) ∧ ∃ a' c', En W w' B x C n n a8 (b32 a9) (.chan 1 #[.agg #[]] false 1 0 false) a' c') :
    wpK Yba.prog rest30 (bodyPost Yba.prog Yba.f4 fun e w' => e = .returned (.bool true) ∧ Below W.heap.size W w') { tmps := #[.bool a0, .int .i64 a1, .int .i64 a2, .int .i32 a3, .int .u8 n, .bool a5, .bool a6, .int .i32 a7, .bool a8, .bool a9, undef, undef, undef, undef, undef, undef, undef, undef, undef, undef, .bool false, .pointer (some ⟨B, 0, none⟩), .slice (some ⟨B + 1, 0, none⟩) n n, .int .i64 n, .int .i64 n, .pointer (some ⟨x, 0, none⟩), .pointer g, undef, undef, undef, t30, t31, t32, t33, t34, t35, t36, t37, t38, t39, t40, t41, t42, t43, t44, t45, t46, t47, t48, t49, t50, t51, t52, t53, t54, t55, t56, t57, t58, t59, t60, t61, t62, t63, t64, t65, t66, t67, t68, t69, t70, t71, t72, t73, t74, t75, t76, t77, t78, t79, t80, t81, t82, t83, t84, t85, t86, t87, t88, t89, t90, t91, t92, t93, t94, t95, t96, t97, t98, t99, t100, t101, t102, t103, t104, t105, t106, t107, t108, t109, t110, t111, t112, t113, t114, t115, t116, t117, t118, t119, t120, t121, t122, t123, t124, t125, t126, t127, t128, t129, t130, t131, t132, t133, t134, t135, t136, t137, t138, t139, t140, t141, t142, t143, t144, t145, undef, undef, undef, undef, undef, undef, undef, undef, undef, undef, undef, undef, undef, undef, undef, undef, undef, undef, undef, undef, undef, undef, undef, undef, undef, undef, undef, undef, undef, undef, undef, undef, undef, undef, undef, undef, undef, undef, undef, undef, undef, undef, undef, undef, undef, undef, undef, undef, undef, undef, undef, undef, undef, undef, undef, undef, undef, undef, undef, undef, undef, undef, undef, undef, undef, undef, undef, undef, undef, undef, undef, undef, undef, undef, undef, undef, undef, undef, undef, undef, undef, undef, undef, undef, undef, undef, undef, undef, undef, undef, undef, undef, undef, undef, undef, undef, undef, undef, undef, undef, undef, undef, undef, undef, undef, undef, undef, undef, undef, undef, undef, undef, undef, undef, undef, undef, undef, undef, undef, undef, undef, undef, undef, undef, undef, undef, undef, undef, undef, undef, undef, undef, undef, undef, undef, undef, undef, undef, undef, undef, undef, undef, undef, undef, undef, undef, undef, undef, undef, undef, undef, undef, undef, undef, undef, undef, undef, undef, undef, undef, undef, undef, undef, undef, undef, undef, undef, undef, undef, undef, undef, undef, undef, undef, undef, undef, undef, undef, undef, undef, undef, undef, undef, undef, undef, undef, undef, undef, undef, undef, undef, undef], defers := [] } w := by
  generalize hQ : (bodyPost Yba.prog Yba.f4 fun e w' => e = .returned (.bool true) ∧ Below W.heap.size W w') = Q
  unfold rest30
  dsimp only [Yba.f4, sndC]
  subst hQ
  have hwr : IntKind.i32.wrap (n : Int) = (n : Int) := by rw [IntKind.wrap_i32]; omega
  refine wpK_of_wp ?_
  have h0' : ¬ a2 ≤ 0 := by omega
  go_wp2_with fail
  refine PK.mono ?_
  rintro e w20 ⟨rfl, a', c', E⟩
  clear PK
  have e1 := E.c1217
  go_wp2_with fail
  refine (same_any a' _ n c' n (by omega) _ w20 E.pl E.pr).mono ?_
  rintro e w21 ⟨rfl, q⟩
  replace E := E.later q
  clear q e1
  have e2 := E.c1218
  have e3 := E.c1220
  have e4 := E.x19
  have e5 := E.x21
  have e6 : (Builtin.len_ #[55] 3 #[.chan (some C)]).run Yba.prog w21 = .ok (.int .i64 1) w21 := len_chan E.ch
  have bel := E.bel
  clear E
  go_wp2_with (first | (go_at_call 20; refine (Atom.i32Load _ _ _ _ e2).mono ?_; rintro e w' ⟨rfl, rfl⟩) | (go_at_call 21; refine (boolLoad' _ _ _ _ e3).mono ?_; rintro e w' ⟨rfl, rfl⟩))
  go_ret
  exact ⟨rfl, bel⟩

set_option maxRecDepth 100000 in
set_option maxHeartbeats 40000000 in
theorem tail_closed (B n x C : Nat) (g : Option Addr) (a5 a6 a8 a9 : Bool) (a1 a2 a3 a7 : Int) (W w : World) (hn : n ≤ 255) (t30 t31 t32 t33 t34 t35 t36 t37 t38 t39 t40 t41 t42 t43 t44 t45 t46 t47 t48 t49 t50 t51 t52 t53 t54 t55 t56 t57 t58 t59 t60 t61 t62 t63 t64 t65 t66 t67 t68 t69 t70 t71 t72 t73 t74 t75 t76 t77 t78 t79 t80 t81 t82 t83 t84 t85 t86 t87 t88 t89 t90 t91 t92 t93 t94 t95 t96 t97 t98 t99 t100 t101 t102 t103 t104 t105 t106 t107 t108 t109 t110 t111 t112 t113 t114 t115 t116 t117 t118 t119 t120 t121 t122 t123 t124 t125 t126 t127 t128 t129 t130 t131 t132 t133 t134 t135 t136 t137 t138 t139 t140 t141 t142 t143 t144 t145 : Value)
    (h0 : ¬ 0 < a2) (hpe : a1 = 0)
    (PK : Calls Yba.prog 18 #[.pointer (some ⟨B, 0, none⟩), .pointer (some ⟨x, 0, none⟩), .pointer g] w fun e w' => e = .returned (.bool false) ∧ ∃ a' c', En W w' B x C n n a8 (b32 a9) (.chan 1 #[.agg #[]] false 1 0 false) a' c') :
    wpK Yba.prog rest30 (bodyPost Yba.prog Yba.f4 fun e w' => e = .returned (.bool true) ∧ Below W.heap.size W w') { tmps := #[.bool true, .int .i64 a1, .int .i64 a2, .int .i32 a3, .int .u8 n, .bool a5, .bool a6, .int .i32 a7, .bool a8, .bool a9, undef, undef, undef, undef, undef, undef, undef, undef, undef, undef, .bool false, .pointer (some ⟨B, 0, none⟩), .slice (some ⟨B + 1, 0, none⟩) n n, .int .i64 n, .int .i64 n, .pointer (some ⟨x, 0, none⟩), .pointer g, undef, undef, undef, t30, t31, t32, t33, t34, t35, t36, t37, t38, t39, t40, t41, t42, t43, t44, t45, t46, t47, t48, t49, t50, t51, t52, t53, t54, t55, t56, t57, t58, t59, t60, t61, t62, t63, t64, t65, t66, t67, t68, t69, t70, t71, t72, t73, t74, t75, t76, t77, t78, t79, t80, t81, t82, t83, t84, t85, t86, t87, t88, t89, t90, t91, t92, t93, t94, t95, t96, t97, t98, t99, t100, t101, t102, t103, t104, t105, t106, t107, t108, t109, t110, t111, t112, t113, t114, t115, t116, t117, t118, t119, t120, t121, t122, t123, t124, t125, t126, t127, t128, t129, t130, t131, t132, t133, t134, t135, t136, t137, t138, t139, t140, t141, t142, t143, t144, t145, undef, undef, undef, undef, undef, undef, undef, undef, undef, undef, undef, undef, undef, undef, undef, undef, undef, undef, undef, undef, undef, undef, undef, undef, undef, undef, undef, undef, undef, undef, undef, undef, undef, undef, undef, undef, undef, undef, undef, undef, undef, undef, undef, undef, undef, undef, undef, undef, undef, undef, undef, undef, undef, undef, undef, undef, undef, undef, undef, undef, undef, undef, undef, undef, undef, undef, undef, undef, undef, undef, undef, undef, undef, undef, undef, undef, undef, undef, undef, undef, undef, undef, undef, undef, undef, undef, undef, undef, undef, undef, undef, undef, undef, undef, undef, undef, undef, undef, undef, undef, undef, undef, undef, undef, undef, undef, undef, undef, undef, undef, undef, undef, undef, undef, undef, undef, undef, undef, undef, undef, undef, undef, undef, undef, undef, undef, undef, undef, undef, undef, undef, undef, undef, undef, undef, undef, undef, undef, undef, undef, undef, undef, undef, undef, undef, undef, undef, undef, undef, undef, undef, undef, undef, undef, undef, undef, undef, undef, undef, undef, undef, undef, undef, undef, undef, undef, undef, undef, undef, undef, undef, undef, undef, undef, undef, undef, undef, undef, undef, undef, undef, undef, undef, undef, undef, undef, undef, undef, undef, undef, undef, undef], defers := [] } w := by
  generalize hQ : (bodyPost Yba.prog Yba.f4 fun e w' => e = .returned (.bool true) ∧ Below W.heap.size W w') = Q
  unfold rest30
  dsimp only [Yba.f4, sndC]
  subst hQ
  have hwr : IntKind.i32.wrap (n : Int) = (n : Int) := by rw [IntKind.wrap_i32]; omega
  refine wpK_of_wp ?_
  have h0' : a2 ≤ 0 := by omega
  subst hpe
  go_wp2_with fail
  refine PK.mono ?_
  rintro e w20 ⟨rfl, a', c', E⟩
  clear PK
  have e1 := E.c1217
  go_wp2_with fail
  refine (same_any a' _ n c' n (by omega) _ w20 E.pl E.pr).mono ?_
  rintro e w21 ⟨rfl, q⟩
  replace E := E.later q
  clear q e1
  have e2 := E.c1218
  have e3 := E.c1220
  have e4 := E.x19
  have e5 := E.x21
  have e6 : (Builtin.len_ #[55] 3 #[.chan (some C)]).run Yba.prog w21 = .ok (.int .i64 1) w21 := len_chan E.ch
  have bel := E.bel
  clear E
  go_wp2_with (first | (go_at_call 20; refine (Atom.i32Load _ _ _ _ e2).mono ?_; rintro e w' ⟨rfl, rfl⟩) | (go_at_call 21; refine (boolLoad' _ _ _ _ e3).mono ?_; rintro e w' ⟨rfl, rfl⟩))
  go_ret
  exact ⟨rfl, bel⟩

set_option maxRecDepth 100000 in
set_option maxHeartbeats 40000000 in
theorem tail_stop0 (B n x C : Nat) (g : Option Addr) (a5 a6 a8 a9 : Bool) (a1 a2 a3 a7 : Int) (W w : World) (hn : n ≤ 255) (t30 t31 t32 t33 t34 t35 t36 t37 t38 t39 t40 t41 t42 t43 t44 t45 t46 t47 t48 t49 t50 t51 t52 t53 t54 t55 t56 t57 t58 t59 t60 t61 t62 t63 t64 t65 t66 t67 t68 t69 t70 t71 t72 t73 t74 t75 t76 t77 t78 t79 t80 t81 t82 t83 t84 t85 t86 t87 t88 t89 t90 t91 t92 t93 t94 t95 t96 t97 t98 t99 t100 t101 t102 t103 t104 t105 t106 t107 t108 t109 t110 t111 t112 t113 t114 t115 t116 t117 t118 t119 t120 t121 t122 t123 t124 t125 t126 t127 t128 t129 t130 t131 t132 t133 t134 t135 t136 t137 t138 t139 t140 t141 t142 t143 t144 t145 : Value)
    (h0 : ¬ 0 < a2) (hs : (decide (0 < a3) || (a5 && (a6 || decide (0 < a7)))) = true)
    (PK : Calls Yba.prog 18 #[.pointer (some ⟨B, 0, none⟩), .pointer (some ⟨x, 0, none⟩), .pointer g] w fun e w' => e = .returned (.bool true) ∧ ∃ a' c', En W w' B x C n n a8 (b32 a9) (.chan 1 #[.agg #[]] false 1 0 false) a' c') :
    wpK Yba.prog rest30 (bodyPost Yba.prog Yba.f4 fun e w' => e = .returned (.bool true) ∧ Below W.heap.size W w') { tmps := #[.bool false, .int .i64 a1, .int .i64 a2, .int .i32 a3, .int .u8 n, .bool a5, .bool a6, .int .i32 a7, .bool a8, .bool a9, undef, undef, undef, undef, undef, undef, undef, undef, undef, undef, .bool false, .pointer (some ⟨B, 0, none⟩), .slice (some ⟨B + 1, 0, none⟩) n n, .int .i64 n, .int .i64 n, .pointer (some ⟨x, 0, none⟩), .pointer g, undef, undef, undef, t30, t31, t32, t33, t34, t35, t36, t37, t38, t39, t40, t41, t42, t43, t44, t45, t46, t47, t48, t49, t50, t51, t52, t53, t54, t55, t56, t57, t58, t59, t60, t61, t62, t63, t64, t65, t66, t67, t68, t69, t70, t71, t72, t73, t74, t75, t76, t77, t78, t79, t80, t81, t82, t83, t84, t85, t86, t87, t88, t89, t90, t91, t92, t93, t94, t95, t96, t97, t98, t99, t100, t101, t102, t103, t104, t105, t106, t107, t108, t109, t110, t111, t112, t113, t114, t115, t116, t117, t118, t119, t120, t121, t122, t123, t124, t125, t126, t127, t128, t129, t130, t131, t132, t133, t134, t135, t136, t137, t138, t139, t140, t141, t142, t143, t144, t145, undef, undef, undef, undef, undef, undef, undef, undef, undef, undef, undef, undef, undef, undef, undef, undef, undef, undef, undef, undef, undef, undef, undef, undef, undef, undef, undef, undef, undef, undef, undef, undef, undef, undef, undef, undef, undef, undef, undef, undef, undef, undef, undef, undef, undef, undef, undef, undef, undef, undef, undef, undef, undef, undef, undef, undef, undef, undef, undef, undef, undef, undef, undef, undef, undef, undef, undef, undef, undef, undef, undef, undef, undef, undef, undef, undef, undef, undef, undef, undef, undef, undef, undef, undef, undef, undef, undef, undef, undef, undef, undef, undef, undef, undef, undef, undef, undef, undef, undef, undef, undef, undef, undef, undef, undef, undef, undef, undef, undef, undef, undef, undef, undef, undef, undef, undef, undef, undef, undef, undef, undef, undef, undef, undef, undef, undef, undef, undef, undef, undef, undef, undef, undef, undef, undef, undef, undef, undef, undef, undef, undef, undef, undef, undef, undef, undef, undef, undef, undef, undef, undef, undef, undef, undef, undef, undef, undef, undef, undef, undef, undef, undef, undef, undef, undef, undef, undef, undef, undef, undef, undef, undef, undef, undef, undef, undef, undef, undef, undef, undef, undef, undef, undef, undef, undef, undef, undef, undef, undef, undef, undef, undef], defers := [] } w := by
  generalize hQ : (bodyPost Yba.prog Yba.f4 fun e w' => e = .returned (.bool true) ∧ Below W.heap.size W w') = Q
  unfold rest30
  dsimp only [Yba.f4, sndC]
  subst hQ
  have hwr : IntKind.i32.wrap (n : Int) = (n : Int) := by rw [IntKind.wrap_i32]; omega
  refine wpK_of_wp ?_
  have h0' : a2 ≤ 0 := by omega
  by_cases h3 : 0 < a3
  · clear hs
    go_wp2_with fail
    refine PK.mono ?_
    rintro e w20 ⟨rfl, a', c', E⟩
    clear PK
    have e1 := E.c1217
    go_wp2_with fail
    refine (same_any a' _ n c' n (by omega) _ w20 E.pl E.pr).mono ?_
    rintro e w21 ⟨rfl, q⟩
    replace E := E.later q
    clear q e1
    have e2 := E.c1218
    have e3 := E.c1220
    have e4 := E.x19
    have e5 := E.x21
    have e6 : (Builtin.len_ #[55] 3 #[.chan (some C)]).run Yba.prog w21 = .ok (.int .i64 1) w21 := len_chan E.ch
    have bel := E.bel
    clear E
    go_wp2_with (first | (go_at_call 20; refine (Atom.i32Load _ _ _ _ e2).mono ?_; rintro e w' ⟨rfl, rfl⟩) | (go_at_call 21; refine (boolLoad' _ _ _ _ e3).mono ?_; rintro e w' ⟨rfl, rfl⟩))
    go_ret
    exact ⟨rfl, bel⟩
  · rw [decide_eq_false h3] at hs
    cases a5
    · cases hs
    · cases a6
      · have h7 : 0 < a7 := by simpa using hs
        clear hs
        go_wp2_with fail
        refine PK.mono ?_
        rintro e w20 ⟨rfl, a', c', E⟩
        clear PK
        have e1 := E.c1217
        go_wp2_with fail
        refine (same_any a' _ n c' n (by omega) _ w20 E.pl E.pr).mono ?_
        rintro e w21 ⟨rfl, q⟩
        replace E := E.later q
        clear q e1
        have e2 := E.c1218
        have e3 := E.c1220
        have e4 := E.x19
        have e5 := E.x21
        have e6 : (Builtin.len_ #[55] 3 #[.chan (some C)]).run Yba.prog w21 = .ok (.int .i64 1) w21 := len_chan E.ch
        have bel := E.bel
        clear E
        go_wp2_with (first | (go_at_call 20; refine (Atom.i32Load _ _ _ _ e2).mono ?_; rintro e w' ⟨rfl, rfl⟩) | (go_at_call 21; refine (boolLoad' _ _ _ _ e3).mono ?_; rintro e w' ⟨rfl, rfl⟩))
        go_ret
        exact ⟨rfl, bel⟩
      · clear hs
        go_wp2_with fail
        refine PK.mono ?_
        rintro e w20 ⟨rfl, a', c', E⟩
        clear PK
        have e1 := E.c1217
        go_wp2_with fail
        refine (same_any a' _ n c' n (by omega) _ w20 E.pl E.pr).mono ?_
        rintro e w21 ⟨rfl, q⟩
        replace E := E.later q
        clear q e1
        have e2 := E.c1218
        have e3 := E.c1220
        have e4 := E.x19
        have e5 := E.x21
        have e6 : (Builtin.len_ #[55] 3 #[.chan (some C)]).run Yba.prog w21 = .ok (.int .i64 1) w21 := len_chan E.ch
        have bel := E.bel
        clear E
        go_wp2_with (first | (go_at_call 20; refine (Atom.i32Load _ _ _ _ e2).mono ?_; rintro e w' ⟨rfl, rfl⟩) | (go_at_call 21; refine (boolLoad' _ _ _ _ e3).mono ?_; rintro e w' ⟨rfl, rfl⟩))
        go_ret
        exact ⟨rfl, bel⟩

end Go.Proofs.Ybulksnw.Park
