import Derived.Test.YbulksnwParkH
import Derived.Test.YbulksnwClone
import Derived.WalkSpells
namespace Go.Proofs.Ybulksnw.Park
open Go.RowKit
open Recl (wpList_append_eq)

/-- What park may turn: the pool, the list's own block and the group. -/
def D0 (B : Nat) (a g : Option Addr) (b : Nat) : Prop := b = B ∨ a = some ⟨b, 0, none⟩ ∨ g = some ⟨b, 0, none⟩

/-- One of two ends. -/
def Fork (s : Bool) (P Q : World → Prop) (w : World) : Prop := (s = true → P w) ∧ (s = false → Q w)

theorem fl_back {f : Nat → Value} (h : f 1 = .int .i32 0) (a : Option Addr) (n c : Nat) (i : Nat) :
    (if i = 1 then Value.int .i32 0 else if i = 1218 then .int .i32 ((n : Int) + 1) else if i = 1217 then .slice a (n + 1) c else if i = 1 then .int .i32 1 else f i) = fl f a (n + 1) c i := by
  unfold fl
  by_cases e : i = 1
  · subst e; simp [h]
  · rw [if_neg e, if_neg e]
    by_cases e2 : i = 1218
    · simp [e2]
    · simp [e2]

theorem AL.wide {D D' : Nat → Prop} {w w' : World} {B n : Nat} {Hd : Nat → Nat} {a : Option Addr} {f : Nat → Value} {a' : Option Addr} {c' : Nat} (h : AL D w w' B n Hd a f a' c') (hD : ∀ d, D d → D' d) : AL D' w w' B n Hd a f a' c' :=
  ⟨h.row, h.il, h.kept.wide hD, h.haB, h.new⟩
theorem D0.le {B : Nat} {a g : Option Addr} (d : Nat) (h : D0 B a none d) : D0 B a g d := by
  rcases h with h | h | h
  · exact .inl h
  · exact .inr (.inl h)
  · cases h

set_option maxRecDepth 100000 in
set_option maxHeartbeats 2000000 in
theorem park_rest (B x C n c : Nat) (a : Option Addr) (g : Option Addr) (Hd : Nat → Nat) (f h : Nat → Value) (ov pe q k r : Int) (cl wo us : Bool) (F : PF f ov pe q k cl) (f2 : f 1217 = .slice a n c) (u : Value) (f3 : f 1218 = u) (w : World) (hB : w.rowIs B 85 1233 f) (I : IL w a n c Hd) (hn : n ≤ 255) (hx : Hd n = x)
    (haB : a ≠ some ⟨B, 0, none⟩) (h0 : decide (0 < ov) = false) (hcl : (cl && decide (pe = 0)) = false) (S : WS w B n Hd a) (hX : w.rowIs x 58 25 h) (h16 : h 16 = .int .i32 r) (h19 : h 19 = .chan (some C)) (h21 : h 21 = .bool wo)
    (hC : w.heap[C]? = some (.chan 1 #[.agg #[]] false 1 0 false)) (haC : a ≠ some ⟨C, 0, none⟩) (U : UG w B C n Hd a g r us) :
    Calls Yba.prog 18 #[.pointer (some ⟨B, 0, none⟩), .pointer (some ⟨x, 0, none⟩), .pointer g] w fun e w' => e = .returned (.bool true) ∧
      Fork (decide (0 < q) || us) (Stopped (D0 B a g) w B n Hd f) (Waited (fun b => D0 B a g b ∨ b = x ∨ b = C) w B C n x Hd f h k wo) w' := by
  have HS : Hid (WS w B n Hd a) := S
  have HX : Hid (w.rowIs x 58 25 h ∧ h 16 = .int .i32 r ∧ h 19 = .chan (some C) ∧ h 21 = .bool wo) := ⟨hX, h16, h19, h21⟩
  have HC : Hid (w.heap[C]? = some (.chan 1 #[.agg #[]] false 1 0 false)) := hC
  have HU : Hid (UG w B C n Hd a g r us) := U
  have hCB : C ≠ B := by
    rintro rfl
    obtain ⟨cs, h1, _⟩ := hB
    rw [h1] at hC
    cases hC
  clear S hX h16 h19 h21 hC U
  have hl : w.cell? ⟨B, 1, none⟩ = some (.int .i32 0) := by rw [hB.cell (by omega), F.f1]
  have hz := hB.frozen 1
  have k1 : Kept (D0 B a none) w (w.setCell ⟨B, 1, none⟩ (.int .i32 1)) := Kept.set (Kept.refl _ w) (g := B) (Or.inl rfl) 1 _
  have kB : Kept (fun b => b = B) w (w.setCell ⟨B, 1, none⟩ (.int .i32 1)) := Kept.set (D := fun b => b = B) (Kept.refl _ w) (g := B) rfl 1 _
  have R1 := hB.set 1 (.int .i32 1)
  have I1 : IL (w.setCell ⟨B, 1, none⟩ (.int .i32 1)) a n c Hd := I.kept kB (fun X e h => haB (by rw [e, h]))
  clear kB I
  refine calls_of_wpK Yba.func18 rfl ?_
  simp only [Yba.ntmps18, List.size_toArray, List.length_cons, List.length_nil, Nat.reduceAdd, Nat.reduceSub, Array.replicate_succ, Array.replicate_zero, List.push_toArray, List.append_toArray, List.nil_append, List.cons_append]
  refine wpK_seq_k fun K hK => ?_
  go_wp2
  refine wpK_seq_k fun K hK => ?_
  go_wp2_with fail
  refine (Go.MuLone.lock_free Yba.muLib ⟨B, 1, none⟩ _ hl hz).mono ?_
  rintro e w1 ⟨rfl, hw1⟩
  rw [← hw1] at R1 k1 I1
  clear hw1 hl hz hB
  go_wp2
  have c1 : w1.cell? ⟨B, 74, none⟩ = some (.int .u64 0) := by rw [R1.cell (by omega), ← F.f74]; rfl
  have c2 : w1.cell? ⟨B, 188, none⟩ = some (.int .u64 0) := by rw [R1.cell (by omega), ← F.f188]; rfl
  have c3 : w1.cell? ⟨B, 1216, none⟩ = some (.int .i64 ov) := by rw [R1.cell (by omega), ← F.f1216]; rfl
  have c5 : w1.cell? ⟨B, 1226, none⟩ = some (.int .u32 (if cl then 1 else 0)) := by rw [R1.cell (by omega), ← F.f1226]; rfl
  have c6 : w1.cell? ⟨B, 1225, none⟩ = some (.int .i64 pe) := by rw [R1.cell (by omega), ← F.f1225]; rfl
  have FF : Hid (PF f ov pe q k cl) := F
  clear F
  refine wpK_seq_k fun K hK => ?_
  cases cl
  case' false =>
    go_wp2_with (first | (go_at_call 37; refine (shared_any B ov _ c1 c2 c3).mono ?_; rw [h0]; rintro e w' ⟨rfl, rfl⟩) | (go_at_call 21; refine (Atom.boolLoad B 1226 0 _ c5).mono ?_; rintro e w' ⟨rfl, rfl⟩))
  case' true =>
    have hpe : ¬ pe = 0 := by simpa using hcl
    go_wp2_with (first | (go_at_call 37; refine (shared_any B ov _ c1 c2 c3).mono ?_; rw [h0]; rintro e w' ⟨rfl, rfl⟩) | (go_at_call 21; refine (Atom.boolLoad B 1226 1 _ c5).mono ?_; rintro e w' ⟨rfl, rfl⟩) | (go_at_call 39; refine (Atom.i64Load B 1225 pe _ c6).mono ?_; rintro e w' ⟨rfl, rfl⟩))
    clear hpe
  all_goals
    clear c1 c2 c3 c5 c6
    have T0 := World.rowIs_alloc w1 #[.pointer (some ⟨x, 0, none⟩)] 24 (fun _ => .pointer (some ⟨Hd n, 0, none⟩)) (fun i hi => by
      simp at hi
      subst hi
      rw [hx]; rfl)
    have I2 : IL (w1.alloc (.cells #[.pointer (some ⟨x, 0, none⟩)] 24)) a n c Hd := I1.kept (Kept.alloc (D := fun _ => False) (Kept.refl _ w1) _) (fun _ _ h => h)
    obtain ⟨a', c', w3, hrun, I3, k3, ha'⟩ := append_one I2 hn w1.heap.size T0 67
    have haB' : a' ≠ some ⟨B, 0, none⟩ := by
      rcases ha' with rfl | rfl
      · exact haB
      · intro e
        have hlt := R1.lt
        rw [World.size_alloc] at e
        injection e with e
        injection e with e
        omega
    have R3 := k3.row (R1.alloc (.cells #[.pointer (some ⟨x, 0, none⟩)] 24)) haB
    have q1 : w1.cell? ⟨B, 1217, none⟩ = some (.slice a n c) := by rw [R1.cell (by omega), ← f2]; rfl
    have q3 : w3.cell? ⟨B, 1217, none⟩ = some (.slice a n c) := by rw [R3.cell (by omega), ← f2]; rfl
    have z3 := R3.frozen 1217
    have HR : Hid _ := hrun
    have R4 := R3.set 1217 (.slice a' (n + 1) c')
    have I4 : IL (w3.setCell ⟨B, 1217, none⟩ (.slice a' (n + 1) c')) a' (n + 1) c' Hd := I3.kept (Kept.set (D := fun b => b = B) (Kept.refl _ w3) (g := B) rfl 1217 _) (fun X e h => haB' (by rw [e, h]))
    have k4 : Kept (D0 B a none) w (w3.setCell ⟨B, 1217, none⟩ (.slice a' (n + 1) c')) := by
      have k3' : Kept (D0 B a none) (w1.alloc (.cells #[.pointer (some ⟨x, 0, none⟩)] 24)) w3 :=
        ⟨fun C h1 h2 => k3.bel C (fun d hd => h1 d (Or.inr (Or.inl hd))) h2, k3.size, fun b h1 h2 => k3.block b h1 (fun e => h2 (Or.inr (Or.inl e)))⟩
      exact Kept.set ((k1.alloc _).trans k3') (g := B) (Or.inl rfl) 1217 _
    have hnew : a' = a ∨ a' = none ∨ ∃ X, a' = some ⟨X, 0, none⟩ ∧ w.heap.size ≤ X := by
      rcases ha' with e | e
      · exact .inl e
      · refine .inr (.inr ⟨_, e, ?_⟩)
        have := k1.size
        rw [World.size_alloc]; omega
    clear hrun T0 I2 I1 I3 k3 R1 k1 ha'
    refine wpK_seq_k fun K hK => ?_
    go_wp2_with (at_builtin; refine wpList_append_eq rfl _ _ _ _ rfl rfl rfl HR.out ?_)
    clear HR q1 q3 z3
    generalize w3.setCell ⟨B, 1217, none⟩ (.slice a' (n + 1) c') = w4 at R4 I4 k4 ⊢
    have q3 : w4.drew.cell? ⟨B, 1218, none⟩ = some u := by rw [R4.drew.cell (by omega), ← f3]; rfl
    have q4 := R4.drew.frozen 1218
    have q5 : w4.cell? ⟨B, 1217, none⟩ = some (.slice a' (n + 1) c') := by rw [R4.cell (by omega)]; rfl
    have hwr : IntKind.i32.wrap ((n : Int) + 1) = (n : Int) + 1 := by rw [IntKind.wrap_i32]; omega
    refine wpK_seq_k fun K hK => ?_
    go_region_with (go_at_call 14; refine (Atom.i32Store B 1218 ((n : Int) + 1) u _ q3 q4).mono ?_; rintro e w' ⟨rfl, rfl⟩)
    refine hK _ _ ?_
    clear hK K q3 q4 q5 hwr
    have R5 := (R4.set 1218 (.int .i32 ((n : Int) + 1))).drew
    have I5 : IL (w4.setCell ⟨B, 1218, none⟩ (.int .i32 ((n : Int) + 1))).drew a' (n + 1) c' Hd := I4.kept ((Kept.set (D := fun b => b = B) (Kept.refl _ w4) (g := B) rfl 1218 _).drew) (fun X e h => haB' (by rw [e, h]))
    have k5 := (k4.set (Or.inl rfl) 1218 (.int .i32 ((n : Int) + 1))).drew
    clear R4 I4 k4 R3
    generalize (w4.setCell ⟨B, 1218, none⟩ (.int .i32 ((n : Int) + 1))).drew = w5 at R5 I5 k5 ⊢
    have l5 : w5.cell? ⟨B, 1, none⟩ = some (.int .i32 1) := by rw [R5.cell (by omega)]; rfl
    have z5 := R5.frozen 1
    have A : AL (D0 B a none) w (w5.setCell ⟨B, 1, none⟩ (.int .i32 0)) B n Hd a f a' c' :=
      ⟨(R5.set 1 (.int .i32 0)).congr (fun i _ => fl_back FF.out.f1 a' n c' i), I5.kept (Kept.set (D := fun b => b = B) (Kept.refl _ w5) (g := B) rfl 1 _) (fun X e h => haB' (by rw [e, h])), k5.set (Or.inl rfl) 1 _, haB', hnew⟩
    clear R5 I5 k5
    refine wpK_seq_k fun K hK => ?_
    go_wp2_with fail
    refine (Go.MuLone.unlock_held Yba.muLib ⟨B, 1, none⟩ _ l5 z5).mono ?_
    rintro e w6 ⟨rfl, hw6⟩
    rw [← hw6] at A
    clear hw6 l5 z5 hnew haB'
    go_wp2
    have t1 : w6.cell? ⟨B, 74, none⟩ = some (.int .u64 0) := by rw [A.row.cell (by omega), ← FF.out.f74]; rfl
    have t2 : w6.cell? ⟨B, 188, none⟩ = some (.int .u64 0) := by rw [A.row.cell (by omega), ← FF.out.f188]; rfl
    have t3 : w6.cell? ⟨B, 1216, none⟩ = some (.int .i64 ov) := by rw [A.row.cell (by omega), ← FF.out.f1216]; rfl
    have t4 : w6.cell? ⟨B, 1224, none⟩ = some (.int .i32 q) := by rw [A.row.cell (by omega), ← FF.out.f1224]; rfl
    have hDH : ∀ i, i < n + 1 → ¬ D0 B a g (Hd i) := by
      rintro i hi (e | e | e)
      · exact HS.out.hB i hi e
      · exact HS.out.ha i hi e
      · rcases HU.out with ⟨e', _⟩ | ⟨G, st, fg, e', _, _, _, _, _, _, _, _, hh⟩
        · rw [e'] at e; cases e
        · rw [e'] at e
          injection e with e
          injection e with e
          exact hh i hi e.symm
    have hDC : ¬ D0 B a g C := by
      rintro (e | e | e)
      · exact hCB e
      · exact haC e
      · rcases HU.out with ⟨e', _⟩ | ⟨G, st, fg, e', _, _, _, _, _, _, hh, _, _⟩
        · rw [e'] at e; cases e
        · rw [e'] at e
          injection e with e
          injection e with e
          exact hh e
    have hDx : ¬ D0 B a g x := by rw [← hx]; exact hDH n (by omega)
    have HD : Hid (∀ i, i < n + 1 → ¬ D0 B a g (Hd i)) := hDH
    have hDa : Hid (∀ b, a = some ⟨b, 0, none⟩ → D0 B a g b) := fun b e => Or.inr (Or.inl e)
    clear hDH
    by_cases hq : 0 < q
    · have UL := (A.wide (D0.le (g := g))).unlist hn HS.out FF.out.f1 (Or.inl rfl) hDa.out HD.out
      rw [hx] at UL
      refine wpK_seq_k fun K hK => ?_
      go_wp2_with (first | (go_at_call 40; refine (tasks_any B ov q _ t1 t2 t3 t4 h0).mono ?_; rw [decide_eq_true hq]; rintro e w' ⟨rfl, rfl⟩) | (go_at_call 42; refine UL.mono ?_; rintro e w' ⟨rfl, hs⟩))
      go_ret
      refine ⟨rfl, fun _ => hs, fun e => ?_⟩
      rw [decide_eq_true hq] at e
      cases e
    · have hq' : decide (0 < q) = false := decide_eq_false hq
      have HQ : Hid (decide (0 < q) = false) := hq'
      rcases HU.out with ⟨rfl, rfl⟩ | ⟨G, st, fg, rfl, hus, rG, g4, g13, g1, hGB, hGC, hGa, hGH⟩
      · refine wpK_seq_k fun K hK => ?_
        go_wp2_with (go_at_call 40; refine (tasks_any B ov q _ t1 t2 t3 t4 h0).mono ?_; rw [hq']; rintro e w' ⟨rfl, rfl⟩)
        clear t1 t2 t3 t4 hq' hq
        have hX := A.kept.row HX.out.1 hDx
        have x1 : w6.cell? ⟨x, 19, none⟩ = some (.chan (some C)) := by rw [hX.cell (by omega), HX.out.2.2.1]
        have hC : w6.heap[C]? = some (.chan 1 #[.agg #[]] false 1 0 false) := (A.kept.block C (Array.getElem?_eq_some_iff.1 HC.out).1 hDC).trans HC.out
        have AR := AL.arrive (D := fun b => D0 B a none b ∨ b = x ∨ b = C) (C := C) (x := x) (h := h) (k := k) (wo := wo) (A.wide (fun d e => .inl e)) (.inl (.inl rfl)) (.inr (.inl rfl)) (.inr (.inr rfl)) hX HX.out.2.2.2 FF.out.f1220 hC (fun e => hDx (.inl e)) (fun e => hDx (.inr (.inl e))) haC HX.out.1.lt (Array.getElem?_eq_some_iff.1 HC.out).1
        refine wpK_seq (wpR_region ?_)
        change wpR _ _ _ [0, 1, 2, 3, 4] _ _
        refine wpR_value rfl rfl rfl ?_
        refine wpR_value rfl rfl rfl ?_
        refine wpR_value rfl rfl (v := .pointer (some ⟨x, 19, none⟩)) (w' := w6) (by kernel_rfl) ?_
        refine wpR_value rfl rfl (v := .chan (some C)) (w' := w6) (by simp [go_sem, x1]) ?_
        refine wpR_recv rfl rfl (c := C) (z := .agg #[]) (by simp [go_sem]; rfl) hC (by decide) ?_
        refine wpR_nil ?_
        clear hC hX x1
        show wpK _ _ _ _ (w6.setChan C 1 #[] false 1 1 false)
        refine wpK_of_wp ?_
        go_wp2_with (go_at_call 43; refine AR.mono ?_; rintro e w' ⟨rfl, hs⟩)
        go_ret
        refine ⟨rfl, fun e => ?_, fun _ => hs⟩
        rw [HQ.out] at e
        cases e
      · have HG : Hid (us = (st || decide (0 < r)) ∧ G ≠ B ∧ G ≠ C ∧ a ≠ some ⟨G, 0, none⟩ ∧ ∀ i, i < n + 1 → Hd i ≠ G) := ⟨hus, hGB, hGC, hGa, hGH⟩
        have hGl := rG.lt
        have rG6 := A.kept.row rG (by
          rintro (e | e | e)
          · exact hGB e
          · exact hGa e
          · cases e)
        have hX6 := A.kept.row HX.out.1 (fun e => hDx (D0.le _ e))
        have ST := stop_any x G st r fg h w6 rG6 g4 g13 g1 hX6 HX.out.2.1 (by rw [← hx]; exact hGH n (by omega))
        clear hus hGB hGC hGa hGH rG rG6 hX6
        by_cases hst : (st || decide (0 < r)) = true
        · rw [hst] at ST
          refine wpK_seq_k fun K hK => ?_
          go_wp2_with (go_at_call 40; refine (tasks_any B ov q _ t1 t2 t3 t4 h0).mono ?_; rw [hq']; rintro e w' ⟨rfl, rfl⟩)
          refine ST.mono ?_
          rintro e w7 ⟨rfl, k7, _⟩
          have A7 := (A.wide (D0.le (g := some ⟨G, 0, none⟩))).step k7 (.inr (.inr rfl)) (Ne.symm HG.out.2.1) HG.out.2.2.2.1 hGl
          have UL := A7.unlist hn HS.out FF.out.f1 (Or.inl rfl) hDa.out HD.out
          rw [hx] at UL
          clear A k7 ST t1 t2 t3 t4
          go_wp2_with (go_at_call 42; refine UL.mono ?_; rintro e w' ⟨rfl, hs⟩)
          go_ret
          refine ⟨rfl, fun _ => hs, fun e => ?_⟩
          rw [HQ.out, HG.out.1, hst] at e
          cases e
        · have hst' : (st || decide (0 < r)) = false := by simpa using hst
          clear hst
          rw [hst'] at ST
          refine wpK_seq_k fun K hK => ?_
          go_wp2_with (go_at_call 40; refine (tasks_any B ov q _ t1 t2 t3 t4 h0).mono ?_; rw [hq']; rintro e w' ⟨rfl, rfl⟩)
          refine ST.mono ?_
          rintro e w7 ⟨rfl, k7, _⟩
          have A7 := (A.wide (D0.le (g := some ⟨G, 0, none⟩))).step k7 (.inr (.inr rfl)) (Ne.symm HG.out.2.1) HG.out.2.2.2.1 hGl
          clear A k7 ST t1 t2 t3 t4 hq' hq
          have HST : Hid ((st || decide (0 < r)) = false) := hst'
          clear hst'
          go_wp2
          have hX := A7.kept.row HX.out.1 hDx
          have x1 : w7.cell? ⟨x, 19, none⟩ = some (.chan (some C)) := by rw [hX.cell (by omega), HX.out.2.2.1]
          have hC : w7.heap[C]? = some (.chan 1 #[.agg #[]] false 1 0 false) := (A7.kept.block C (Array.getElem?_eq_some_iff.1 HC.out).1 hDC).trans HC.out
          have AR := AL.arrive (D := fun b => D0 B a (some ⟨G, 0, none⟩) b ∨ b = x ∨ b = C) (C := C) (x := x) (h := h) (k := k) (wo := wo) (A7.wide (fun d e => .inl e)) (.inl (.inl rfl)) (.inr (.inl rfl)) (.inr (.inr rfl)) hX HX.out.2.2.2 FF.out.f1220 hC (fun e => hDx (.inl e)) (fun e => hDx (.inr (.inl e))) haC HX.out.1.lt (Array.getElem?_eq_some_iff.1 HC.out).1
          refine wpK_seq (wpR_region ?_)
          change wpR _ _ _ [0, 1, 2, 3, 4] _ _
          refine wpR_value rfl rfl rfl ?_
          refine wpR_value rfl rfl rfl ?_
          refine wpR_value rfl rfl (v := .pointer (some ⟨x, 19, none⟩)) (w' := w7) (by kernel_rfl) ?_
          refine wpR_value rfl rfl (v := .chan (some C)) (w' := w7) (by simp [go_sem, x1]) ?_
          refine wpR_recv rfl rfl (c := C) (z := .agg #[]) (by simp [go_sem]; rfl) hC (by decide) ?_
          refine wpR_nil ?_
          clear hC hX x1
          show wpK _ _ _ _ (w7.setChan C 1 #[] false 1 1 false)
          refine wpK_of_wp ?_
          go_wp2_with (go_at_call 43; refine AR.mono ?_; rintro e w' ⟨rfl, hs⟩)
          go_ret
          refine ⟨rfl, fun e => ?_, fun _ => hs⟩
          rw [HQ.out, HG.out.1, HST.out] at e
          cases e

end Go.Proofs.Ybulksnw.Park
