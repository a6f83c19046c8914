import Derived.Test.YbulktckDoorG
namespace Go.Proofs.YbulktckDoor.Net
open Go.RowKit

theorem bel2 (w : World) (o1 o2 : Obj) : Below w.heap.size w ((w.alloc o1).alloc o2) := ((Below.refl _ _).alloc (Nat.le_refl _) _).alloc (by rw [World.size_alloc]; omega) _

theorem bcell {W w1 : World} (hb : Below W.heap.size W w1) : (∀ b o, b < W.heap.size → w1.cell? ⟨b, o, none⟩ = W.cell? ⟨b, o, none⟩) ∧ (∀ b o, b < W.heap.size → w1.frozen? ⟨b, o, none⟩ = W.frozen? ⟨b, o, none⟩) :=
  ⟨fun b o h => hb.cell (p := ⟨b, o, none⟩) h, fun b o h => hb.frozen (p := ⟨b, o, none⟩) h⟩

/-- Behind two blocks of one's own and a call that made memory. -/
theorem bel_past {w w1 : World} {o1 o2 : Obj} (hb : Below ((w.alloc o1).alloc o2).heap.size ((w.alloc o1).alloc o2) w1) : Below w.heap.size w w1 :=
  (bel2 w o1 o2).trans (hb.mono (by simp only [World.size_alloc]; omega))
theorem bel_past1 {w w1 : World} {o1 : Obj} (hb : Below (w.alloc o1).heap.size (w.alloc o1) w1) : Below w.heap.size w w1 :=
  ((Below.refl _ _).alloc (Nat.le_refl _) _).trans (hb.mono (by simp only [World.size_alloc]; omega))

set_option maxRecDepth 100000 in
theorem noZone4 (hi lo : Int) (p4 p6 : Addr) (w : World) (Z : ZZ w p4 p6) :
    Calls Ybad.prog 18 #[addr hi lo p4] w fun e w' => e = .returned (addr hi lo p4) ∧ Below w.heap.size w w' := by
  go_enter Ybad.func18, Ybad.ntmps18
  go_wp2_with (go_at_call 28; refine (is6_4 hi lo p4 p6 _ ((Z.alloc _).alloc _)).mono ?_; rintro e w1 ⟨rfl, hb⟩; obtain ⟨hc, hf⟩ := bcell hb)
  refine bodyPost_ret (v := addr hi lo p4) ?_ rfl ⟨rfl, ?_⟩
  · simp only [results, Ybad.results18]
    go_simp
  · exact (((bel_past hb).setCell (p := ⟨w.heap.size + 1, 0, none⟩) (Nat.le_succ _) _).setCell (p := ⟨w.heap.size + 1, 1, none⟩) (Nat.le_succ _) _).setCell (p := ⟨w.heap.size + 1, 2, none⟩) (Nat.le_succ _) _

set_option maxRecDepth 100000 in
theorem noZone6 (hi lo : Int) (p4 p6 : Addr) (w : World) (Z : ZZ w p4 p6) :
    Calls Ybad.prog 18 #[addr hi lo p6] w fun e w' => e = .returned (addr hi lo p6) ∧ Below w.heap.size w w' := by
  have s0 : 0 < w.heap.size := by have := Z.sz; omega
  have s1 : 1 < w.heap.size := by have := Z.sz; omega
  have g1 := Z.g1
  go_enter Ybad.func18, Ybad.ntmps18
  go_wp2_with (go_at_call 28; refine (is6_6 hi lo p4 p6 _ ((Z.alloc _).alloc _)).mono ?_; rintro e w1 ⟨rfl, hb⟩; obtain ⟨hc, hf⟩ := bcell hb; have q2 : w1.cell? ⟨w.heap.size, 2, none⟩ = some (.pointer (some p6)) := by go_simp)
  refine bodyPost_ret (v := addr hi lo p6) ?_ rfl ⟨rfl, ?_⟩
  · simp only [results, Ybad.results18]
    go_simp
  · exact ((((bel_past hb).setCell (p := ⟨w.heap.size, 2, none⟩) (Nat.le_refl _) _).setCell (p := ⟨w.heap.size + 1, 0, none⟩) (Nat.le_succ _) _).setCell (p := ⟨w.heap.size + 1, 1, none⟩) (Nat.le_succ _) _).setCell (p := ⟨w.heap.size + 1, 2, none⟩) (Nat.le_succ _) _

set_option maxRecDepth 100000 in
theorem in6_4 (hi lo : Int) (p4 p6 : Addr) (w : World) (Z : ZZ w p4 p6) :
    Calls Ybad.prog 19 #[addr hi lo p4] w fun e w' => e = .returned (.bool false) ∧ Below w.heap.size w w' := by
  go_enter Ybad.func19, Ybad.ntmps19
  go_wp2_with (go_at_call 28; refine (is6_4 hi lo p4 p6 _ (Z.alloc _)).mono ?_; rintro e w1 ⟨rfl, hb⟩)
  go_ret
  exact ⟨rfl, bel_past1 hb⟩

set_option maxRecDepth 100000 in
theorem in6_6 (lo : Int) (h1 : (lo / 4294967296 == 65535) = true) (p4 p6 : Addr) (w : World) (Z : ZZ w p4 p6) :
    Calls Ybad.prog 19 #[addr 0 lo p6] w fun e w' => e = .returned (.bool true) ∧ Below w.heap.size w w' := by
  go_enter Ybad.func19, Ybad.ntmps19
  go_wp2_with (go_at_call 28; refine (is6_6 0 lo p4 p6 _ (Z.alloc _)).mono ?_; rintro e w1 ⟨rfl, hb⟩; obtain ⟨hc, hf⟩ := bcell hb)
  go_ret
  exact ⟨rfl, bel_past1 hb⟩

set_option maxRecDepth 100000 in
theorem unmap4 (hi lo : Int) (p4 p6 : Addr) (w : World) (Z : ZZ w p4 p6) :
    Calls Ybad.prog 14 #[addr hi lo p4] w fun e w' => e = .returned (addr hi lo p4) ∧ Below w.heap.size w w' := by
  go_enter Ybad.func14, Ybad.ntmps14
  go_wp2_with (go_at_call 19; refine (in6_4 hi lo p4 p6 _ ((Z.alloc _).alloc _)).mono ?_; rintro e w1 ⟨rfl, hb⟩; obtain ⟨hc, hf⟩ := bcell hb)
  refine bodyPost_ret (v := addr hi lo p4) ?_ rfl ⟨rfl, ?_⟩
  · simp only [results, Ybad.results14]
    go_simp
  · exact (((bel_past hb).setCell (p := ⟨w.heap.size + 1, 0, none⟩) (Nat.le_succ _) _).setCell (p := ⟨w.heap.size + 1, 1, none⟩) (Nat.le_succ _) _).setCell (p := ⟨w.heap.size + 1, 2, none⟩) (Nat.le_succ _) _

set_option maxRecDepth 100000 in
theorem unmap6 (lo : Int) (h1 : (lo / 4294967296 == 65535) = true) (p4 p6 : Addr) (w : World) (Z : ZZ w p4 p6) :
    Calls Ybad.prog 14 #[addr 0 lo p6] w fun e w' => e = .returned (addr 0 lo p4) ∧ Below w.heap.size w w' := by
  have s0 : 0 < w.heap.size := by have := Z.sz; omega
  have g0 := Z.g0
  go_enter Ybad.func14, Ybad.ntmps14
  go_wp2_with (go_at_call 19; refine (in6_6 lo h1 p4 p6 _ ((Z.alloc _).alloc _)).mono ?_; rintro e w1 ⟨rfl, hb⟩; obtain ⟨hc, hf⟩ := bcell hb; have q2 : w1.cell? ⟨w.heap.size, 2, none⟩ = some (.pointer (some p6)) := by go_simp)
  refine bodyPost_ret (v := addr 0 lo p4) ?_ rfl ⟨rfl, ?_⟩
  · simp only [results, Ybad.results14]
    go_simp
  · exact ((((bel_past hb).setCell (p := ⟨w.heap.size, 2, none⟩) (Nat.le_refl _) _).setCell (p := ⟨w.heap.size + 1, 0, none⟩) (Nat.le_succ _) _).setCell (p := ⟨w.heap.size + 1, 1, none⟩) (Nat.le_succ _) _).setCell (p := ⟨w.heap.size + 1, 2, none⟩) (Nat.le_succ _) _

abbrev pfx (hi lo : Int) (z : Addr) (n : Int) : Value := .agg #[.int .u64 hi, .int .u64 lo, .pointer (some z), .int .u8 n]

set_option maxRecDepth 100000 in
set_option maxHeartbeats 1000000 in
theorem prefix4 (hi lo n : Int) (h0 : 0 ≤ n) (h1 : n ≤ 32) (p4 p6 : Addr) (w : World) (Z : ZZ w p4 p6) :
    Calls Ybad.prog 10 #[addr hi lo p4, .int .i64 n] w fun e w' => e = .returned (pfx hi lo p4 (n + 1)) ∧ Below w.heap.size w w' := by
  go_enter Ybad.func10, Ybad.ntmps10
  go_wp2_with (go_at_call 16; refine (isZero_any hi lo p4 p4 p6 _ ((Z.alloc _).alloc _)).mono ?_; rintro e w1 ⟨rfl, hb⟩; obtain ⟨hc, hf⟩ := bcell hb)
  have hz0 : w.heap.size < w1.heap.size := by have := hb.size; simp only [World.size_alloc] at this; omega
  have hz1 : w.heap.size + 1 < w1.heap.size := by have := hb.size; simp only [World.size_alloc] at this; omega
  have Z1 := ((Z.alloc _).alloc _).later hb (Nat.le_refl _)
  refine (bitLen4 hi lo p4 p6 _ Z1).mono ?_
  rintro e w2 ⟨rfl, hb2⟩
  obtain ⟨hc2, hf2⟩ := bcell hb2
  have hy0 : w.heap.size < w2.heap.size := by have := hb2.size; omega
  have hy1 : w.heap.size + 1 < w2.heap.size := by have := hb2.size; omega
  have Z2 := Z1.later hb2 (Nat.le_refl _)
  go_wp2_with fail
  refine (noZone4 hi lo p4 p6 _ Z2).mono ?_
  rintro e w3 ⟨rfl, hb3⟩
  obtain ⟨hc3, hf3⟩ := bcell hb3
  have b3 := (bel_past hb).trans ((hb2.mono (by omega)).trans (hb3.mono (by omega)))
  clear Z Z1 Z2 hb hb2 hb3
  go_wp2
  refine bodyPost_ret (v := pfx hi lo p4 (n + 1)) ?_ rfl ⟨rfl, ?_⟩
  · simp only [results, Ybad.results10]
    go_simp
  · exact ((((b3.setCell (p := ⟨w.heap.size + 1, 0, none⟩) (Nat.le_succ _) _).setCell (p := ⟨w.heap.size + 1, 1, none⟩) (Nat.le_succ _) _).setCell (p := ⟨w.heap.size + 1, 2, none⟩) (Nat.le_succ _) _).setCell (p := ⟨w.heap.size + 1, 3, none⟩) (Nat.le_succ _) _)
end Go.Proofs.YbulktckDoor.Net
