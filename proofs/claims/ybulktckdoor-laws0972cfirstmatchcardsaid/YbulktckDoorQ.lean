import Derived.Test.YbulktckDoorH
namespace Go.Proofs.YbulktckDoor.Net
open Go.RowKit

set_option maxRecDepth 100000 in
set_option maxHeartbeats 1000000 in
theorem protect_any (B N : Nat) (hN : N ≤ 1024) (E : Nat → En) (hE : ∀ i, i < N → (E i).Ok) (v : Int) (v0 : 0 ≤ v) (v1 : v < 4294967296) (z : Addr) (p4 p6 : Addr)
    (hu : Hid (∀ W, ZZ W p4 p6 → Calls Ybad.prog 14 #[addr 0 (lo4 v) z] W fun e W' => e = .returned (addr 0 (lo4 v) p4) ∧ Below W.heap.size W W'))
    (w : World) (Z : ZZ w p4 p6) (L : BL w B N N E p4 p6) :
    Calls Ybad.prog 8 #[.slice (some ⟨B, 0, none⟩) N N, addr 0 (lo4 v) z] w fun e w' => Below w.heap.size w w' ∧
      ((∃ k, k < N ∧ (E k).hit v = true ∧ (∀ j, j < k → (E j).hit v = false) ∧ e = .returned (.tuple #[ent p4 p6 (E k), .bool true])) ∨ ((∀ j, j < N → (E j).hit v = false) ∧ e = .returned (.tuple #[ent0, .bool false]))) := by
  have HE : Hid (∀ i, i < N → (E i).Ok) := hE
  clear hE
  go_enter Ybad.func8, Ybad.ntmps8
  go_wp2_with fail
  refine (hu.out _ ((Z.alloc _).alloc _)).mono ?_
  rintro e X ⟨rfl, hb⟩
  have P0 := PI.start v z Z L hb
  obtain ⟨hc, hf⟩ := bcell hb
  have hz0 : w.heap.size < X.heap.size := by have := hb.size; simp only [World.size_alloc] at this; omega
  go_wp2
  clear hc hf hz0 hb
  go_loopw [12] (fun i wr => ∃ j : Nat, j ≤ N ∧ i = .int .i64 j ∧ PI w wr p4 p6 B N E v j) (fun i _ => N - (intOf i).toNat)
  case atStart => exact ⟨0, Nat.zero_le _, rfl, P0⟩
  case round =>
    clear P0 Z L
    obtain ⟨j, hj, rfl, I⟩ := hrel
    by_cases hlt : j < N
    · have hltI : (j : Int) < (N : Int) := by omega
      obtain ⟨c0, c1, c2, c3, c4⟩ := I.l.cells (Nat.le_refl _) hlt
      have a0 : wr.cell? ⟨w.heap.size, 0, none⟩ = some (.int .u64 0) := I.r0.cell (i := 0) (by omega)
      have a1 : wr.cell? ⟨w.heap.size, 1, none⟩ = some (.int .u64 (lo4 v)) := I.r0.cell (i := 1) (by omega)
      have a2 : wr.cell? ⟨w.heap.size, 2, none⟩ = some (.pointer (some p4)) := I.r0.cell (i := 2) (by omega)
      have hs := I.bel.size
      have hl := I.l.lt
      have hr := I.r0.lt
      have hr1 := I.r1.lt
      go_wp2_with fail
      refine (contains_e (E j) (HE.out j hlt) v v0 v1 p4 p6 _ (I.z.alloc _)).mono ?_
      rintro e Y ⟨rfl, hb⟩
      cases hh : (E j).hit v
      · have I' := I.next _ hb hh
        clear hb I c0 c1 c2 c3 c4 a0 a1 a2
        go_wp2
        go_roundw
        case rel => exact ⟨j + 1, by omega, by go_num, I'⟩
        case measure => simp [intOf]; omega
      · have bY := I.bel.trans ((bel_past1 hb).mono I.bel.size)
        have miss : Hid (∀ i, i < j → (E i).hit v = false) := I.miss
        obtain ⟨hc, hf⟩ := bcell hb
        have R1 := I.r1.of_block ((bel_past1 hb).block _ I.r1.lt)
        have k0 : Y.cell? ⟨w.heap.size + 1, 0, none⟩ = some (.int .u64 0) := R1.cell (i := 0) (by omega)
        have k1 : Y.cell? ⟨w.heap.size + 1, 1, none⟩ = some (.int .u64 0) := R1.cell (i := 1) (by omega)
        have k2 : Y.cell? ⟨w.heap.size + 1, 2, none⟩ = some (.pointer none) := R1.cell (i := 2) (by omega)
        have k3 : Y.cell? ⟨w.heap.size + 1, 3, none⟩ = some (.int .u8 0) := R1.cell (i := 3) (by omega)
        have k4 : Y.cell? ⟨w.heap.size + 1, 4, none⟩ = some (.string ⟨#[]⟩) := R1.cell (i := 4) (by omega)
        have kf : ∀ i, Y.frozen? ⟨w.heap.size + 1, i, none⟩ = false := R1.frozen
        have hz : wr.heap.size < Y.heap.size := by have := hb.size; rw [World.size_alloc] at this; omega
        have d0 : Y.cell? ⟨wr.heap.size, 0, none⟩ = some (.int .u64 0) := by rw [hc _ _ (by rw [World.size_alloc]; omega)]; go_simp
        have d1 : Y.cell? ⟨wr.heap.size, 1, none⟩ = some (.int .u64 (lo4 (E j).w)) := by rw [hc _ _ (by rw [World.size_alloc]; omega)]; go_simp
        have d2 : Y.cell? ⟨wr.heap.size, 2, none⟩ = some (.pointer (some ((E j).z p4 p6))) := by rw [hc _ _ (by rw [World.size_alloc]; omega)]; go_simp
        have d3 : Y.cell? ⟨wr.heap.size, 3, none⟩ = some (.int .u8 (E j).bl) := by rw [hc _ _ (by rw [World.size_alloc]; omega)]; go_simp
        have d4 : Y.cell? ⟨wr.heap.size, 4, none⟩ = some (.string (rs (E j).k)) := by rw [hc _ _ (by rw [World.size_alloc]; omega)]; go_simp
        clear hb hc hf R1 c0 c1 c2 c3 c4 a0 a1 a2 I
        go_wp2
        refine bodyPost_ret (v := .tuple #[ent p4 p6 (E j), .bool true]) ?_ rfl ⟨?_, .inl ⟨j, hlt, hh, miss.out, rfl⟩⟩
        · simp only [results, Ybad.results8, ent]
          go_simp
        · exact ((((bY.setCell (p := ⟨w.heap.size + 1, 0, none⟩) (Nat.le_succ _) _).setCell (p := ⟨w.heap.size + 1, 1, none⟩) (Nat.le_succ _) _).setCell (p := ⟨w.heap.size + 1, 2, none⟩) (Nat.le_succ _) _).setCell (p := ⟨w.heap.size + 1, 3, none⟩) (Nat.le_succ _) _).setCell (p := ⟨w.heap.size + 1, 4, none⟩) (Nat.le_succ _) _
    · obtain rfl : j = N := by omega
      have bY := I.bel
      have miss : Hid (∀ i, i < j → (E i).hit v = false) := I.miss
      have k0 : wr.cell? ⟨w.heap.size + 1, 0, none⟩ = some (.int .u64 0) := I.r1.cell (i := 0) (by omega)
      have k1 : wr.cell? ⟨w.heap.size + 1, 1, none⟩ = some (.int .u64 0) := I.r1.cell (i := 1) (by omega)
      have k2 : wr.cell? ⟨w.heap.size + 1, 2, none⟩ = some (.pointer none) := I.r1.cell (i := 2) (by omega)
      have k3 : wr.cell? ⟨w.heap.size + 1, 3, none⟩ = some (.int .u8 0) := I.r1.cell (i := 3) (by omega)
      have k4 : wr.cell? ⟨w.heap.size + 1, 4, none⟩ = some (.string ⟨#[]⟩) := I.r1.cell (i := 4) (by omega)
      have kf : ∀ i, wr.frozen? ⟨w.heap.size + 1, i, none⟩ = false := I.r1.frozen
      clear I
      go_wp2
      refine bodyPost_ret (v := .tuple #[ent0, .bool false]) ?_ rfl ⟨?_, .inr ⟨miss.out, rfl⟩⟩
      · simp only [results, Ybad.results8, ent0]
        go_simp
      · exact ((((bY.setCell (p := ⟨w.heap.size + 1, 0, none⟩) (Nat.le_succ _) _).setCell (p := ⟨w.heap.size + 1, 1, none⟩) (Nat.le_succ _) _).setCell (p := ⟨w.heap.size + 1, 2, none⟩) (Nat.le_succ _) _).setCell (p := ⟨w.heap.size + 1, 3, none⟩) (Nat.le_succ _) _).setCell (p := ⟨w.heap.size + 1, 4, none⟩) (Nat.le_succ _) _

end Go.Proofs.YbulktckDoor.Net
