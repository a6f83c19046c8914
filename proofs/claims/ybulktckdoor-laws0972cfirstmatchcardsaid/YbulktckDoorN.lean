import Derived.Test.YbulktckDoorB
namespace Go.Proofs.YbulktckDoor.Net
open Go.RowKit

set_option maxRecDepth 100000 in
set_option maxHeartbeats 1000000 in
theorem prefix6 (hi lo n : Int) (h0 : 96 ≤ n) (h1 : n ≤ 128) (p4 p6 : Addr) (w : World) (Z : ZZ w p4 p6) :
    Calls Ybad.prog 10 #[addr hi lo p6, .int .i64 n] w fun e w' => e = .returned (pfx hi lo p6 (n + 1)) ∧ Below w.heap.size w w' := by
  go_enter Ybad.func10, Ybad.ntmps10
  go_wp2_with (go_at_call 16; refine (isZero_any hi lo p6 p4 p6 _ ((Z.alloc _).alloc _)).mono ?_; rintro e w1 ⟨rfl, hb⟩; obtain ⟨hc, hf⟩ := bcell hb)
  have hz0 : w.heap.size < w1.heap.size := by have := hb.size; simp only [World.size_alloc] at this; omega
  have hz1 : w.heap.size + 1 < w1.heap.size := by have := hb.size; simp only [World.size_alloc] at this; omega
  have Z1 := ((Z.alloc _).alloc _).later hb (Nat.le_refl _)
  refine (bitLen6 hi lo p4 p6 _ Z1).mono ?_
  rintro e w2 ⟨rfl, hb2⟩
  obtain ⟨hc2, hf2⟩ := bcell hb2
  have hy0 : w.heap.size < w2.heap.size := by have := hb2.size; omega
  have hy1 : w.heap.size + 1 < w2.heap.size := by have := hb2.size; omega
  have Z2 := Z1.later hb2 (Nat.le_refl _)
  go_wp2_with fail
  refine (noZone6 hi lo p4 p6 _ Z2).mono ?_
  rintro e w3 ⟨rfl, hb3⟩
  obtain ⟨hc3, hf3⟩ := bcell hb3
  have b3 := (bel_past hb).trans ((hb2.mono (by omega)).trans (hb3.mono (by omega)))
  clear Z Z1 Z2 hb hb2 hb3
  go_wp2
  refine bodyPost_ret (v := pfx hi lo p6 (n + 1)) ?_ rfl ⟨rfl, ?_⟩
  · simp only [results, Ybad.results10]
    go_simp
  · exact ((((b3.setCell (p := ⟨w.heap.size + 1, 0, none⟩) (Nat.le_succ _) _).setCell (p := ⟨w.heap.size + 1, 1, none⟩) (Nat.le_succ _) _).setCell (p := ⟨w.heap.size + 1, 2, none⟩) (Nat.le_succ _) _).setCell (p := ⟨w.heap.size + 1, 3, none⟩) (Nat.le_succ _) _)

/-- The text of a reason. -/
def rs (k : Int) : ByteArray :=
  if k % 5 == 0 then ⟨#[108, 111, 111, 112, 98, 97, 99, 107]⟩ else if k % 5 == 1 then ⟨#[111, 119, 110, 45, 97, 100, 100, 114, 101, 115, 115]⟩ else if k % 5 == 2 then ⟨#[103, 97, 116, 101, 119, 97, 121]⟩ else if k % 5 == 3 then ⟨#[114, 101, 115, 111, 108, 118, 101, 114]⟩ else ⟨#[115, 115, 104, 45, 99, 108, 105, 101, 110, 116]⟩

set_option maxRecDepth 100000 in
theorem reason_any (k : Int) (h0 : 0 ≤ k) (h1 : k ≤ 255) (w : World) : Calls Ybad.prog 11 #[.int .u8 k] w fun e w' => e = .returned (.string (rs k)) ∧ w = w' := by
  by_cases c0 : (k % 5 == 0) = true
  · have e : rs k = ⟨#[108, 111, 111, 112, 98, 97, 99, 107]⟩ := by simp [rs, c0]
    rw [e]
    clear e
    go_enter Ybad.func11, Ybad.ntmps11
    go_wp2
    go_ret
    exact ⟨rfl, rfl⟩
  have c0' : (k % 5 == 0) = false := by simpa using c0
  clear c0
  by_cases c1 : (k % 5 == 1) = true
  · have e : rs k = ⟨#[111, 119, 110, 45, 97, 100, 100, 114, 101, 115, 115]⟩ := by simp [rs, c1, c0']
    rw [e]
    clear e
    go_enter Ybad.func11, Ybad.ntmps11
    go_wp2
    go_ret
    exact ⟨rfl, rfl⟩
  have c1' : (k % 5 == 1) = false := by simpa using c1
  clear c1
  by_cases c2 : (k % 5 == 2) = true
  · have e : rs k = ⟨#[103, 97, 116, 101, 119, 97, 121]⟩ := by simp [rs, c2, c0', c1']
    rw [e]
    clear e
    go_enter Ybad.func11, Ybad.ntmps11
    go_wp2
    go_ret
    exact ⟨rfl, rfl⟩
  have c2' : (k % 5 == 2) = false := by simpa using c2
  clear c2
  by_cases c3 : (k % 5 == 3) = true
  · have e : rs k = ⟨#[114, 101, 115, 111, 108, 118, 101, 114]⟩ := by simp [rs, c3, c0', c1', c2']
    rw [e]
    clear e
    go_enter Ybad.func11, Ybad.ntmps11
    go_wp2
    go_ret
    exact ⟨rfl, rfl⟩
  have c3' : (k % 5 == 3) = false := by simpa using c3
  clear c3
  have e : rs k = ⟨#[115, 115, 104, 45, 99, 108, 105, 101, 110, 116]⟩ := by simp [rs, c0', c1', c2', c3']
  rw [e]
  clear e
  go_enter Ybad.func11, Ybad.ntmps11
  go_wp2
  go_ret
  exact ⟨rfl, rfl⟩
end Go.Proofs.YbulktckDoor.Net
