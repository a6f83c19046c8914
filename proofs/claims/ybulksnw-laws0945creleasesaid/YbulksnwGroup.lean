import Derived.Test.YbulksnwPop
import Derived.LoopTactic
namespace Go.Proofs.Ybulksnw.Queue
open Go.RowKit

abbrev gcells (c : Nat) (pen lim adm : Int) : Array Value :=
  #[.pointer none, .iface 147 (.pointer (some ⟨c, 0, none⟩)), .nilFunc, .pointer none, .int .i32 0, .int .u32 0, .nilIface, .int .u32 0, .int .u32 0, .int .u64 0, .pointer none, .pointer none, .int .u64 0,
    .int .i64 pen, .nilIface, .int .i64 lim, .int .i64 adm, .pointer none, .pointer none, .int .i64 0, .int .i64 0, .bool false, .int .i64 0, .int .u32 0, .int .i64 0]

theorem init_inv (W w : World) (c : Nat) (ev : Value) (pen lim adm : Int) (gr : Grown W w) (hW : W.heap.size ≤ c) (cr : w.rowIs c 149 1 (fun _ => ev)) :
    QInv W (w.alloc (.cells (gcells c pen lim adm) 100)) w.heap.size c ev pen lim adm 0 0 0 := by
  refine ⟨gr.alloc _ _, hW, cr.lt, ?_, cr.alloc _, ⟨fun j hj => by omega, fun i hi => by omega⟩, by rw [World.size_alloc]⟩
  have R := World.rowIs_alloc w (gcells c pen lim adm) 100 (fun i => ((gcells c pen lim adm)[i]?).getD .nilIface) (fun i hi => by rw [Array.getElem?_eq_getElem hi]; rfl)
  exact ⟨_, R, rfl, rfl, rfl, rfl, rfl, rfl, rfl, rfl, rfl⟩

set_option maxRecDepth 100000 in
set_option maxHeartbeats 1000000 in
theorem group_open (lim adm pen : Int) (n : Nat) (hn : n ≤ 1024) (ha0 : -128 ≤ adm) (ha1 : adm ≤ 127) (hp0 : -32768 ≤ pen) (hp1 : pen ≤ 32767) (w : World) :
    Calls Yba.prog 22 #[.int .i64 lim, .int .i8 adm, .int .i16 pen, .int .i64 (n : Int), .bool false] w fun e w' => e = .returned (.pointer (some ⟨w.heap.size + 1, 0, none⟩)) ∧
      QInv w w' (w.heap.size + 1) w.heap.size .nilIface pen lim adm 0 0 n := by
  have hI := init_inv w (w.alloc (.cells #[.nilIface] 149)) w.heap.size .nilIface pen lim adm ((Grown.refl w).alloc _ _) (Nat.le_refl _) (row_one w _ _)
  rw [World.size_alloc] at hI
  go_enter Yba.func22, Yba.ntmps22
  go_wp2
  go_loopw [13] (fun i wr => ∃ k : Nat, k ≤ n ∧ i = .int .i64 k ∧ QInv w wr (w.heap.size + 1) w.heap.size .nilIface pen lim adm 0 0 k) (fun i _ => n - (intOf i).toNat)
  case atStart => exact ⟨0, Nat.zero_le _, rfl, hI⟩
  case round =>
    clear hI
    obtain ⟨k, hk, rfl, I⟩ := hrel
    by_cases hlt : k < n
    · go_wp2_with (go_at_call 47; refine (push_inv (k := k) (by omega) I).mono ?_; rintro e w' ⟨rfl, I'⟩)
      go_roundw
      case rel => exact ⟨k + 1, by omega, by go_num, I'⟩
      case measure => simp [intOf]; omega
    · obtain rfl : k = n := by omega
      go_wp2
      go_ret
      exact ⟨rfl, I⟩

theorem new_any (s : ByteArray) (w : World) : Calls Yba.prog 46 #[.string s] w fun e w' => e = .returned (.iface 163 (.pointer (some ⟨w.heap.size, 0, none⟩))) ∧ w' = w.alloc (.cells #[.string s] 165) := by
  go_enter Yba.func46, Yba.ntmps46
  go_wp2
  go_ret
  exact ⟨rfl, rfl⟩

set_option maxRecDepth 100000 in
set_option maxHeartbeats 1000000 in
theorem group_done (lim adm pen : Int) (n : Nat) (hn : n ≤ 1024) (ha0 : -128 ≤ adm) (ha1 : adm ≤ 127) (hp0 : -32768 ≤ pen) (hp1 : pen ≤ 32767) (w : World) :
    Calls Yba.prog 22 #[.int .i64 lim, .int .i8 adm, .int .i16 pen, .int .i64 (n : Int), .bool true] w fun e w' => e = .returned (.pointer (some ⟨w.heap.size + 2, 0, none⟩)) ∧
      QInv w w' (w.heap.size + 2) w.heap.size (.iface 163 (.pointer (some ⟨w.heap.size + 1, 0, none⟩))) pen lim adm 0 0 n := by
  have hI := fun s => init_inv w ((w.alloc (.cells #[.iface 163 (.pointer (some ⟨w.heap.size + 1, 0, none⟩))] 149)).alloc (.cells #[.string s] 165)) w.heap.size (.iface 163 (.pointer (some ⟨w.heap.size + 1, 0, none⟩))) pen lim adm (((Grown.refl w).alloc _ _).alloc _ _) (Nat.le_refl _) ((row_one w _ _).alloc _)
  simp only [World.size_alloc] at hI
  go_enter Yba.func22, Yba.ntmps22
  go_wp2_with (go_at_call 46; refine (new_any _ _).mono ?_; rintro e w' ⟨rfl, rfl⟩)
  go_loopw [13] (fun i wr => ∃ k : Nat, k ≤ n ∧ i = .int .i64 k ∧ QInv w wr (w.heap.size + 2) w.heap.size (.iface 163 (.pointer (some ⟨w.heap.size + 1, 0, none⟩))) pen lim adm 0 0 k) (fun i _ => n - (intOf i).toNat)
  case atStart => exact ⟨0, Nat.zero_le _, rfl, hI _⟩
  case round =>
    clear hI
    obtain ⟨k, hk, rfl, I⟩ := hrel
    by_cases hlt : k < n
    · go_wp2_with (go_at_call 47; refine (push_inv (k := k) (by omega) I).mono ?_; rintro e w' ⟨rfl, I'⟩)
      go_roundw
      case rel => exact ⟨k + 1, by omega, by go_num, I'⟩
      case measure => simp [intOf]; omega
    · obtain rfl : k = n := by omega
      go_wp2
      go_ret
      exact ⟨rfl, I⟩
end Go.Proofs.Ybulksnw.Queue
