import Derived.Test.YbulksqaStop
namespace Go.Proofs.Ybulksqa.Stop
open Go.RowKit

theorem eq_nil (a : Addr) (w : World) : (binOp .eql 63 (.iface 80 (.pointer (some a))) .nilIface).run Yba.prog w = .ok (.bool false) w := by
  have h : ∀ d : Nat, (Op.equalIn (d + 1) 63 (.iface 80 (.pointer (some a))) .nilIface).run Yba.prog w = .ok false w := fun d => by simp [Op.equalIn, run_underlying Yba.underlying63]
  simp only [binOp]
  simp [Op.equal, Op.maxDepth, h 9999]

set_option maxRecDepth 100000 in
set_option maxHeartbeats 1000000 in
/-- q is nil: sel even or odd, done or not. -/
theorem walk_q0 (a0 : Int) (d : Bool) (m : ByteArray) (h0 : 0 ≤ a0) (h1 : a0 ≤ 255) (hq : (a0 / 2 % 3 == 0) = true) (w : World) :
    Calls Yba.prog 9 #[.int .u8 a0, .bool d, .string m] w fun e w' => e = .returned (.bool true) ∧ Grown w w' := by
  by_cases he : (a0 % 2 == 1) = true
  · cases d
    · go_enter Yba.func9, Yba.ntmps9
      go_wp2_with (first | (go_at_call 18; refine (new_any _ _).mono ?_; rintro e w' ⟨rfl, rfl⟩) | (go_at_call 15; refine (boolStore _ _ _ _ (by go_simp; rfl) (by go_simp)).mono ?_; rintro e w' ⟨rfl, rfl⟩))
      refine (stop_nil _ _).mono ?_
      rintro e w' ⟨rfl, rfl⟩
      go_wp2
      go_ret
      exact ⟨rfl, by repeat (first | exact Grown.refl _ | apply Grown.drew | apply Grown.alloc)⟩
    · go_enter Yba.func9, Yba.ntmps9
      go_wp2_with (first | (go_at_call 18; refine (new_any _ _).mono ?_; rintro e w' ⟨rfl, rfl⟩) | (go_at_call 15; refine (boolStore _ _ _ _ (by go_simp; rfl) (by go_simp)).mono ?_; rintro e w' ⟨rfl, rfl⟩))
      refine (stop_nil _ _).mono ?_
      rintro e w' ⟨rfl, rfl⟩
      go_wp2
      go_ret
      exact ⟨rfl, by repeat (first | exact Grown.refl _ | apply Grown.drew | apply Grown.alloc)⟩
  · have he' : (a0 % 2 == 1) = false := by simpa using he
    clear he
    cases d
    · go_enter Yba.func9, Yba.ntmps9
      go_wp2_with fail
      refine (stop_nil _ _).mono ?_
      rintro e w' ⟨rfl, rfl⟩
      go_wp2
      go_ret
      exact ⟨rfl, by repeat (first | exact Grown.refl _ | apply Grown.drew | apply Grown.alloc)⟩
    · go_enter Yba.func9, Yba.ntmps9
      go_wp2_with (first | (go_at_call 15; refine (boolStore _ _ _ _ (by go_simp; rfl) (by go_simp)).mono ?_; rintro e w' ⟨rfl, rfl⟩))
      refine (stop_nil _ _).mono ?_
      rintro e w' ⟨rfl, rfl⟩
      go_wp2
      go_ret
      exact ⟨rfl, by repeat (first | exact Grown.refl _ | apply Grown.drew | apply Grown.alloc)⟩

set_option maxRecDepth 100000 in
set_option maxHeartbeats 1000000 in
/-- q is e. -/
theorem walk_q1 (a0 : Int) (d : Bool) (m : ByteArray) (h0 : 0 ≤ a0) (h1 : a0 ≤ 255) (hq0 : (a0 / 2 % 3 == 0) = false) (hq : (a0 / 2 % 3 == 1) = true) (w : World) :
    Calls Yba.prog 9 #[.int .u8 a0, .bool d, .string m] w fun e w' => e = .returned (.bool true) ∧ Grown w w' := by
  by_cases he : (a0 % 2 == 1) = true
  · have hs := eq_same
    cases d
    · go_enter Yba.func9, Yba.ntmps9
      go_wp2_with (first | (go_at_call 18; refine (new_any _ _).mono ?_; rintro e w' ⟨rfl, rfl⟩) | (go_at_call 15; refine (boolStore _ _ _ _ (by go_simp; rfl) (by go_simp)).mono ?_; rintro e w' ⟨rfl, rfl⟩))
      refine (stop_any _ (w.heap.size + 1) _ (.iface 80 (.pointer (some ⟨w.heap.size, 0, none⟩))) true _ ?_ ?_ ?_ ?_ ?_ ?_).mono ?_
      · omega
      · go_simp
      · go_simp
      · go_simp
      · go_simp
      · exact eq_same _ _
      rintro e w' ⟨rfl, rfl⟩
      go_wp2
      go_ret
      exact ⟨rfl, by repeat (first | exact Grown.refl _ | apply Grown.drew | apply Grown.alloc | refine Grown.setCell ?_ (by simp; try omega) _)⟩
    · go_enter Yba.func9, Yba.ntmps9
      go_wp2_with (first | (go_at_call 18; refine (new_any _ _).mono ?_; rintro e w' ⟨rfl, rfl⟩) | (go_at_call 15; refine (boolStore _ _ _ _ (by go_simp; rfl) (by go_simp)).mono ?_; rintro e w' ⟨rfl, rfl⟩))
      refine (stop_any _ (w.heap.size + 1) _ (.iface 80 (.pointer (some ⟨w.heap.size, 0, none⟩))) true _ ?_ ?_ ?_ ?_ ?_ ?_).mono ?_
      · omega
      · go_simp
      · go_simp
      · go_simp
      · go_simp
      · exact eq_same _ _
      rintro e w' ⟨rfl, rfl⟩
      go_wp2
      go_ret
      exact ⟨rfl, by repeat (first | exact Grown.refl _ | apply Grown.drew | apply Grown.alloc | refine Grown.setCell ?_ (by simp; try omega) _)⟩
  · have he' : (a0 % 2 == 1) = false := by simpa using he
    clear he
    cases d
    · go_enter Yba.func9, Yba.ntmps9
      go_wp2_with (first | (go_at_call 18; refine (new_any _ _).mono ?_; rintro e w' ⟨rfl, rfl⟩) | (go_at_call 15; refine (boolStore _ _ _ _ (by go_simp; rfl) (by go_simp)).mono ?_; rintro e w' ⟨rfl, rfl⟩))
      refine (stop_nil _ _).mono ?_
      rintro e w' ⟨rfl, rfl⟩
      go_wp2
      go_ret
      exact ⟨rfl, by repeat (first | exact Grown.refl _ | apply Grown.drew | apply Grown.alloc | refine Grown.setCell ?_ (by simp; try omega) _)⟩
    · go_enter Yba.func9, Yba.ntmps9
      go_wp2_with (first | (go_at_call 18; refine (new_any _ _).mono ?_; rintro e w' ⟨rfl, rfl⟩) | (go_at_call 15; refine (boolStore _ _ _ _ (by go_simp; rfl) (by go_simp)).mono ?_; rintro e w' ⟨rfl, rfl⟩))
      refine (stop_nil _ _).mono ?_
      rintro e w' ⟨rfl, rfl⟩
      go_wp2
      go_ret
      exact ⟨rfl, by repeat (first | exact Grown.refl _ | apply Grown.drew | apply Grown.alloc | refine Grown.setCell ?_ (by simp; try omega) _)⟩

set_option maxRecDepth 100000 in
set_option maxHeartbeats 1000000 in
/-- q is another error; e is nil. -/
theorem walk_q2n (a0 : Int) (d : Bool) (m : ByteArray) (h0 : 0 ≤ a0) (h1 : a0 ≤ 255) (hq0 : (a0 / 2 % 3 == 0) = false) (hq : (a0 / 2 % 3 == 1) = false) (he : (a0 % 2 == 1) = false) (w : World) :
    Calls Yba.prog 9 #[.int .u8 a0, .bool d, .string m] w fun e w' => e = .returned (.bool true) ∧ Grown w w' := by
  have hs := eq_nil
  cases d
  · go_enter Yba.func9, Yba.ntmps9
    go_wp2_with (first | (go_at_call 18; refine (new_any _ _).mono ?_; rintro e w' ⟨rfl, rfl⟩) | (go_at_call 15; refine (boolStore _ _ _ _ (by go_simp; rfl) (by go_simp)).mono ?_; rintro e w' ⟨rfl, rfl⟩))
    refine (stop_any _ (w.heap.size + 1) _ .nilIface false _ ?_ ?_ ?_ ?_ ?_ ?_).mono ?_
    · omega
    · go_simp
    · go_simp
    · go_simp
    · go_simp
    · exact eq_nil _ _
    rintro e w' ⟨rfl, rfl⟩
    go_wp2
    go_ret
    exact ⟨rfl, by repeat (first | exact Grown.refl _ | apply Grown.drew | apply Grown.alloc | refine Grown.setCell ?_ (by simp; try omega) _)⟩
  · go_enter Yba.func9, Yba.ntmps9
    go_wp2_with (first | (go_at_call 18; refine (new_any _ _).mono ?_; rintro e w' ⟨rfl, rfl⟩) | (go_at_call 15; refine (boolStore _ _ _ _ (by go_simp; rfl) (by go_simp)).mono ?_; rintro e w' ⟨rfl, rfl⟩))
    refine (stop_any _ (w.heap.size + 1) _ .nilIface false _ ?_ ?_ ?_ ?_ ?_ ?_).mono ?_
    · omega
    · go_simp
    · go_simp
    · go_simp
    · go_simp
    · exact eq_nil _ _
    rintro e w' ⟨rfl, rfl⟩
    go_wp2
    go_ret
    exact ⟨rfl, by repeat (first | exact Grown.refl _ | apply Grown.drew | apply Grown.alloc | refine Grown.setCell ?_ (by simp; try omega) _)⟩

theorem row_one (w : World) (x : Value) (t : TypeId) : (w.alloc (.cells #[x] t)).rowIs w.heap.size t 1 (fun _ => x) := by
  refine World.rowIs_alloc w #[x] t _ ?_
  intro i hi
  simp at hi
  subst hi
  rfl

/-- Two errors made one behind the other are two. -/
theorem eq_two (w X : World) (m : ByteArray) (h : ∀ k, k < w.heap.size + 2 → X.heap[k]? = ((w.alloc (.cells #[.string m] 82)).alloc (.cells #[.string m] 82)).heap[k]?) :
    (binOp .eql 63 (.iface 80 (.pointer (some ⟨w.heap.size + 1, 0, none⟩))) (.iface 80 (.pointer (some ⟨w.heap.size, 0, none⟩)))).run Yba.prog X = .ok (.bool false) X := by
  have r0 := (row_one w (.string m) 82).alloc (.cells #[.string m] 82)
  have r1 := row_one (w.alloc (.cells #[.string m] 82)) (.string m) 82
  rw [World.size_alloc] at r1
  exact eq_other (r1.of_block (h _ (by omega))) (r0.of_block (h _ (by omega))) (by omega)

theorem blk2 (w : World) (o3 o4 : Obj) (k : Nat) (hk : k < w.heap.size) : ((w.alloc o3).alloc o4).heap[k]? = w.heap[k]? := by
  rw [Below.heap_alloc _ _ _ (by rw [World.size_alloc]; omega), Below.heap_alloc _ _ _ hk]

set_option maxRecDepth 100000 in
set_option maxHeartbeats 1000000 in
/-- q is another error than e. -/
theorem walk_q2e (a0 : Int) (d : Bool) (m : ByteArray) (h0 : 0 ≤ a0) (h1 : a0 ≤ 255) (hq0 : (a0 / 2 % 3 == 0) = false) (hq : (a0 / 2 % 3 == 1) = false) (he : (a0 % 2 == 1) = true) (w : World) :
    Calls Yba.prog 9 #[.int .u8 a0, .bool d, .string m] w fun e w' => e = .returned (.bool true) ∧ Grown w w' := by
  have hs : ∀ o3 o4, (binOp .eql 63 (.iface 80 (.pointer (some ⟨w.heap.size + 1, 0, none⟩))) (.iface 80 (.pointer (some ⟨w.heap.size, 0, none⟩)))).run Yba.prog ((((w.alloc (.cells #[.string m] 82)).alloc (.cells #[.string m] 82)).alloc o3).alloc o4) = .ok (.bool false) ((((w.alloc (.cells #[.string m] 82)).alloc (.cells #[.string m] 82)).alloc o3).alloc o4) :=
    fun o3 o4 => eq_two w _ m fun k hk => blk2 _ _ _ _ (by simp only [World.size_alloc]; omega)
  have hsd : ∀ o3 o4, (binOp .eql 63 (.iface 80 (.pointer (some ⟨w.heap.size + 1, 0, none⟩))) (.iface 80 (.pointer (some ⟨w.heap.size, 0, none⟩)))).run Yba.prog ((((w.alloc (.cells #[.string m] 82)).alloc (.cells #[.string m] 82)).alloc o3).alloc o4).drew = .ok (.bool false) ((((w.alloc (.cells #[.string m] 82)).alloc (.cells #[.string m] 82)).alloc o3).alloc o4).drew :=
    fun o3 o4 => eq_two w _ m fun k hk => blk2 _ _ _ _ (by simp only [World.size_alloc]; omega)
  cases d
  · go_enter Yba.func9, Yba.ntmps9
    go_wp2_with (first | (go_at_call 18; refine (new_any _ _).mono ?_; rintro e w' ⟨rfl, rfl⟩) | (go_at_call 15; refine (boolStore _ _ _ _ (by go_simp; rfl) (by go_simp)).mono ?_; rintro e w' ⟨rfl, rfl⟩))
    refine (stop_any _ (w.heap.size + 2) _ (.iface 80 (.pointer (some ⟨w.heap.size, 0, none⟩))) false _ ?_ ?_ ?_ ?_ ?_ ?_).mono ?_
    · omega
    · go_simp
    · go_simp
    · go_simp
    · go_simp
    · exact eq_two w _ m fun k hk => (Below.heap_setCell _ _ _ _ (by show k ≠ w.heap.size + 2; omega)).trans (blk2 _ _ _ _ (by simp only [World.size_alloc]; omega))
    rintro e w' ⟨rfl, rfl⟩
    go_wp2
    go_ret
    exact ⟨rfl, by repeat (first | exact Grown.refl _ | apply Grown.drew | apply Grown.alloc | refine Grown.setCell ?_ (by simp; try omega) _)⟩
  · go_enter Yba.func9, Yba.ntmps9
    go_wp2_with (first | (go_at_call 18; refine (new_any _ _).mono ?_; rintro e w' ⟨rfl, rfl⟩) | (go_at_call 15; refine (boolStore _ _ _ _ (by go_simp; rfl) (by go_simp)).mono ?_; rintro e w' ⟨rfl, rfl⟩))
    refine (stop_any _ (w.heap.size + 2) _ (.iface 80 (.pointer (some ⟨w.heap.size, 0, none⟩))) false _ ?_ ?_ ?_ ?_ ?_ ?_).mono ?_
    · omega
    · go_simp
    · go_simp
    · go_simp
    · go_simp
    · exact eq_two w _ m fun k hk => (Below.heap_setCell _ _ _ _ (by show k ≠ w.heap.size + 2; omega)).trans (blk2 _ _ _ _ (by simp only [World.size_alloc]; omega))
    rintro e w' ⟨rfl, rfl⟩
    go_wp2
    go_ret
    exact ⟨rfl, by repeat (first | exact Grown.refl _ | apply Grown.drew | apply Grown.alloc | refine Grown.setCell ?_ (by simp; try omega) _)⟩

end Go.Proofs.Ybulksqa.Stop
