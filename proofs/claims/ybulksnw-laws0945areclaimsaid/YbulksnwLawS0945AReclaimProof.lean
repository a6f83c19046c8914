import Derived.Test.YbulksnwRows
import Derived.Test.YbulksnwLawA
import Derived.Deep.Slices
import Derived.WalkKit
import Derived.ProofKit
import Derived.OpenShut
import Derived.ShutString
import Derived.ChangeOld
import Derived.Below
namespace Go.Proofs.Ybulksnw.lawS0945AReclaim
open Go.ChangeShapes Go.WideShapes Go.ChangeAt Go.RowKit
open Go.ChangeMaps (open_string shut_string)
set_option linter.unusedVariables false

theorem own : ownKnob Yba.prog.godebug = none := by kernel_rfl
theorem laidOut : laidOutB Yba.prog = true := by kernel_rfl

/-- A slice of bools that came in: its cells. -/
theorem open_lst {H : Type} {enc : TypeId × Value → H} {W : World} {fuel : Nat} {x : DataW H × List MemPlace} {a0 : Option Addr} {len0 cap0 : Nat}
    (hf : DataW.trod enc Yba.prog W 0 (fun _ => true) true fuel 22 [.slice a0 len0 cap0] = some x) : ∃ L, Recl.Lst W a0 len0 L ∧ len0 ≤ maxLen := by
  rcases Go.Deep.open_slice1 Yba.underlying22 (by kernel_rfl) hf with ⟨hcs, _⟩ | ⟨a, len, cap, m, n, V, D, Pl, hcs, _, hl, hm, hmm, _, hcell⟩
  · simp at hcs
    obtain ⟨rfl, rfl, rfl⟩ := hcs
    exact ⟨fun _ => false, .inl rfl, Nat.zero_le _⟩
  · simp at hcs
    obtain ⟨rfl, rfl, rfl⟩ := hcs
    have hmc : m = cap0 := by simpa using hmm
    subst hmc
    by_cases hz : len0 = 0
    · subst hz
      exact ⟨fun _ => false, .inl rfl, Nat.zero_le _⟩
    refine ⟨fun i => match V i with | .bool t => t | _ => false, .inr ?_, by omega⟩
    obtain ⟨b, off, spot⟩ := a
    have hspot : spot = none := by simpa [Addr.add] using World.cell?_spot (hcell 0 (by omega)).1
    subst hspot
    refine ⟨b, off, rfl, fun j hj => ?_⟩
    obtain ⟨h1, h2⟩ := hcell j (by omega)
    rw [Addr.add_lit] at h1
    obtain ⟨t, ht, _⟩ := DataW.trod_bool Yba.underlying4 h2
    simp at ht
    rw [h1, ht]
    show some (Value.bool t) = some (Value.bool (match V j with | .bool t => t | _ => false))
    rw [ht]

set_option maxRecDepth 100000 in
theorem walk (a0 : Option Addr) (len0 cap0 : Nat) (L : Nat → Bool) (a1 : Int) (a2 : Bool) (a3 : Bool) (a4 : Int) (a5 : Int) (w : World) (w0 : Recl.Lst w a0 len0 L) (hl0 : len0 ≤ maxLen) (w1 : (Lit.int .u64 a1).wf = true) (w4 : (Lit.int .u64 a4).wf = true) :
    Calls Yba.prog 3 #[.slice a0 len0 cap0, .int .u64 a1, .bool a2, .bool a3, .int .u64 a4, .int .u64 a5] w fun e w' => e = .returned (.bool true) ∧ Below w.heap.size w w' := by
  obtain ⟨b1, _⟩ := bounds_u64 w1
  obtain ⟨b4, _⟩ := bounds_u64 w4
  by_cases hbig : 1024 < len0
  · unfold maxLen at hl0
    have hbig' : (1024 : Int) < (len0 : Int) := by omega
    go_enter Yba.func3, Yba.ntmps3
    go_wp2
    go_ret
    exact ⟨rfl, Below.refl _ _⟩
  · obtain ⟨k, hk⟩ := Int.eq_ofNat_of_zero_le (Int.emod_nonneg a1 (show ((len0 + 1 : Nat) : Int) ≠ 0 by omega))
    have hlt := Int.emod_lt_of_pos a1 (show (0 : Int) < ((len0 + 1 : Nat) : Int) by omega)
    cases a2
    · exact Recl.law_nil a0 len0 cap0 L (len0 + 1) k a1 a4 a5 _ _ a3 w w0 (by omega) (by omega) hk (by omega) b1 b4 rfl rfl (Recl.wrap_two a4).symm
    · exact Recl.law_cur a0 len0 cap0 L (len0 + 1) k a1 a4 a5 _ _ a3 w w0 (by omega) (by omega) hk (by omega) b1 b4 rfl rfl (Recl.wrap_two a4).symm

/-! ### THE ROW's STEP: WRITTEN OUT: LEAVE IT -/
set_option maxRecDepth 100000 in
theorem lifted (os : Os) (started : os.Started) (H : Type) (enc : TypeId × Value → H) :
    ReturnsInHanded {} Yba.checked os 3 .any (Rows.lawS0945AReclaimSpec.pre6 enc Yba.prog Yba.f3 Rows.lawS0945AReclaimRow.domain false) (Rows.lawS0945AReclaimSpec.post enc Yba.prog Yba.f3 false true false false) := by
  refine returnsInHanded_of_change (C := Yba.checked) own started (by kernel_rfl) Yba.func3
    (ChangeSpec.witness6 (enc := enc) (C := Yba.checked) false ⟨#[], #[.slice none 0 0, .int .u64 0, .bool false, .bool false, .int .u64 0, .int .u64 0], []⟩ 8 (by kernel_rfl) (by kernel_rfl) (by kernel_rfl) (by kernel_rfl)) ?_
  intro W base args ds gs before hval0 hW hcnd _
  have hval : ∀ (j : Nat) t v, Yba.f3.params[j]? = some t → args[j]? = some v → Value.okWide Yba.prog W .any base t v := hval0
  have hW' := hW
  obtain ⟨p, q, hA0, hV, rfl, hfz, hnd⟩ := hW
  have hA : DataW.TrodAll enc Yba.prog W 0 (fun _ => true) true Yba.f3.params.toList args.toList ds p := hA0
  rw [Yba.params3] at hA hval
  obtain ⟨v0, vs0, d0, ds0, p0, q0, hargs, rfl, rfl, h0, r0⟩ := trodAll_cons hA
  obtain ⟨v1, vs1, d1, ds1, p1, q1, rfl, rfl, rfl, h1, r1⟩ := trodAll_cons r0
  obtain ⟨v2, vs2, d2, ds2, p2, q2, rfl, rfl, rfl, h2, r2⟩ := trodAll_cons r1
  obtain ⟨v3, vs3, d3, ds3, p3, q3, rfl, rfl, rfl, h3, r3⟩ := trodAll_cons r2
  obtain ⟨v4, vs4, d4, ds4, p4, q4, rfl, rfl, rfl, h4, r4⟩ := trodAll_cons r3
  obtain ⟨v5, vs5, d5, ds5, p5, q5, rfl, rfl, rfl, h5, r5⟩ := trodAll_cons r4
  obtain ⟨rfl, rfl, rfl⟩ := trodAll_nil r5
  obtain rfl : args = #[v0, v1, v2, v3, v4, v5] := by cases args; simp_all
  obtain ⟨rfl, rfl⟩ := trodVars_none hV
  obtain ⟨a0, len0, cap0, rfl⟩ := okWide_slice Yba.underlying22 (hval 0 22 v0 rfl rfl)
  have k0 := h0
  have lt0 : ∀ x ∈ p0, x.block < W.heap.size := by obtain ⟨m, hm⟩ := k0; exact DataW.trod_lt m _ _ _ hm
  obtain ⟨L0, w0, hl0⟩ : ∃ L, Recl.Lst W a0 len0 L ∧ len0 ≤ maxLen := by
    obtain ⟨fuel, hf⟩ := h0
    exact open_lst (by simpa [Value.cells] using hf)
  obtain ⟨a1, rfl, rfl, rfl, w1⟩ := open_int Yba.underlying23 (hval 1 23 v1 rfl rfl) h1
  obtain ⟨a2, rfl, rfl, rfl⟩ := open_bool Yba.underlying4 (hval 2 4 v2 rfl rfl) h2
  obtain ⟨a3, rfl, rfl, rfl⟩ := open_bool Yba.underlying4 (hval 3 4 v3 rfl rfl) h3
  obtain ⟨a4, rfl, rfl, rfl, w4⟩ := open_int Yba.underlying23 (hval 4 23 v4 rfl rfl) h4
  obtain ⟨a5, rfl, rfl, rfl, w5⟩ := open_int Yba.underlying23 (hval 5 23 v5 rfl rfl) h5
  clear hA0 hval0
  refine (walk a0 len0 cap0 L0 a1 a2 a3 a4 a5 W w0 hl0 w1 w4).mono fun e W' ⟨he, bel⟩ => ?_
  subst he
  exact ⟨_, rfl, _, _, _, [], _, [], hW', trodAll_mk1 (shut_bool Yba.underlying4 _), (trodAll_cons_mk (Below.trod laidOut (by kernel_rfl) (of_decide_eq_true (by kernel_rfl)) k0 bel lt0) (trodAll_cons_mk (shut_int Yba.underlying23 w1) (trodAll_cons_mk (shut_bool Yba.underlying4 _) (trodAll_cons_mk (shut_bool Yba.underlying4 _) (trodAll_cons_mk (shut_int Yba.underlying23 w4) (trodAll_cons_mk (shut_int Yba.underlying23 w5) trodAll_mk0)))))), rfl, bel.frame _, fun h => by cases h⟩

theorem over : Rows.lawS0945AReclaimRow.holds Yba.pinned (OpenSpec.ofChange Rows.lawS0945AReclaimSpec) :=
  OpenClaim.holds_of_wide 3 Yba.f3 rfl rfl rfl rfl rfl rfl rfl ⟨rfl, rfl, rfl, rfl, rfl⟩ rfl rfl rfl rfl rfl (by kernel_rfl) Yba.func3 (by kernel_rfl)
    (of_decide_eq_true (by kernel_rfl)) (by unfold Func.isWrapper; first | (rw [if_pos (by decide +kernel)]; kernel_rfl) | (rw [if_neg (by decide +kernel)]; exact ⟨rfl, rfl⟩))
    (fun os started H enc _ => lifted os started H enc)

/-- ████ THE STATEMENT ████ -/
theorem proved : Rows.LawS0945AReclaimSaid := over
end Go.Proofs.Ybulksnw.lawS0945AReclaim
