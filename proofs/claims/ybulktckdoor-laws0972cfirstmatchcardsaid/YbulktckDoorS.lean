import Derived.Test.YbulktckDoorV
import Derived.Test.YbulktckDoorTie
import Derived.Test.YbulktckDoorCards
import Derived.SevenTiedAt
import Derived.Lay
namespace Go.Proofs.YbulktckDoor.Net
open Go.ChangeShapes Go.WideShapes Go.ChangeAt Go.RowKit

theorem c49 : Ybad.prog.cellsOf 49 = 7 := by kernel_rfl
theorem c5 : Ybad.prog.cellsOf 5 = 1 := by kernel_rfl
theorem c4 : Ybad.prog.cellsOf 4 = 1 := by kernel_rfl

theorem u8_bd {n : Int} (h : (Lit.int .u8 n).wf = true) : 0 ≤ n ∧ n ≤ 255 := by
  simp [Lit.wf, IntKind.min, IntKind.max, IntKind.signed, IntKind.bits] at h
  omega

/-- One entry that came in. -/
theorem open_entry {H : Type} {enc : TypeId × Value → H} {W : World} {fuel : Nat} {x : DataW H × List MemPlace} {cs : List Value} (h : DataW.trod enc Ybad.prog W 0 (fun _ => true) true fuel 49 cs = some x) :
    ∃ e : En, e.Ok ∧ cs = [.int .u8 e.a, .int .u8 e.b, .int .u8 e.c, .int .u8 e.d, .int .u8 e.n, .bool e.v6, .int .u8 e.k] := by
  obtain ⟨xs, n, _, hx, hl, hxl, hf⟩ := DataW.trod_struct Ybad.underlying49 h
  rw [c49] at hl
  have g0 : DataW.trod enc Ybad.prog W 0 (fun _ => true) true n 5 (List.take (Ybad.prog.cellsOf 5) (List.drop 0 cs)) = xs[0]? := hf 0 _ rfl
  have g1 : DataW.trod enc Ybad.prog W 0 (fun _ => true) true n 5 (List.take (Ybad.prog.cellsOf 5) (List.drop 1 cs)) = xs[1]? := hf 1 _ rfl
  have g2 : DataW.trod enc Ybad.prog W 0 (fun _ => true) true n 5 (List.take (Ybad.prog.cellsOf 5) (List.drop 2 cs)) = xs[2]? := hf 2 _ rfl
  have g3 : DataW.trod enc Ybad.prog W 0 (fun _ => true) true n 5 (List.take (Ybad.prog.cellsOf 5) (List.drop 3 cs)) = xs[3]? := hf 3 _ rfl
  have g4 : DataW.trod enc Ybad.prog W 0 (fun _ => true) true n 5 (List.take (Ybad.prog.cellsOf 5) (List.drop 4 cs)) = xs[4]? := hf 4 _ rfl
  have g5 : DataW.trod enc Ybad.prog W 0 (fun _ => true) true n 4 (List.take (Ybad.prog.cellsOf 4) (List.drop 5 cs)) = xs[5]? := hf 5 _ rfl
  have g6 : DataW.trod enc Ybad.prog W 0 (fun _ => true) true n 5 (List.take (Ybad.prog.cellsOf 5) (List.drop 6 cs)) = xs[6]? := hf 6 _ rfl
  rw [c5] at g0 g1 g2 g3 g4 g6
  rw [c4] at g5
  have hxl' : xs.length = 7 := hxl
  match xs, hxl', cs, hl with
  | [y0, y1, y2, y3, y4, y5, y6], _, [a0, a1, a2, a3, a4, a5, a6], _ =>
    obtain ⟨m0, q0, _, w0⟩ := DataW.trod_int Ybad.underlying5 (show DataW.trod enc Ybad.prog W 0 (fun _ => true) true n 5 [a0] = some y0 from g0)
    obtain ⟨m1, q1, _, w1⟩ := DataW.trod_int Ybad.underlying5 (show DataW.trod enc Ybad.prog W 0 (fun _ => true) true n 5 [a1] = some y1 from g1)
    obtain ⟨m2, q2, _, w2⟩ := DataW.trod_int Ybad.underlying5 (show DataW.trod enc Ybad.prog W 0 (fun _ => true) true n 5 [a2] = some y2 from g2)
    obtain ⟨m3, q3, _, w3⟩ := DataW.trod_int Ybad.underlying5 (show DataW.trod enc Ybad.prog W 0 (fun _ => true) true n 5 [a3] = some y3 from g3)
    obtain ⟨m4, q4, _, w4⟩ := DataW.trod_int Ybad.underlying5 (show DataW.trod enc Ybad.prog W 0 (fun _ => true) true n 5 [a4] = some y4 from g4)
    obtain ⟨m5, q5, _⟩ := DataW.trod_bool Ybad.underlying4 (show DataW.trod enc Ybad.prog W 0 (fun _ => true) true n 4 [a5] = some y5 from g5)
    obtain ⟨m6, q6, _, w6⟩ := DataW.trod_int Ybad.underlying5 (show DataW.trod enc Ybad.prog W 0 (fun _ => true) true n 5 [a6] = some y6 from g6)
    simp only [List.cons.injEq, and_true] at q0 q1 q2 q3 q4 q5 q6
    subst q0 q1 q2 q3 q4 q5 q6
    exact ⟨⟨m0, m1, m2, m3, m4, m6, m5⟩, ⟨u8_bd w0, u8_bd w1, u8_bd w2, u8_bd w3, u8_bd w4, u8_bd w6⟩, rfl⟩

instance : Inhabited En := ⟨⟨0, 0, 0, 0, 0, 0, false⟩⟩

/-- The list that came in. -/
theorem open_list {H : Type} {enc : TypeId × Value → H} {W : World} {fuel : Nat} {x : DataW H × List MemPlace} {a0 : Option Addr} {len0 cap0 : Nat}
    (hf : DataW.trod enc Ybad.prog W 0 (fun _ => true) true fuel 22 [.slice a0 len0 cap0] = some x) : ∃ E, EL W a0 len0 E ∧ (∀ i, i < len0 → (E i).Ok) := by
  rcases Go.Deep.open_slice Ybad.underlying22 hf with ⟨hcs, _⟩ | ⟨a, len, cap, m, n, D, Pl, hcs, _, hl, hm, hmm, _, hx⟩
  · simp at hcs
    obtain ⟨rfl, rfl, rfl⟩ := hcs
    exact ⟨fun _ => ⟨0, 0, 0, 0, 0, 0, false⟩, .inl rfl, fun i hi => by omega⟩
  · simp at hcs
    obtain ⟨rfl, rfl, rfl⟩ := hcs
    have hmc : m = cap0 := by simpa using hmm
    subst hmc
    obtain ⟨E, hE⟩ := Go.Deep.choose_lt (α := En) (n := len0) (p := fun i e => e.Ok ∧ W.cells? 0 (a.add (i * 7)) 7 = some [.int .u8 e.a, .int .u8 e.b, .int .u8 e.c, .int .u8 e.d, .int .u8 e.n, .bool e.v6, .int .u8 e.k]) (fun i hi => by
      obtain ⟨cs', h1, h2⟩ := hx i (by omega)
      rw [c49] at h1
      obtain ⟨e, ok, rfl⟩ := open_entry h2
      exact ⟨e, ok, h1⟩)
    refine ⟨E, ?_, fun i hi => (hE i hi).1⟩
    by_cases hz : len0 = 0
    · exact .inl hz
    right
    obtain ⟨b, off, spot⟩ := a
    have hspot : spot = none := by
      obtain ⟨_, _, hc⟩ := World.cells?_some (hE 0 (by omega)).2
      have h0 := hc 0 (by omega)
      simpa [Addr.add] using World.cell?_spot h0
    subst hspot
    refine ⟨b, off, rfl, fun i hi => ?_⟩
    obtain ⟨_, hlen, hc⟩ := World.cells?_some (hE i hi).2
    have k0 := hc 0 (by omega)
    have k1 := hc 1 (by omega)
    have k2 := hc 2 (by omega)
    have k3 := hc 3 (by omega)
    have k4 := hc 4 (by omega)
    have k5 := hc 5 (by omega)
    have k6 := hc 6 (by omega)
    simp only [Addr.add_lit, Nat.add_zero] at k0 k1 k2 k3 k4 k5 k6
    exact ⟨k0, k1, k2, k3, k4, k5, k6⟩

set_option maxRecDepth 100000 in
theorem walk (a0 : Option Addr) (len0 cap0 : Nat) (E : Nat → En) (hE : ∀ i, i < len0 → (E i).Ok) (x0 x1 x2 x3 : Int) (hx0 : 0 ≤ x0 ∧ x0 ≤ 255) (hx1 : 0 ≤ x1 ∧ x1 ≤ 255) (hx2 : 0 ≤ x2 ∧ x2 ≤ 255) (hx3 : 0 ≤ x3 ∧ x3 ≤ 255) (m : Bool) (p4 p6 : Addr) (w : World) (Z : ZZ w p4 p6) (L : EL w a0 len0 E) :
    Calls Ybad.prog 3 #[.slice a0 len0 cap0, .int .u8 x0, .int .u8 x1, .int .u8 x2, .int .u8 x3, .bool m] w fun e w' => e = .returned (.bool true) ∧ Below w.heap.size w w' := by
  by_cases hbig : 1024 < len0
  · have hbig' : (1024 : Int) < (len0 : Int) := by omega
    clear hE L Z
    go_enter Ybad.func3, Ybad.ntmps3
    go_wp2
    go_ret
    exact ⟨rfl, Below.refl _ _⟩
  · exact law_any a0 len0 cap0 (by omega) E hE x0 x1 x2 x3 hx0 hx1 hx2 hx3 m p4 p6 w Z L

set_option maxRecDepth 100000 in
theorem lifted (os : Os) (started : os.Started) (H : Type) (enc : TypeId × Value → H) :
    ReturnsInHanded {} Ybad.checked os 3 .any (fun w args => (Rows.lawS0972CFirstMatchSpec.pre enc Ybad.prog Ybad.f3 [] false w args ∧ laidMetH Ybad.prog laid3 w) ∧ sizedMet enc Ybad.prog Ybad.f3 (OpenSpec.ofChange Rows.lawS0972CFirstMatchSpec) false w args)
      (Rows.lawS0972CFirstMatchSpec.post enc Ybad.prog Ybad.f3 false true false false) := by
  refine returnsInHanded_of_change_and (C := Ybad.checked) (X := fun w _ => laidMetH Ybad.prog laid3 w) (fun _ _ _ hh h => h.of_heap hh) own started (by kernel_rfl) Ybad.func3
    (ChangeSpec.witness_shaped (enc := enc) (C := Ybad.checked) (os := os) (X := fun w _ => laidMetH Ybad.prog laid3 w) false (World.laidAll Ybad.prog os laid3) #[.slice none 0 0, .int .u8 0, .int .u8 0, .int .u8 0, .int .u8 0, .bool false] 8 (World.laidAll_os _ _ _)
      (World.shaped_of_ZipB (by kernel_rfl) (by kernel_rfl)) (by kernel_rfl) (by kernel_rfl) (by kernel_rfl)
      (by rw [MakeChecks.laidMetH_plain _ _ _ (by kernel_rfl)]; exact laidMet_laidAll _ (by kernel_rfl) (by kernel_rfl))) ?_
  intro W base args ds gs before hval0 hW _ _ hL _
  have hval : ∀ (j : Nat) t v, Ybad.f3.params[j]? = some t → args[j]? = some v → Value.okWide Ybad.prog W .any base t v := hval0
  have hW' := hW
  obtain ⟨p, q, hA0, hV, rfl, hfz, hnd⟩ := hW
  have hA : DataW.TrodAll enc Ybad.prog W 0 (fun _ => true) true Ybad.f3.params.toList args.toList ds p := hA0
  rw [Ybad.params3] at hA hval
  obtain ⟨v0, vs0, d0, ds0, p0, q0, hargs, rfl, rfl, h0, r0⟩ := trodAll_cons hA
  obtain ⟨v1, vs1, d1, ds1, p1, q1, rfl, rfl, rfl, h1, r1⟩ := trodAll_cons r0
  obtain ⟨v2, vs2, d2, ds2, p2, q2, rfl, rfl, rfl, h2, r2⟩ := trodAll_cons r1
  obtain ⟨v3, vs3, d3, ds3, p3, q3, rfl, rfl, rfl, h3, r3⟩ := trodAll_cons r2
  obtain ⟨v4, vs4, d4, ds4, p4', q4, rfl, rfl, rfl, h4, r4⟩ := trodAll_cons r3
  obtain ⟨v5, vs5, d5, ds5, p5, q5, rfl, rfl, rfl, h5, r5⟩ := trodAll_cons r4
  obtain ⟨rfl, rfl, rfl⟩ := trodAll_nil r5
  obtain rfl : args = #[v0, v1, v2, v3, v4, v5] := by cases args; simp_all
  obtain ⟨rfl, rfl⟩ := trodVars_none hV
  obtain ⟨a0, len0, cap0, rfl⟩ := okWide_slice Ybad.underlying22 (hval 0 22 v0 rfl rfl)
  have k0 := h0
  have lt0 : ∀ x ∈ p0, x.block < W.heap.size := by obtain ⟨m, hm⟩ := k0; exact DataW.trod_lt m _ _ _ hm
  obtain ⟨E, w0, hE⟩ : ∃ E, EL W a0 len0 E ∧ (∀ i, i < len0 → (E i).Ok) := by
    obtain ⟨fuel, hf⟩ := h0
    exact open_list (by simpa [Value.cells] using hf)
  obtain ⟨a1, rfl, rfl, rfl, w1⟩ := open_int Ybad.underlying5 (hval 1 5 v1 rfl rfl) h1
  obtain ⟨a2, rfl, rfl, rfl, w2⟩ := open_int Ybad.underlying5 (hval 2 5 v2 rfl rfl) h2
  obtain ⟨a3, rfl, rfl, rfl, w3⟩ := open_int Ybad.underlying5 (hval 3 5 v3 rfl rfl) h3
  obtain ⟨a4, rfl, rfl, rfl, w4⟩ := open_int Ybad.underlying5 (hval 4 5 v4 rfl rfl) h4
  obtain ⟨a5, rfl, rfl, rfl⟩ := open_bool Ybad.underlying4 (hval 5 4 v5 rfl rfl) h5
  obtain ⟨p4, p6, ZW⟩ := of_laid hL
  clear hA0 hval0
  refine (walk a0 len0 cap0 E hE a1 a2 a3 a4 (u8_bd w1) (u8_bd w2) (u8_bd w3) (u8_bd w4) a5 p4 p6 W ZW w0).mono fun e W' ⟨he, bel⟩ => ?_
  subst he
  exact ⟨_, rfl, _, _, _, [], _, [], hW', trodAll_mk1 (shut_bool Ybad.underlying4 _), (trodAll_cons_mk (Below.trod laidOut (by kernel_rfl) (of_decide_eq_true (by kernel_rfl)) k0 bel lt0) (trodAll_cons_mk (shut_int Ybad.underlying5 w1) (trodAll_cons_mk (shut_int Ybad.underlying5 w2) (trodAll_cons_mk (shut_int Ybad.underlying5 w3) (trodAll_cons_mk (shut_int Ybad.underlying5 w4) (trodAll_cons_mk (shut_bool Ybad.underlying4 _) trodAll_mk0)))))), rfl, bel.frame _, fun h => by cases h⟩

theorem row_holds : Rows.LawS0972CFirstMatchSaid :=
  OpenClaim.holds_of_wide 3 Ybad.f3 rfl rfl rfl rfl rfl rfl rfl ⟨rfl, rfl, rfl, rfl, rfl⟩ rfl rfl rfl rfl rfl (by kernel_rfl) Ybad.func3 (by kernel_rfl)
    (of_decide_eq_true (by kernel_rfl)) (by unfold Func.isWrapper; first | (rw [if_pos (by decide +kernel)]; kernel_rfl) | (rw [if_neg (by decide +kernel)]; exact ⟨rfl, rfl⟩))
    (fun os started H enc _ => lifted os started H enc)

/-- ████ THE STATEMENT ████ -/
theorem proved : Rows.LawS0972CFirstMatchCardSaid :=
  Claim7.holds_tied_plain_at .later [] [.called, .called, .zero] true (true, "3df3d5b9f1bee58d111d2cdf2260d0c9a4b1cabd69e374bdeb7a8a03eed40faf") false
    row_holds (fun _ h => by cases h) (by kernel_rfl) (fun _ h => by cases h) lawS0972CFirstMatch_row_tie rfl ⟨rfl, rfl⟩ (by kernel_rfl) rfl
    (fun f fn hf hfn => by
      obtain rfl : f = 3 := Option.some.inj ((show Ybad.prog.funcNamed "example.com/portcullis-gate/portcullis-gate/protect.LawS0972CFirstMatch" = some 3 by kernel_rfl).symm.trans hf) |>.symm
      obtain rfl : fn = Ybad.f3 := (Option.some.inj (Ybad.func3.symm.trans hfn)).symm
      exact ⟨by kernel_rfl, fun j t ht => by
        rw [Ybad.params3] at ht
        have hm : t ∈ [22, 5, 5, 5, 5, 4] := by simpa using Array.mem_of_getElem? ht
        have hall : ([22, 5, 5, 5, 5, 4].all fun u => !Ybad.prog.wantsStandIn u) = true := by kernel_rfl
        exact (show Ybad.prog.wantsStandIn t = false by simpa using List.all_eq_true.1 hall t hm)⟩)
    (by kernel_rfl)

end Go.Proofs.YbulktckDoor.Net
