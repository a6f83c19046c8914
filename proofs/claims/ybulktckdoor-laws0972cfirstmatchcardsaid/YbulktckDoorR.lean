import Derived.Test.YbulktckDoorH
namespace Go.Proofs.YbulktckDoor.Net
open Go.RowKit

/-- The law's input list in memory. -/
def EL (w : World) (a : Option Addr) (N : Nat) (E : Nat → En) : Prop := N = 0 ∨ ∃ b off, a = some ⟨b, off, none⟩ ∧ ∀ i, i < N →
  w.cell? ⟨b, off + i * 7, none⟩ = some (.int .u8 (E i).a) ∧ w.cell? ⟨b, off + i * 7 + 1, none⟩ = some (.int .u8 (E i).b) ∧ w.cell? ⟨b, off + i * 7 + 2, none⟩ = some (.int .u8 (E i).c) ∧ w.cell? ⟨b, off + i * 7 + 3, none⟩ = some (.int .u8 (E i).d) ∧
  w.cell? ⟨b, off + i * 7 + 4, none⟩ = some (.int .u8 (E i).n) ∧ w.cell? ⟨b, off + i * 7 + 5, none⟩ = some (.bool (E i).v6) ∧ w.cell? ⟨b, off + i * 7 + 6, none⟩ = some (.int .u8 (E i).k)

theorem lt_of_cell {w : World} {b o : Nat} {v : Value} (h : w.cell? ⟨b, o, none⟩ = some v) : b < w.heap.size := by
  simp only [World.cell?] at h
  split at h
  · rename_i hb
    obtain ⟨hlt, _⟩ := Array.getElem?_eq_some_iff.1 hb
    exact hlt
  · cases h

theorem EL.later {w w' : World} {a : Option Addr} {N : Nat} {E : Nat → En} (h : EL w a N E) (hb : Below w.heap.size w w') : EL w' a N E := by
  rcases h with h | ⟨b, off, ha, hc⟩
  · exact .inl h
  · refine .inr ⟨b, off, ha, fun i hi => ?_⟩
    obtain ⟨h0, h1, h2, h3, h4, h5, h6⟩ := hc i hi
    have hl := lt_of_cell h0
    refine ⟨?_, ?_, ?_, ?_, ?_, ?_, ?_⟩
    · rw [hb.cell (p := ⟨b, off + i * 7, none⟩) hl]; exact h0
    · rw [hb.cell (p := ⟨b, off + i * 7 + 1, none⟩) hl]; exact h1
    · rw [hb.cell (p := ⟨b, off + i * 7 + 2, none⟩) hl]; exact h2
    · rw [hb.cell (p := ⟨b, off + i * 7 + 3, none⟩) hl]; exact h3
    · rw [hb.cell (p := ⟨b, off + i * 7 + 4, none⟩) hl]; exact h4
    · rw [hb.cell (p := ⟨b, off + i * 7 + 5, none⟩) hl]; exact h5
    · rw [hb.cell (p := ⟨b, off + i * 7 + 6, none⟩) hl]; exact h6

theorem info43 : (Ybad.prog.info? 43).map (fun i => (i.zero, i.size, i.bytes)) = some (some ent0, 5, 48) := by kernel_rfl

/-- The cells that 'make' lays. -/
def mk5 (N : Nat) : Array Value := madeCells #[.int .u64 0, .int .u64 0, .pointer none, .int .u8 0, .string ⟨#[]⟩] (N * 5)

theorem make_list (N : Nat) (hN : N ≤ 1024) (w : World) :
    (Instr.makeSlice 24 (.int .i64 0) (.int .i64 (N : Int))).run Ybad.prog w = .ok (.slice (some ⟨w.heap.size, 0, none⟩) 0 N) (w.alloc (.cells (mk5 N) 43)) := by
  obtain ⟨i, hi, hzz⟩ := Option.map_eq_some_iff.1 info43
  simp only [Prod.mk.injEq] at hzz
  obtain ⟨hz, hs, hb⟩ := hzz
  have hr := run_make (P := Ybad.prog) w 24 43 i ent0 Ybad.underlying24 hi hz .i64 .i64 0 N (by omega) (by omega) (by rw [hb]; omega) (by omega)
  rw [hs] at hr
  exact hr

theorem BL.start (w : World) (N : Nat) (E : Nat → En) (p4 p6 : Addr) : BL (w.alloc (.cells (mk5 N) 43)) w.heap.size N 0 E p4 p6 := by
  have R := World.rowIs_alloc w (mk5 N) 43 (fun i => ((mk5 N)[i]?).getD .nilIface) (fun i hi => by rw [Array.getElem?_eq_getElem hi]; rfl)
  have hs : (mk5 N).size = N * 5 := size_madeCells _ _
  rw [hs] at R
  exact ⟨_, R, fun i hi => by omega⟩

theorem from4_e (e : En) (h : e.Ok) (p4 p6 : Addr) (w : World) (Z : ZZ w p4 p6) :
    Calls Ybad.prog 5 #[.agg #[.int .u8 e.a, .int .u8 e.b, .int .u8 e.c, .int .u8 e.d]] w fun r w' => r = .returned (addr 0 (lo4 e.w) p4) ∧ Below w.heap.size w w' :=
  from4_any e.a e.b e.c e.d h.ha h.hb h.hc h.hd p4 p6 w Z
theorem prefix_f (e : En) (h : e.Ok) (hv : e.v6 = false) (p4 p6 : Addr) (w : World) (Z : ZZ w p4 p6) :
    Calls Ybad.prog 10 #[addr 0 (lo4 e.w) p4, .int .i64 e.pl] w fun r w' => r = .returned (pfx 0 (lo4 e.w) (e.z p4 p6) e.bl) ∧ Below w.heap.size w w' := by
  have e1 : e.z p4 p6 = p4 := by simp [En.z, hv]
  have e2 : e.bl = e.pl + 1 := by simp [En.bl, hv]
  rw [e1, e2]
  exact prefix4 0 (lo4 e.w) e.pl h.pl_bd.1 h.pl_bd.2 p4 p6 w Z
theorem prefix_t (e : En) (h : e.Ok) (hv : e.v6 = true) (p4 p6 : Addr) (w : World) (Z : ZZ w p4 p6) :
    Calls Ybad.prog 10 #[addr 0 (lo4 e.w) p6, .int .i64 (96 + e.pl)] w fun r w' => r = .returned (pfx 0 (lo4 e.w) (e.z p4 p6) e.bl) ∧ Below w.heap.size w w' := by
  have e1 : e.z p4 p6 = p6 := by simp [En.z, hv]
  have e2 : e.bl = 96 + e.pl + 1 := by simp [En.bl, hv]
  have := h.pl_bd
  rw [e1, e2]
  exact prefix6 0 (lo4 e.w) (96 + e.pl) (by omega) (by omega) p4 p6 w Z
theorem En.Ok.lo_bd {e : En} (h : e.Ok) : 0 ≤ lo4 e.w ∧ lo4 e.w < 18446744073709551616 := by
  have := h.w_bd
  unfold lo4
  omega
theorem En.Ok.rem {e : En} (h : e.Ok) : (wrap64 e.n).tmod 33 = e.pl := by
  have := h.hn
  rw [show wrap64 e.n = e.n by unfold wrap64; omega, Int.tmod_eq_emod_of_nonneg h.hn.1]
  rfl
theorem En.Ok.add {e : En} (h : e.Ok) : wrap64 (96 + e.pl) = 96 + e.pl := by
  have := h.pl_bd
  unfold wrap64
  omega

/-- The building loop at the head of a round. -/
structure BI (w X : World) (p4 p6 : Addr) (N : Nat) (E : Nat → En) (a : Option Addr) (i : Nat) : Prop where
  z : ZZ X p4 p6
  bel : Below w.heap.size w X
  l : BL X w.heap.size N i E p4 p6
  e : EL X a N E

theorem rows3 {X U : World} {c0 c1 c2 : Array Value} (hb : Below (((X.alloc (.cells c0 49)).alloc (.cells c1 35)).alloc (.cells c2 40)).heap.size (((X.alloc (.cells c0 49)).alloc (.cells c1 35)).alloc (.cells c2 40)) U) :
    U.rowIs X.heap.size 49 c0.size (fun i => (c0[i]?).getD .nilIface) ∧ U.rowIs (X.heap.size + 1 + 1) 40 c2.size (fun i => (c2[i]?).getD .nilIface) ∧ Below X.heap.size X U ∧ X.heap.size + 1 + 1 < U.heap.size := by
  have R0 := ((World.rowIs_alloc X c0 49 (fun i => (c0[i]?).getD .nilIface) (fun i hi => by rw [Array.getElem?_eq_getElem hi]; rfl)).alloc (.cells c1 35)).alloc (.cells c2 40)
  have R2 := World.rowIs_alloc ((X.alloc (.cells c0 49)).alloc (.cells c1 35)) c2 40 (fun i => (c2[i]?).getD .nilIface) (fun i hi => by rw [Array.getElem?_eq_getElem hi]; rfl)
  rw [World.size_alloc, World.size_alloc] at R2
  have hs := hb.size
  simp only [World.size_alloc] at hs
  refine ⟨R0.of_block (hb.block _ R0.lt), R2.of_block (hb.block _ R2.lt), ?_, by omega⟩
  exact (((bel2 X _ _).alloc (by simp only [World.size_alloc]; omega) _)).trans (hb.mono (by simp only [World.size_alloc]; omega))

/-- The memory ahead of a round's append. -/
structure AI (w X V : World) (p4 p6 : Addr) (N : Nat) (E : Nat → En) (a : Option Addr) (i : Nat) : Prop where
  z : ZZ V p4 p6
  bel : Below w.heap.size w V
  l : BL V w.heap.size N i E p4 p6
  x0 : V.cell? ⟨X.heap.size + 1 + 1, 0, none⟩ = some (.int .u64 0)
  x1 : V.cell? ⟨X.heap.size + 1 + 1, 1, none⟩ = some (.int .u64 (lo4 (E i).w))
  x2 : V.cell? ⟨X.heap.size + 1 + 1, 2, none⟩ = some (.pointer (some ((E i).z p4 p6)))
  x3 : V.cell? ⟨X.heap.size + 1 + 1, 3, none⟩ = some (.int .u8 (E i).bl)
  y6 : V.cell? ⟨X.heap.size, 6, none⟩ = some (.int .u8 (E i).k)
  sz : X.heap.size + 1 + 1 < V.heap.size

theorem AI.of {w X U : World} {p4 p6 : Addr} {N : Nat} {E : Nat → En} {a : Option Addr} {i : Nat} (I : BI w X p4 p6 N E a i) {f0 f2 : Nat → Value} (r0 : U.rowIs X.heap.size 49 7 f0) (r2 : U.rowIs (X.heap.size + 1 + 1) 40 4 f2) (hb : Below X.heap.size X U) (h6 : f0 6 = .int .u8 (E i).k) :
    AI w X ((((U.setCell ⟨X.heap.size + 1 + 1, 0, none⟩ (.int .u64 0)).setCell ⟨X.heap.size + 1 + 1, 1, none⟩ (.int .u64 (lo4 (E i).w))).setCell ⟨X.heap.size + 1 + 1, 2, none⟩ (.pointer (some ((E i).z p4 p6)))).setCell ⟨X.heap.size + 1 + 1, 3, none⟩ (.int .u8 (E i).bl)) p4 p6 N E a i := by
  have b4 := ((((hb.setCell (p := ⟨X.heap.size + 1 + 1, 0, none⟩) (by show X.heap.size ≤ X.heap.size + 1 + 1; omega) (.int .u64 0)).setCell (p := ⟨X.heap.size + 1 + 1, 1, none⟩) (by show X.heap.size ≤ X.heap.size + 1 + 1; omega) (.int .u64 (lo4 (E i).w))).setCell (p := ⟨X.heap.size + 1 + 1, 2, none⟩) (by show X.heap.size ≤ X.heap.size + 1 + 1; omega) (.pointer (some ((E i).z p4 p6)))).setCell (p := ⟨X.heap.size + 1 + 1, 3, none⟩) (by show X.heap.size ≤ X.heap.size + 1 + 1; omega) (.int .u8 (E i).bl))
  have q2 := (((r2.set 0 (.int .u64 0)).set 1 (.int .u64 (lo4 (E i).w))).set 2 (.pointer (some ((E i).z p4 p6)))).set 3 (.int .u8 (E i).bl)
  have ne : X.heap.size ≠ X.heap.size + 1 + 1 := by omega
  have q0 := (((r0.setOther (a := ⟨X.heap.size + 1 + 1, 0, none⟩) ne (.int .u64 0)).setOther (a := ⟨X.heap.size + 1 + 1, 1, none⟩) ne (.int .u64 (lo4 (E i).w))).setOther (a := ⟨X.heap.size + 1 + 1, 2, none⟩) ne (.pointer (some ((E i).z p4 p6)))).setOther (a := ⟨X.heap.size + 1 + 1, 3, none⟩) ne (.int .u8 (E i).bl)
  refine ⟨I.z.later b4 (Nat.le_refl _), I.bel.trans (b4.mono I.bel.size), I.l.later (b4.block _ I.l.lt), ?_, ?_, ?_, ?_, ?_, q2.lt⟩
  · rw [q2.cell (by omega)]; rfl
  · rw [q2.cell (by omega)]; rfl
  · rw [q2.cell (by omega)]; rfl
  · rw [q2.cell (by omega)]; rfl
  · rw [q0.cell (by omega), h6]

theorem BI.drew {w X : World} {p4 p6 : Addr} {N : Nat} {E : Nat → En} {a : Option Addr} {i : Nat} (h : BI w X p4 p6 N E a i) : BI w X.drew p4 p6 N E a i := by
  obtain ⟨z, bel, ⟨f, hr, hf⟩, e⟩ := h
  exact ⟨⟨z.g0, z.g1, z.g2, z.ne, z.b4, z.b6, z.sz⟩, bel.drew, ⟨f, hr, hf⟩, e⟩

/-- One entry is appended; there is room. -/
theorem append_list {w X V : World} {p4 p6 : Addr} {N : Nat} {E : Nat → En} {a : Option Addr} {j : Nat} (Zw : ZZ w p4 p6) (Lw : EL w a N E) (A : AI w X V p4 p6 N E a j) :
    BI w ((((((V.setCell ⟨w.heap.size, j * 5, none⟩ (.int .u64 0)).setCell ⟨w.heap.size, j * 5 + 1, none⟩ (.int .u64 (lo4 (E j).w))).setCell ⟨w.heap.size, j * 5 + 2, none⟩ (.pointer (some ((E j).z p4 p6)))).setCell ⟨w.heap.size, j * 5 + 3, none⟩ (.int .u8 (E j).bl)).setCell ⟨w.heap.size, j * 5 + 4, none⟩ (.string (rs (E j).k))).alloc (.cells #[.int .u64 0, .int .u64 (lo4 (E j).w), .pointer (some ((E j).z p4 p6)), .int .u8 (E j).bl, .string (rs (E j).k)] 43)).drew p4 p6 N E a (j + 1) := by
  have bQ := A.bel
  obtain ⟨f, hr, hf⟩ := A.l
  have b4 := ((((bQ.setCell (p := ⟨w.heap.size, j * 5, none⟩) (Nat.le_refl _) (.int .u64 0)).setCell (p := ⟨w.heap.size, j * 5 + 1, none⟩) (Nat.le_refl _) (.int .u64 (lo4 (E j).w))).setCell (p := ⟨w.heap.size, j * 5 + 2, none⟩) (Nat.le_refl _) (.pointer (some ((E j).z p4 p6)))).setCell (p := ⟨w.heap.size, j * 5 + 3, none⟩) (Nat.le_refl _) (.int .u8 (E j).bl)).setCell (p := ⟨w.heap.size, j * 5 + 4, none⟩) (Nat.le_refl _) (.string (rs (E j).k))
  have b5 := b4.alloc b4.size (.cells #[.int .u64 0, .int .u64 (lo4 (E j).w), .pointer (some ((E j).z p4 p6)), .int .u8 (E j).bl, .string (rs (E j).k)] 43)
  have r4 := ((((hr.set (j * 5) (.int .u64 0)).set (j * 5 + 1) (.int .u64 (lo4 (E j).w))).set (j * 5 + 2) (.pointer (some ((E j).z p4 p6)))).set (j * 5 + 3) (.int .u8 (E j).bl)).set (j * 5 + 4) (.string (rs (E j).k))
  have r5 := r4.alloc (.cells #[.int .u64 0, .int .u64 (lo4 (E j).w), .pointer (some ((E j).z p4 p6)), .int .u8 (E j).bl, .string (rs (E j).k)] 43)
  refine BI.drew ⟨Zw.later b5 (Nat.le_refl _), b5, ⟨_, r5, ?_⟩, Lw.later b5⟩
  clear b5 r5 b4 r4 hr bQ
  intro q hq t ht
  show (if q * 5 + t = j * 5 + 4 then _ else if q * 5 + t = j * 5 + 3 then _ else if q * 5 + t = j * 5 + 2 then _ else if q * 5 + t = j * 5 + 1 then _ else if q * 5 + t = j * 5 then _ else _) = _
  by_cases e : q = j
  · subst e
    match t, ht with
    | 0, _ => rw [if_neg (by omega), if_neg (by omega), if_neg (by omega), if_neg (by omega), if_pos (by omega)]; rfl
    | 1, _ => rw [if_neg (by omega), if_neg (by omega), if_neg (by omega), if_pos (by omega)]; rfl
    | 2, _ => rw [if_neg (by omega), if_neg (by omega), if_pos (by omega)]; rfl
    | 3, _ => rw [if_neg (by omega), if_pos (by omega)]; rfl
    | 4, _ => rw [if_pos (by omega)]; rfl
  · have e1 : q * 5 + t < j * 5 := by omega
    rw [if_neg (by omega), if_neg (by omega), if_neg (by omega), if_neg (by omega), if_neg (by omega)]
    exact hf q (by omega) t ht

theorem AI.room {w X V : World} {p4 p6 : Addr} {N : Nat} {E : Nat → En} {a : Option Addr} {j : Nat} (A : AI w X V p4 p6 N E a j) (hj : j < N) :
    ∃ u0 u1 u2 u3 u4, V.cell? ⟨w.heap.size, j * 5, none⟩ = some u0 ∧ V.cell? ⟨w.heap.size, j * 5 + 1, none⟩ = some u1 ∧ V.cell? ⟨w.heap.size, j * 5 + 2, none⟩ = some u2 ∧ V.cell? ⟨w.heap.size, j * 5 + 3, none⟩ = some u3 ∧ V.cell? ⟨w.heap.size, j * 5 + 4, none⟩ = some u4 ∧ ∀ i, V.frozen? ⟨w.heap.size, i, none⟩ = false := by
  obtain ⟨f, hr, hf⟩ := A.l
  exact ⟨_, _, _, _, _, hr.cell (by omega), hr.cell (by omega), hr.cell (by omega), hr.cell (by omega), hr.cell (by omega), hr.frozen⟩

set_option maxRecDepth 100000 in
set_option maxHeartbeats 1000000 in
theorem build_any (a : Option Addr) (N cap : Nat) (hN : N ≤ 1024) (E : Nat → En) (hE : ∀ i, i < N → (E i).Ok) (p4 p6 : Addr) (w : World) (Z : ZZ w p4 p6) (L : EL w a N E) :
    Calls Ybad.prog 4 #[.slice a N cap] w fun e w' => e = .returned (.slice (some ⟨w.heap.size, 0, none⟩) N N) ∧ Below w.heap.size w w' ∧ BL w' w.heap.size N N E p4 p6 := by
  have HE : Hid (∀ i, i < N → (E i).Ok) := hE
  have hmk := make_list N hN
  have B0 : BI w (w.alloc (.cells (mk5 N) 43)) p4 p6 N E a 0 := ⟨Z.alloc _, (Below.refl _ _).alloc (Nat.le_refl _) _, BL.start w N E p4 p6, L.later ((Below.refl _ _).alloc (Nat.le_refl _) _)⟩
  clear hE
  go_enter Ybad.func4, Ybad.ntmps4
  go_wp2
  clear hmk
  go_loopw [3, 14] (fun s i wr => ∃ j : Nat, j ≤ N ∧ i = .int .i64 j ∧ s = .slice (some ⟨w.heap.size, 0, none⟩) j N ∧ BI w wr p4 p6 N E a j) (fun _ i _ => N - (intOf i).toNat)
  case atStart => exact ⟨0, Nat.zero_le _, rfl, rfl, B0⟩
  case round =>
    have ZL : Hid (ZZ w p4 p6 ∧ EL w a N E) := ⟨Z, L⟩
    clear B0 Z L
    obtain ⟨j, hj, rfl, rfl, I⟩ := hrel
    by_cases hlt : j < N
    · have hltI : (j : Int) < (N : Int) := by omega
      obtain h0 | ⟨b, off, rfl, hc⟩ := I.e
      · omega
      obtain ⟨c0, c1, c2, c3, c4, c5, c6⟩ := hc j hlt
      clear hc
      have hs := I.bel.size
      have hl := I.l.lt
      have hb := lt_of_cell c0
      have ok := HE.out j hlt
      have hrem := ok.rem
      have hadd := ok.add
      have OK : Hid ((E j).Ok) := ok
      clear ok
      cases hv : (E j).v6
      case' false =>
        go_wp2_with fail
        refine (from4_e (E j) OK.out p4 p6 _ (((I.z.alloc _).alloc _).alloc _)).mono ?_
        rintro e Y ⟨rfl, hbY⟩
        obtain ⟨hc, hf⟩ := bcell hbY
        have ZY := (((I.z.alloc _).alloc _).alloc _).later hbY (Nat.le_refl _)
        go_wp2_with fail
        refine (prefix_f (E j) OK.out hv p4 p6 _ ZY).mono ?_
        rintro e U ⟨rfl, hbU⟩
      case' true =>
        go_wp2_with fail
        refine (from4_e (E j) OK.out p4 p6 _ (((I.z.alloc _).alloc _).alloc _)).mono ?_
        rintro e Y1 ⟨rfl, hbY1⟩
        have ZY1 := (((I.z.alloc _).alloc _).alloc _).later hbY1 (Nat.le_refl _)
        go_wp2_with fail
        refine (as16_any (lo4 (E j).w) p4 OK.out.lo_bd.1 OK.out.lo_bd.2 _).mono ?_
        rintro e Y2 ⟨rfl, hbY2⟩
        have ZY2 := ZY1.later hbY2 (Nat.le_refl _)
        go_wp2_with fail
        refine (from16_any (lo4 (E j).w) OK.out.lo_bd.1 OK.out.lo_bd.2 p4 p6 _ ZY2).mono ?_
        rintro e Y ⟨rfl, hbY3⟩
        have ZY := ZY2.later hbY3 (Nat.le_refl _)
        have hbY := (hbY1.trans (hbY2.mono hbY1.size)).trans (hbY3.mono (Nat.le_trans hbY1.size hbY2.size))
        clear hbY1 hbY2 hbY3 ZY1 ZY2
        go_wp2_with fail
        refine (prefix_t (E j) OK.out hv p4 p6 _ ZY).mono ?_
        rintro e U ⟨rfl, hbU⟩
      all_goals
        have ZU := ZY.later hbU (Nat.le_refl _)
        obtain ⟨R0, R2, hbU', hsU⟩ := rows3 (hbY.trans (hbU.mono hbY.size))
        have A := AI.of I R0 R2 hbU' rfl
        have t0 : U.cell? ⟨wr.heap.size + 1 + 1, 0, none⟩ = some (.int .u64 0) := R2.cell (i := 0) (by show 0 < 4; omega)
        have t1 : U.cell? ⟨wr.heap.size + 1 + 1, 1, none⟩ = some (.int .u64 0) := R2.cell (i := 1) (by show 1 < 4; omega)
        have t2 : U.cell? ⟨wr.heap.size + 1 + 1, 2, none⟩ = some (.pointer none) := R2.cell (i := 2) (by show 2 < 4; omega)
        have t3 : U.cell? ⟨wr.heap.size + 1 + 1, 3, none⟩ = some (.int .u8 0) := R2.cell (i := 3) (by show 3 < 4; omega)
        have tf := R2.frozen
        clear R0 R2 hbU' hbU hbY ZY ZU I
        go_wp2
        clear t0 t1 t2 t3 tf hsU
        generalize ((((U.setCell ⟨wr.heap.size + 1 + 1, 0, none⟩ (.int .u64 0)).setCell ⟨wr.heap.size + 1 + 1, 1, none⟩ (.int .u64 (lo4 (E j).w))).setCell ⟨wr.heap.size + 1 + 1, 2, none⟩ (.pointer (some ((E j).z p4 p6)))).setCell ⟨wr.heap.size + 1 + 1, 3, none⟩ (.int .u8 (E j).bl)) = V at A ⊢
        have I' := append_list ZL.out.1 ZL.out.2 A
        obtain ⟨r0, r1, r2, r3, r4, s0, s1, s2, s3, s4, sf⟩ := A.room hlt
        have hroom : j + 1 ≤ N := hlt
        have hsS := A.l.lt
        have x0 := A.x0
        have x1 := A.x1
        have x2 := A.x2
        have x3 := A.x3
        have y6 := A.y6
        have hsV := A.sz
        clear A c0 c1 c2 c3 c4 c5 c6
        go_region_with (go_at_call 11; refine (reason_any (E j).k OK.out.hk.1 OK.out.hk.2 _).mono ?_; rintro e V2 ⟨rfl, rfl⟩)
        all_goals
          clear x0 x1 x2 x3 y6 s0 s1 s2 s3 s4 sf
          go_wp2
          go_roundw
          case rel => exact ⟨j + 1, by omega, by go_num, rfl, I'⟩
          case measure => simp [intOf]; omega
    · obtain rfl : j = N := by omega
      have bY := I.bel
      have lY := I.l
      clear I
      go_wp2
      go_ret
      exact ⟨rfl, bY, lY⟩

end Go.Proofs.YbulktckDoor.Net
