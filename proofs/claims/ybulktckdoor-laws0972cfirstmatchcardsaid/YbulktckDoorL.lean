import Derived.Test.YbulktckDoorQ
import Derived.Test.YbulktckDoorR
namespace Go.Proofs.YbulktckDoor.Net
open Go.RowKit

theorem shift32 (v p k : Int) (v0 : 0 ≤ v) (v1 : v < 4294967296) (p0 : 0 ≤ p) (p1 : p < 4294967296) (k0 : 0 ≤ k) (k1 : k ≤ 32) (W : World) :
    (Op.shift .shr .u32 (bits .xor .u32 v p) .u64 (32 - k)).run Ybad.prog W = .ok (.int .u32 (xs v p k)) W := by
  rw [u32_xor _ _ (by omega) (by omega) (by omega) (by omega)]
  unfold Op.shift
  rw [if_neg (by omega)]
  show Result.ok (Value.int .u32 (Int.fdiv _ (2 ^ min (32 - k).toNat 32))) W = _
  rw [show min (32 - k).toNat 32 = (32 - k).toNat by omega, fdiv_nat]
  rfl

theorem word_e (e : En) (h : e.Ok) (w : World) : Calls Ybad.prog 9 #[.int .u8 e.a, .int .u8 e.b, .int .u8 e.c, .int .u8 e.d] w fun r w' => r = .returned (.int .u32 e.w) ∧ w = w' :=
  word_any e.a e.b e.c e.d h.ha h.hb h.hc h.hd w
theorem En.Ok.rem64 {e : En} (h : e.Ok) : (IntKind.u64.wrap e.n).tmod 33 = e.pl := by
  have := h.hn
  rw [show IntKind.u64.wrap e.n = e.n by rw [IntKind.wrap_u64]; omega, Int.tmod_eq_emod_of_nonneg h.hn.1]
  rfl
theorem En.Ok.sub64 {e : En} (h : e.Ok) : IntKind.u64.wrap (32 - e.pl) = 32 - e.pl := by
  have := h.pl_bd
  rw [IntKind.wrap_u64]
  omega
theorem En.hit_zero {e : En} (h : e.Ok) (hv : e.v6 = false) (hp : e.pl = 0) (v : Int) (v0 : 0 ≤ v) (v1 : v < 4294967296) : e.hit v = true := by
  simp [En.hit, hv, hp, xs_zero v e.w v0 v1 h.w_bd.1 h.w_bd.2]

theorem ptr_none (d : Nat) (w : World) : (Op.equalIn (d + 1) 29 (.pointer none) (.pointer none)).run Ybad.prog w = .ok true w := by
  simp [Op.equalIn, run_underlying Ybad.underlying29]

/-- The law's own memory at the head of a round. -/
structure LI (w X : World) (p4 p6 : Addr) (N : Nat) (E : Nat → En) (a : Option Addr) (G : Nat) (g : Nat → Value) : Prop where
  bel : Below w.heap.size w X
  l : BL X w.heap.size N N E p4 p6
  e : EL X a N E
  r : X.rowIs G 43 5 g

theorem LI.next {w X : World} {p4 p6 : Addr} {N : Nat} {E : Nat → En} {a : Option Addr} {G : Nat} {g : Nat → Value} (h : LI w X p4 p6 N E a G g) (o : Obj) : LI w (X.alloc o) p4 p6 N E a G g := by
  have hb : Below X.heap.size X (X.alloc o) := (Below.refl _ _).alloc (Nat.le_refl _) o
  exact ⟨h.bel.trans (hb.mono h.bel.size), h.l.later (hb.block _ h.l.lt), h.e.later hb, h.r.alloc o⟩

theorem LI.start {w W X : World} {p4 p6 : Addr} {N : Nat} {E : Nat → En} {a : Option Addr} (L : EL w a N E) (hb : Below w.heap.size w W) (l : BL W w.heap.size N N E p4 p6) (hX : Below W.heap.size W X) (c : Array Value) (g : Nat → Value) (hs : c.size = 5) (hg : ∀ i, i < c.size → c[i]? = some (g i)) :
    LI w (X.alloc (.cells c 43)) p4 p6 N E a X.heap.size g := by
  have h1 := hb.trans (hX.mono hb.size)
  have h2 := h1.alloc h1.size (.cells c 43)
  have R := World.rowIs_alloc X c 43 g hg
  rw [hs] at R
  have l1 := l.later (hX.block _ l.lt)
  exact ⟨h2, l1.later (((Below.refl X.heap.size X).alloc (Nat.le_refl _) (.cells c 43)).block _ l1.lt), L.later h2, R⟩

set_option maxRecDepth 100000 in
set_option maxHeartbeats 4000000 in
theorem law_any (a : Option Addr) (N cap : Nat) (hN : N ≤ 1024) (E : Nat → En) (hE : ∀ i, i < N → (E i).Ok) (x0 x1 x2 x3 : Int) (hx0 : 0 ≤ x0 ∧ x0 ≤ 255) (hx1 : 0 ≤ x1 ∧ x1 ≤ 255) (hx2 : 0 ≤ x2 ∧ x2 ≤ 255) (hx3 : 0 ≤ x3 ∧ x3 ≤ 255) (m : Bool) (p4 p6 : Addr) (w : World) (Z : ZZ w p4 p6) (L : EL w a N E) :
    Calls Ybad.prog 3 #[.slice a N cap, .int .u8 x0, .int .u8 x1, .int .u8 x2, .int .u8 x3, .bool m] w fun e w' => e = .returned (.bool true) ∧ Below w.heap.size w w' := by
  have HE : Hid (∀ i, i < N → (E i).Ok) := hE
  have HX : Hid ((0 ≤ x0 ∧ x0 ≤ 255) ∧ (0 ≤ x1 ∧ x1 ≤ 255) ∧ (0 ≤ x2 ∧ x2 ≤ 255) ∧ (0 ≤ x3 ∧ x3 ≤ 255)) := ⟨hx0, hx1, hx2, hx3⟩
  have hbig : ¬ (1024 : Int) < (N : Int) := by omega
  obtain ⟨v0, v1⟩ := wd_bd x0 x1 x2 x3 hx0.1 hx0.2 hx1.1 hx1.2 hx2.1 hx2.2 hx3.1 hx3.2
  clear hE hx0 hx1 hx2 hx3
  go_enter Ybad.func3, Ybad.ntmps3
  go_wp2_with fail
  refine (build_any a N cap hN E HE.out p4 p6 _ Z L).mono ?_
  rintro e w1 ⟨rfl, hb1, l1⟩
  go_wp2_with fail
  refine (from4_any x0 x1 x2 x3 HX.out.1 HX.out.2.1 HX.out.2.2.1 HX.out.2.2.2 p4 p6 _ (Z.later hb1 (Nat.le_refl _))).mono ?_
  rintro e w2 ⟨rfl, hb2⟩
  have HW : Hid (∀ W, Calls Ybad.prog 9 #[.int .u8 x0, .int .u8 x1, .int .u8 x2, .int .u8 x3] W fun e w' => e = .returned (.int .u32 (wd x0 x1 x2 x3)) ∧ W = w') := fun W => word_any x0 x1 x2 x3 HX.out.1 HX.out.2.1 HX.out.2.2.1 HX.out.2.2.2 W
  generalize wd x0 x1 x2 x3 = v at *
  have Z2 := (Z.later hb1 (Nat.le_refl _)).later hb2 (Nat.le_refl _)
  have l2 := l1.later (hb2.block _ l1.lt)
  have b2 := hb1.trans (hb2.mono hb1.size)
  clear hb1 hb2 l1
  cases m
  case' false =>
    go_wp2_with fail
    have bW := b2.alloc b2.size (.cells #[.int .u64 0, .int .u64 (lo4 v), .pointer (some p4)] 33)
    have lW := l2.later (((Below.refl w2.heap.size w2).alloc (Nat.le_refl _) (.cells #[.int .u64 0, .int .u64 (lo4 v), .pointer (some p4)] 33)).block _ l2.lt)
    refine (protect_any w.heap.size N hN E HE.out v v0 v1 p4 p4 p6 (fun W ZW => unmap4 0 (lo4 v) p4 p6 W ZW) _ (Z2.alloc _) lW).mono ?_
    generalize w2.alloc (.cells #[.int .u64 0, .int .u64 (lo4 v), .pointer (some p4)] 33) = W at *
  case' true =>
    go_wp2_with fail
    have lo0 : 0 ≤ lo4 v ∧ lo4 v < 18446744073709551616 := by unfold lo4; omega
    have lo1 : (lo4 v / 4294967296 == 65535) = true := by unfold lo4; simp; omega
    refine (as16_any (lo4 v) p4 lo0.1 lo0.2 _).mono ?_
    rintro e w3 ⟨rfl, hb3⟩
    have Z3 := (Z2.alloc _).later hb3 (Nat.le_refl _)
    go_wp2_with fail
    refine (from16_any (lo4 v) lo0.1 lo0.2 p4 p6 _ Z3).mono ?_
    rintro e w4 ⟨rfl, hb4⟩
    have Z4 := Z3.later hb4 (Nat.le_refl _)
    have hb34 := hb3.trans (hb4.mono hb3.size)
    have R0 := World.rowIs_alloc w2 #[.int .u64 0, .int .u64 (lo4 v), .pointer (some p4)] 33 (f33 (lo4 v) p4) (fun i hi => by rw [Array.getElem?_eq_getElem hi]; simp [f33, Array.getElem?_eq_getElem hi])
    have R4 := R0.of_block (hb34.block _ R0.lt)
    have b24 := bel_past1 hb34
    have b4 := ((b24.setCell (p := ⟨w2.heap.size, 0, none⟩) (Nat.le_refl _) (.int .u64 0)).setCell (p := ⟨w2.heap.size, 1, none⟩) (Nat.le_refl _) (.int .u64 (lo4 v))).setCell (p := ⟨w2.heap.size, 2, none⟩) (Nat.le_refl _) (.pointer (some p6))
    have bW := b2.trans (b4.mono b2.size)
    have lW := l2.later (b4.block _ l2.lt)
    have ZW := Z2.later b4 (Nat.le_refl _)
    have t0 : w4.cell? ⟨w2.heap.size, 0, none⟩ = some (.int .u64 0) := R4.cell (i := 0) (by show 0 < 3; omega)
    have t1 : w4.cell? ⟨w2.heap.size, 1, none⟩ = some (.int .u64 (lo4 v)) := R4.cell (i := 1) (by show 1 < 3; omega)
    have t2 : w4.cell? ⟨w2.heap.size, 2, none⟩ = some (.pointer (some p4)) := R4.cell (i := 2) (by show 2 < 3; omega)
    have tf := R4.frozen
    have LO : Hid ((lo4 v / 4294967296 == 65535) = true) := lo1
    clear hb3 hb4 hb34 Z3 Z4 b24 R0 R4 b4 lo0 lo1
    go_wp2_with fail
    refine (protect_any w.heap.size N hN E HE.out v v0 v1 p6 p4 p6 (fun W ZW => unmap6 (lo4 v) LO.out p4 p6 W ZW) _ ZW lW).mono ?_
    clear t0 t1 t2 tf ZW
    generalize (((w4.setCell ⟨w2.heap.size, 0, none⟩ (.int .u64 0)).setCell ⟨w2.heap.size, 1, none⟩ (.int .u64 (lo4 v))).setCell ⟨w2.heap.size, 2, none⟩ (.pointer (some p6))) = W at *
  all_goals
    rintro e w5 ⟨hb5, ⟨k, hk, hhit, hmiss, rfl⟩ | ⟨hmiss, rfl⟩⟩
    · have HM : Hid (∀ j, j < k → (E j).hit v = false) := hmiss
      have I0 := LI.start L bW lW hb5 #[.int .u64 0, .int .u64 (lo4 (E k).w), .pointer (some ((E k).z p4 p6)), .int .u8 (E k).bl, .string (rs (E k).k)] (ce p4 p6 (E k)) rfl (fun i hi => by
        match i, hi with
        | 0, _ => rfl
        | 1, _ => rfl
        | 2, _ => rfl
        | 3, _ => rfl
        | 4, _ => rfl)
      clear hmiss Z2 l2 b2 bW lW hb5
      unfold ent
      go_wp2_with (go_at_call 9; refine (HW.out _).mono ?_; rintro e w' ⟨rfl, rfl⟩)
      go_loopw [50] (fun i wr => ∃ j : Nat, j ≤ k ∧ i = .int .i64 j ∧ LI w wr p4 p6 N E a w5.heap.size (ce p4 p6 (E k))) (fun i _ => N - (intOf i).toNat)
      case atStart => exact ⟨0, Nat.zero_le _, rfl, I0⟩
      case round =>
        clear I0
        obtain ⟨j, hj, rfl, I⟩ := hrel
        have hltI : (j : Int) < (N : Int) := by omega
        have hlt : j < N := by omega
        obtain h0 | ⟨b, off, rfl, hc⟩ := I.e
        · omega
        obtain ⟨c0, c1, c2, c3, c4, c5, c6⟩ := hc j hlt
        clear hc
        have I' := I.next (.cells #[.int .u8 (E j).a, .int .u8 (E j).b, .int .u8 (E j).c, .int .u8 (E j).d, .int .u8 (E j).n, .bool (E j).v6, .int .u8 (E j).k] 49)
        have OK : Hid ((E j).Ok) := HE.out j hlt
        cases hv : (E j).v6
        · rw [hv] at I'
          have hrem := OK.out.rem64
          have hsub := OK.out.sub64
          by_cases hjk : j = k
          · subst hjk
            have hh0 : (xs v (E j).w (E j).pl == 0) = true := by simpa [En.hit, hv] using hhit
            have HH : Hid ((xs v (E j).w (E j).pl == 0) = true) := hh0
            clear hh0
            clear hhit
            by_cases hp : (E j).pl = 0
            case' pos =>
              go_wp2_with (go_at_call 9; refine (word_e (E j) OK.out _).mono ?_; rintro e w' ⟨rfl, rfl⟩)
            case' neg =>
              have hp2 : ((E j).pl == 0) = false := by simpa using hp
              have hsh := fun W => shift32 v (E j).w (E j).pl v0 v1 OK.out.w_bd.1 OK.out.w_bd.2 OK.out.pl_bd.1 OK.out.pl_bd.2 W
              have hxs := HH.out
              have hxs2 : xs v (E j).w (E j).pl = 0 := by simpa using hxs
              go_wp2_with (go_at_call 9; refine (word_e (E j) OK.out _).mono ?_; rintro e w' ⟨rfl, rfl⟩)
              clear hsh
            all_goals
              clear I c0 c1 c2 c3 c4 c5 c6
              generalize wr.alloc (.cells #[.int .u8 (E j).a, .int .u8 (E j).b, .int .u8 (E j).c, .int .u8 (E j).d, .int .u8 (E j).n, .bool false, .int .u8 (E j).k] 49) = X at *
              obtain ⟨d0, d1, d2, d3, d4⟩ := I'.l.cells (Nat.le_refl _) hlt
              have e0 : X.cell? ⟨w5.heap.size, 0, none⟩ = some (.int .u64 0) := I'.r.cell (i := 0) (by omega)
              have e1 : X.cell? ⟨w5.heap.size, 1, none⟩ = some (.int .u64 (lo4 (E j).w)) := I'.r.cell (i := 1) (by omega)
              have e2 : X.cell? ⟨w5.heap.size, 2, none⟩ = some (.pointer (some ((E j).z p4 p6))) := I'.r.cell (i := 2) (by omega)
              have e3 : X.cell? ⟨w5.heap.size, 3, none⟩ = some (.int .u8 (E j).bl) := I'.r.cell (i := 3) (by omega)
              have e4 : X.cell? ⟨w5.heap.size, 4, none⟩ = some (.string (rs (E j).k)) := I'.r.cell (i := 4) (by omega)
              have bX := I'.bel
              have hps := fun d W => ptr_same d ((E j).z p4 p6) W
              clear I'
              go_quiet (fail)
              clear e0 e1 e2 e3 e4 d0 d1 d2 d3 d4 hps
              go_wp2
              go_ret
              exact ⟨rfl, below_drewN bX nq⟩
          · have hm := HM.out j (by omega)
            clear hhit
            have hpz : (E j).pl ≠ 0 := fun e => by rw [En.hit_zero OK.out hv e v v0 v1] at hm; cases hm
            have hp2 : ((E j).pl == 0) = false := by simpa using hpz
            have hxs : (xs v (E j).w (E j).pl == 0) = false := by simpa [En.hit, hv] using hm
            have hxs2 : ¬ xs v (E j).w (E j).pl = 0 := by simpa using hxs
            have hsh := fun W => shift32 v (E j).w (E j).pl v0 v1 OK.out.w_bd.1 OK.out.w_bd.2 OK.out.pl_bd.1 OK.out.pl_bd.2 W
            clear hm
            go_wp2_with (go_at_call 9; refine (word_e (E j) OK.out _).mono ?_; rintro e w' ⟨rfl, rfl⟩)
            go_roundw
            case rel => exact ⟨j + 1, by omega, by go_num, I'⟩
            case measure => simp [intOf]; omega
        · go_wp2
          rw [hv] at I'
          have hne : j ≠ k := fun e => by
            subst e
            simp [En.hit, hv] at hhit
          go_roundw
          case rel => exact ⟨j + 1, by omega, by go_num, I'⟩
          case measure => simp [intOf]; omega
    · have HM : Hid (∀ j, j < N → (E j).hit v = false) := hmiss
      have I0 := LI.start L bW lW hb5 #[.int .u64 0, .int .u64 0, .pointer none, .int .u8 0, .string ⟨#[]⟩] f43 rfl (fun i hi => by
        match i, hi with
        | 0, _ => rfl
        | 1, _ => rfl
        | 2, _ => rfl
        | 3, _ => rfl
        | 4, _ => rfl)
      clear hmiss Z2 l2 b2 bW lW hb5
      unfold ent0
      go_wp2_with (go_at_call 9; refine (HW.out _).mono ?_; rintro e w' ⟨rfl, rfl⟩)
      go_loopw [50] (fun i wr => ∃ j : Nat, j ≤ N ∧ i = .int .i64 j ∧ LI w wr p4 p6 N E a w5.heap.size f43) (fun i _ => N - (intOf i).toNat)
      case atStart => exact ⟨0, Nat.zero_le _, rfl, I0⟩
      case round =>
        clear I0
        obtain ⟨j, hj, rfl, I⟩ := hrel
        by_cases hlt : j < N
        · have hltI : (j : Int) < (N : Int) := by omega
          obtain h0 | ⟨b, off, rfl, hc⟩ := I.e
          · omega
          obtain ⟨c0, c1, c2, c3, c4, c5, c6⟩ := hc j hlt
          clear hc
          have I' := I.next (.cells #[.int .u8 (E j).a, .int .u8 (E j).b, .int .u8 (E j).c, .int .u8 (E j).d, .int .u8 (E j).n, .bool (E j).v6, .int .u8 (E j).k] 49)
          have OK : Hid ((E j).Ok) := HE.out j hlt
          cases hv : (E j).v6
          · rw [hv] at I'
            have hrem := OK.out.rem64
            have hsub := OK.out.sub64
            have hm := HM.out j hlt
            have hpz : (E j).pl ≠ 0 := fun e => by rw [En.hit_zero OK.out hv e v v0 v1] at hm; cases hm
            have hp2 : ((E j).pl == 0) = false := by simpa using hpz
            have hxs : (xs v (E j).w (E j).pl == 0) = false := by simpa [En.hit, hv] using hm
            have hxs2 : ¬ xs v (E j).w (E j).pl = 0 := by simpa using hxs
            have hsh := fun W => shift32 v (E j).w (E j).pl v0 v1 OK.out.w_bd.1 OK.out.w_bd.2 OK.out.pl_bd.1 OK.out.pl_bd.2 W
            clear hm
            go_wp2_with (go_at_call 9; refine (word_e (E j) OK.out _).mono ?_; rintro e w' ⟨rfl, rfl⟩)
            go_roundw
            case rel => exact ⟨j + 1, by omega, by go_num, I'⟩
            case measure => simp [intOf]; omega
          · go_wp2
            rw [hv] at I'
            go_roundw
            case rel => exact ⟨j + 1, by omega, by go_num, I'⟩
            case measure => simp [intOf]; omega
        · obtain rfl : j = N := by omega
          have e0 : wr.cell? ⟨w5.heap.size, 0, none⟩ = some (.int .u64 0) := I.r.cell (i := 0) (by omega)
          have e1 : wr.cell? ⟨w5.heap.size, 1, none⟩ = some (.int .u64 0) := I.r.cell (i := 1) (by omega)
          have e2 : wr.cell? ⟨w5.heap.size, 2, none⟩ = some (.pointer none) := I.r.cell (i := 2) (by omega)
          have e3 : wr.cell? ⟨w5.heap.size, 3, none⟩ = some (.int .u8 0) := I.r.cell (i := 3) (by omega)
          have e4 : wr.cell? ⟨w5.heap.size, 4, none⟩ = some (.string ⟨#[]⟩) := I.r.cell (i := 4) (by omega)
          have bX := I.bel
          have hpn := fun d W => ptr_none d W
          clear I
          go_wp2
          go_ret
          exact ⟨rfl, bX⟩

end Go.Proofs.YbulktckDoor.Net
