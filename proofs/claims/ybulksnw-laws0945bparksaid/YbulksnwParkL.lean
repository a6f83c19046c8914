import Derived.Test.YbulksnwParkK
namespace Go.Proofs.Ybulksnw.Park
open Go.RowKit Go.Conc
open Recl (wcells worker_any)

/-- The worker's cells, before park. -/
def hf (B x C : Nat) (a7 : Int) (a8 : Bool) : Nat → Value := fun j => if j = 16 then .int .i32 a7 else if j = 21 then .bool a8 else if j = 19 then .chan (some C) else if j = 20 then .bool true else wf B x j

/-- The workers in their order: the prior ones, then the one that parks. -/
def hd (B n x : Nat) : Nat → Nat := fun i => if i = n then x else B + 2 + 2 * i
theorem hd_n (B n x : Nat) : hd B n x n = x := if_pos rfl
theorem hd_lt {B n x i : Nat} (h : i < n) : hd B n x i = B + 2 + 2 * i := if_neg (by omega)

/-- What the law reads behind park. -/
structure En (W w : World) (B x C n k : Nat) (wo : Bool) (v : Int) (o : Obj) (a : Option Addr) (c : Nat) : Prop where
  c1217 : w.cell? ⟨B, 1217, none⟩ = some (.slice a k c)
  c1218 : w.cell? ⟨B, 1218, none⟩ = some (.int .i32 k)
  c1220 : w.cell? ⟨B, 1220, none⟩ = some (.int .u32 v)
  x19 : w.cell? ⟨x, 19, none⟩ = some (.chan (some C))
  x21 : w.cell? ⟨x, 21, none⟩ = some (.bool wo)
  ch : w.heap[C]? = some o
  pl : PL w a k (hd B n x)
  pr : PL w (some ⟨B + 1, 0, none⟩) n (hd B n x)
  bel : Below W.heap.size W w

theorem PL.later {w w' : World} {a : Option Addr} {n : Nat} {Hd : Nat → Nat} (h : PL w a n Hd) (k : Kept (fun _ => False) w w') : PL w' a n Hd := by
  rcases h with h | ⟨X, ha, hc⟩
  · exact .inl h
  · exact .inr ⟨X, ha, fun i hi => k.cell (hc i hi)⟩

theorem En.later {W w w' : World} {B x C n k : Nat} {wo : Bool} {v : Int} {o : Obj} {a : Option Addr} {c : Nat} (h : En W w B x C n k wo v o a c) (q : Kept (fun _ => False) w w') : En W w' B x C n k wo v o a c :=
  ⟨q.cell h.c1217, q.cell h.c1218, q.cell h.c1220, q.cell h.x19, q.cell h.x21, (q.block C (Array.getElem?_eq_some_iff.1 h.ch).1 (fun e => e)).trans h.ch, h.pl.later q, h.pr.later q, h.bel.trans ((q.bel W.heap.size (fun _ e => e.elim) h.bel.size))⟩

/-- The group, or none. -/
def GU (wr w : World) (x C : Nat) (g : Option Addr) (r : Int) (us : Bool) : Prop :=
  (g = none ∧ us = false) ∨ ∃ G st fg, g = some ⟨G, 0, none⟩ ∧ us = (st || decide (0 < r)) ∧ w.rowIs G 100 25 fg ∧ fg 4 = .int .i32 0 ∧ fg 13 = .int .i64 (if st then 0 else 1) ∧ fg 1 = .iface 140 (.agg #[]) ∧ wr.heap.size ≤ G ∧ G ≠ x ∧ G ≠ C

theorem some_inj {a b : Nat} (h : (some ⟨a, 0, none⟩ : Option Addr) = some ⟨b, 0, none⟩) : a = b := by
  injection h with h
  injection h

theorem b32_and (a8 a9 : Bool) : (if a8 then 0 else b32 a9) = b32 (a9 && !a8) := by cases a8 <;> cases a9 <;> rfl

theorem park_law {W w1 wr w : World} {B n c x C : Nat} {a g : Option Addr} {a0 a8 a9 us : Bool} {a1 a2 a3 a7 : Int} (hn : n ≤ 255) (L : L2 W w1 wr B n n a c) (m : M wr w B x C (pf B n c a a0 a9 a1 a2 a3) (hf B x C a7 a8) (.chan 1 #[.agg #[]] false 1 0 false)) (U : GU wr w x C g a7 us) :
    Calls Yba.prog 18 #[.pointer (some ⟨B, 0, none⟩), .pointer (some ⟨x, 0, none⟩), .pointer g] w fun e w' => e = .returned (.bool (decide (0 < a2) || !(a0 && decide (a1 = 0)))) ∧
      Fork (decide (0 < a2) || (a0 && decide (a1 = 0)) || (decide (0 < a3) || us)) (fun w' => ∃ a' c', En W w' B x C n n a8 (b32 a9) (.chan 1 #[.agg #[]] false 1 0 false) a' c')
        (fun w' => ∃ a' c', n + 1 ≤ c' ∧ En W w' B x C n (n + 1) false (b32 (a9 && !a8)) (.chan 1 #[] false 1 1 false) a' c') w' := by
  have hB := L.l1.hB
  have hs := L.l1.size
  have hks := L.kept.size
  have hx := m.hx
  have hC := m.hC
  have ms := m.kept.size
  have ax : ∀ b, a = some ⟨b, 0, none⟩ → w1.heap.size ≤ b ∧ b < wr.heap.size := by
    intro b e
    refine ⟨?_, ?_⟩
    · rcases L.new with e' | ⟨X, e', h⟩
      · rw [e'] at e; cases e
      · rw [e'] at e; have := some_inj e; omega
    · rcases L.il with ⟨_, _, e'⟩ | ⟨X, h, e', _, hr, _⟩
      · rw [e'] at e; cases e
      · rw [e'] at e; have := some_inj e; have := hr.lt; omega
  have gx : ∀ b, g = some ⟨b, 0, none⟩ → wr.heap.size ≤ b ∧ b ≠ x ∧ b ≠ C := by
    intro b e
    rcases U with ⟨e', _⟩ | ⟨G, st, fg, e', _, _, _, _, _, h1, h2, h3⟩
    · rw [e'] at e; cases e
    · rw [e'] at e; have := some_inj e; subst this; exact ⟨h1, h2, h3⟩
  have I : IL w a n c (hd B n x) := by
    have I0 : IL wr a n c (hd B n x) := by
      rcases L.il with h | ⟨X, h, e, hc, hr, hh⟩
      · exact .inl h
      · exact .inr ⟨X, h, e, hc, hr, fun i hi => by rw [hh i hi, hd_lt hi]⟩
    exact I0.kept m.kept (fun X e e' => by have := ax X e; omega)
  have S : WS w B n (hd B n x) a := by
    refine ⟨fun i hi => ?_, fun i hi => ?_, fun i hi => ?_, fun i hi => ?_⟩
    · by_cases e : i = n
      · subst e; rw [hd_n]; exact ⟨_, m.wk⟩
      · rw [hd_lt (by omega)]
        obtain ⟨g', hg⟩ := L.l1.wk i (by omega)
        exact ⟨g', m.kept.row (L.kept.row hg (by omega)) (by omega)⟩
    · by_cases e : i = n
      · subst e; rw [hd_n]; omega
      · rw [hd_lt (by omega)]; omega
    · intro e'
      have := ax _ e'
      by_cases e : i = n
      · subst e; rw [hd_n] at this; omega
      · rw [hd_lt (by omega)] at this; omega
    · rw [hd_n, hd_lt hi]; omega
  have UU : UG w B C n (hd B n x) a g a7 us := by
    rcases U with h | ⟨G, st, fg, e', h1, h2, h3, h4, h5, h6, h7, h8⟩
    · exact .inl h
    · refine .inr ⟨G, st, fg, e', h1, h2, h3, h4, h5, by omega, h8, fun e => by have := ax _ e; omega, fun i hi => ?_⟩
      by_cases e : i = n
      · subst e; rw [hd_n]; exact Ne.symm h7
      · rw [hd_lt (by omega)]; omega
  have P := L.kept.row L.l1.prior (by omega)
  have P' := m.kept.row P (by omega)
  have bel0 : Below W.heap.size W w := (L.l1.bel.trans (L.kept.bel _ (fun d e => by omega) (by omega))).trans (m.kept.bel _ (fun d e => by omega) (by omega))
  have hBx : B ≠ x := Ne.symm m.hxB
  refine (park_any B x C n c a g (hd B n x) (pf B n c a a0 a9 a1 a2 a3) (hf B x C a7 a8) a2 a1 a3 (b32 a9) a7 a0 a8 us (pf_pf ..) rfl rfl w m.pool I hn (hd_n ..) L.aB S m.wk rfl rfl rfl m.ch (fun e => by have := ax _ e; omega) UU).mono ?_
  rintro e w' ⟨rfl, hF⟩
  refine ⟨rfl, fun hs1 => ?_, fun hs1 => ?_⟩
  · obtain ⟨a', c', r, pl, k⟩ := hF.1 hs1
    have nx : ¬ D0 B a g x := by
      rintro (e | e | e)
      · omega
      · have := ax _ e; omega
      · exact (gx _ e).2.1 rfl
    have nC : ¬ D0 B a g C := by
      rintro (e | e | e)
      · omega
      · have := ax _ e; omega
      · exact (gx _ e).2.2 rfl
    have nP : ¬ D0 B a g (B + 1) := by
      rintro (e | e | e)
      · omega
      · have := ax _ e; omega
      · have := (gx _ e).1; omega
    have RX := k.row m.wk nx
    have RP := k.row P' nP
    refine ⟨a', c', by rw [r.cell (by omega)]; rfl, by rw [r.cell (by omega)]; rfl, by rw [r.cell (by omega)]; rfl, by rw [RX.cell (by omega)]; rfl, by rw [RX.cell (by omega)]; rfl, (k.block C (Array.getElem?_eq_some_iff.1 m.ch).1 nC).trans m.ch, pl,
      .inr ⟨_, rfl, fun i hi => by rw [RP.cell hi, if_pos hi, hd_lt hi]⟩, bel0.trans (k.bel _ ?_ bel0.size)⟩
    rintro d (e | e | e)
    · omega
    · have := ax _ e; omega
    · have := (gx _ e).1; omega
  · obtain ⟨a', c', r, pl, RX, hc, k, hcap⟩ := hF.2 hs1
    have RP := k.row P' (by
      rintro ((e | e | e) | e | e)
      · omega
      · have := ax _ e; omega
      · have := (gx _ e).1; omega
      · omega
      · omega)
    refine ⟨a', c', hcap, by rw [r.cell (by omega)]; rfl, by rw [r.cell (by omega)]; rfl, by rw [r.cell (by omega), ← b32_and]; rfl, by rw [RX.cell (by omega)]; rfl, by rw [RX.cell (by omega)]; rfl, hc, pl,
      .inr ⟨_, rfl, fun i hi => by rw [RP.cell hi, if_pos hi, hd_lt hi]⟩, bel0.trans (k.bel _ ?_ bel0.size)⟩
    rintro d ((e | e | e) | e | e)
    · omega
    · have := ax _ e; omega
    · have := (gx _ e).1; omega
    · omega
    · omega

/-- The group's cells, made. -/
abbrev gcells (B G : Nat) (v : Int) : Array Value :=
  #[.pointer (some ⟨B, 0, none⟩), .iface 140 (.agg #[]), .nilFunc, .pointer none, .int .i32 0, .int .u32 0, .iface 86 (.pointer (some ⟨G, 4, none⟩)), .int .u32 0, .int .u32 0, .int .u64 0, .pointer none, .pointer none, .int .u64 0, .int .i64 v,
    .nilIface, .int .i64 0, .int .i64 0, .pointer none, .pointer none, .int .i64 0, .int .i64 0, .bool false, .int .i64 0, .int .u32 0, .int .i64 0]
theorem GU.made {wr w : World} {B x C : Nat} {f h : Nat → Value} {o : Obj} (m : M wr w B x C f h o) (st : Bool) (v : Int) (hv : v = if st then 0 else 1) (r : Int) : GU wr (w.alloc (.cells (gcells B w.heap.size v) 100)) x C (some ⟨w.heap.size, 0, none⟩) r (st || decide (0 < r)) := by
  have R := World.rowIs_alloc w (gcells B w.heap.size v) 100 (fun i => ((gcells B w.heap.size v)[i]?).getD .nilIface) (fun i hi => by rw [Array.getElem?_eq_getElem hi]; rfl)
  subst hv
  refine .inr ⟨w.heap.size, st, _, rfl, rfl, R, rfl, rfl, rfl, m.kept.size, ?_, ?_⟩
  · have := m.wk.lt; omega
  · have := (Array.getElem?_eq_some_iff.1 m.ch).1; omega

theorem len_chan {w : World} {C s r : Nat} {buf : Array Value} (hc : w.heap[C]? = some (.chan 1 buf false s r false)) : (Builtin.len_ #[55] 3 #[.chan (some C)]).run Yba.prog w = .ok (.int .i64 buf.size) w := by
  simp [Builtin.len_, run_underlying Yba.underlying55, run_getObj_chan _ _ hc]
  rfl

theorem boolLoad' (b o : Nat) (t : Bool) (w : World) (hc : w.cell? ⟨b, o, none⟩ = some (.int .u32 (b32 t))) :
    Calls Yba.prog 21 #[.pointer (some ⟨b, o, none⟩)] w fun e w' => e = .returned (.bool t) ∧ w = w' := by
  refine (Atom.boolLoad b o _ w hc).mono ?_
  rintro e w' ⟨rfl, rfl⟩
  cases t <;> exact ⟨rfl, rfl⟩

end Go.Proofs.Ybulksnw.Park
