import Derived.Test.YbulksnwParkG
namespace Go.Proofs.Ybulksnw.Park
open Go.RowKit Go.Conc

theorem Kept.widen {D D' : Nat → Prop} {w a b : World} (h : Kept D w a) (k : Kept D' a b) (hD : ∀ d, D' d → D d ∨ w.heap.size ≤ d) : Kept D w b :=
  ⟨fun C h1 h2 => (h.bel C h1 h2).trans (k.bel C (fun d hd => (hD d hd).elim (h1 d) (fun e => Nat.le_trans h2 e)) (Nat.le_trans h2 h.size)), Nat.le_trans h.size k.size,
    fun b h1 h2 => (k.block b (Nat.lt_of_lt_of_le h1 h.size) (fun e => (hD b e).elim h2 (fun e => by omega))).trans (h.block b h1 h2)⟩
theorem Kept.wide {D D' : Nat → Prop} {w a : World} (h : Kept D w a) (hD : ∀ d, D d → D' d) : Kept D' w a :=
  ⟨fun C h1 h2 => h.bel C (fun d hd => h1 d (hD d hd)) h2, h.size, fun b h1 h2 => h.block b h1 (fun e => h2 (hD b e))⟩
theorem Kept.chan {D : Nat → Prop} {a w : World} (h : Kept D a w) {c : Nat} (hD : D c) (cap : Nat) (buf : Array Value) (cl : Bool) (s r : Nat) (tm : Bool) : Kept D a (w.setChan c cap buf cl s r tm) := by
  refine h.trans ⟨fun C h1 h2 => below_setChan (Below.refl _ _) (h1 c hD) cap buf cl s r tm, by rw [size_setChan]; omega, fun b h1 h2 => ?_⟩
  have hne : ¬ c = b := fun e => h2 (e ▸ hD)
  simp [World.setChan, hne]

/-- The worker is listed: the pool's row with its idle list one longer. -/
def fl (f : Nat → Value) (a : Option Addr) (n c : Nat) : Nat → Value := fun i => if i = 1218 then .int .i32 n else if i = 1217 then .slice a n c else f i

/-- The group that the worker waits for, if any: whether it is to stop. -/
def UG (w : World) (B C n : Nat) (Hd : Nat → Nat) (a g : Option Addr) (r : Int) (us : Bool) : Prop :=
  (g = none ∧ us = false) ∨ ∃ G st fg, g = some ⟨G, 0, none⟩ ∧ us = (st || decide (0 < r)) ∧ w.rowIs G 100 25 fg ∧ fg 4 = .int .i32 0 ∧ fg 13 = .int .i64 (if st then 0 else 1) ∧ fg 1 = .iface 140 (.agg #[]) ∧
    G ≠ B ∧ G ≠ C ∧ a ≠ some ⟨G, 0, none⟩ ∧ ∀ i, i < n + 1 → Hd i ≠ G

/-- The workers of the list: rows of their own. -/
structure WS (w : World) (B n : Nat) (Hd : Nat → Nat) (a : Option Addr) : Prop where
  row : ∀ i, i < n + 1 → ∃ g, w.rowIs (Hd i) 58 25 g
  hB : ∀ i, i < n + 1 → Hd i ≠ B
  ha : ∀ i, i < n + 1 → a ≠ some ⟨Hd i, 0, none⟩
  ne : ∀ i, i < n → Hd n ≠ Hd i

/-- What park has done behind its lock: the worker is listed. -/
structure AL (D : Nat → Prop) (w w' : World) (B n : Nat) (Hd : Nat → Nat) (a : Option Addr) (f : Nat → Value) (a' : Option Addr) (c' : Nat) : Prop where
  row : w'.rowIs B 85 1233 (fl f a' (n + 1) c')
  il : IL w' a' (n + 1) c' Hd
  kept : Kept D w w'
  haB : a' ≠ some ⟨B, 0, none⟩
  new : a' = a ∨ a' = none ∨ ∃ X, a' = some ⟨X, 0, none⟩ ∧ w.heap.size ≤ X

theorem AL.step {D : Nat → Prop} {w w' w'' : World} {B n : Nat} {Hd : Nat → Nat} {a : Option Addr} {f : Nat → Value} {a' : Option Addr} {c' G : Nat} (h : AL D w w' B n Hd a f a' c') (k : Keep G w' w'') (hD : D G) (hB : B ≠ G) (ha : a ≠ some ⟨G, 0, none⟩) (hG : G < w.heap.size) : AL D w w'' B n Hd a f a' c' := by
  refine ⟨k.row h.row hB, h.il.kept (D := fun b => b = G) (k.kept rfl) ?_, h.kept.trans (k.kept hD), h.haB, h.new⟩
  rintro X e rfl
  rcases h.new with e' | e' | ⟨X', e', hl⟩
  · exact ha (by rw [← e', e])
  · rw [e] at e'; cases e'
  · rw [e] at e'
    injection e' with e'
    injection e' with e'
    omega

/-- Behind a park that stops at once. -/
def Stopped (D : Nat → Prop) (w : World) (B n : Nat) (Hd : Nat → Nat) (f : Nat → Value) (w' : World) : Prop := ∃ a' c', w'.rowIs B 85 1233 (fl f a' n c') ∧ PL w' a' n Hd ∧ Kept D w w'

/-- unlist, of the worker that has just been listed. -/
theorem AL.unlist {D : Nat → Prop} {w w' : World} {B n : Nat} {Hd : Nat → Nat} {a : Option Addr} {f : Nat → Value} {a' : Option Addr} {c' : Nat} (h : AL D w w' B n Hd a f a' c') (hn : n ≤ 255) (S : WS w B n Hd a) (f1 : f 1 = .int .i32 0) (hDB : D B) (hDa : ∀ b, a = some ⟨b, 0, none⟩ → D b) (hDH : ∀ i, i < n + 1 → ¬ D (Hd i)) :
    Calls Yba.prog 42 #[.pointer (some ⟨B, 0, none⟩), .pointer (some ⟨Hd n, 0, none⟩)] w' fun e w'' => e = .returned (.bool true) ∧ Stopped D w B n Hd f w'' := by
  rcases h.il with ⟨h0, _⟩ | ⟨X, hh, rfl, hc, hr, hf⟩
  · omega
  have hBX : B ≠ X := fun e => h.haB (by rw [e])
  refine (unlist_any B X n c' Hd (fl f (some ⟨X, 0, none⟩) (n + 1) c') hh w' h.row hr f1 rfl _ rfl hf hc (by omega) (fun i hi => ?_) S.ne hBX S.hB).mono ?_
  · obtain ⟨g, hg⟩ := S.row i hi
    exact ⟨g, h.kept.row hg (hDH i hi)⟩
  · rintro e w'' ⟨rfl, k, r1, r2⟩
    refine ⟨rfl, some ⟨X, 0, none⟩, c', r1.congr fun i _ => ?_, .inr ⟨X, rfl, fun i hi => ?_⟩, h.kept.widen k ?_⟩
    · simp only [fl]
      by_cases e : i = 1218
      · simp [e]
      · by_cases e2 : i = 1217
        · simp [e2]
        · simp [e, e2]
    · rw [r2.cell (by omega), if_neg (by omega), hf i (by omega)]
    · rintro d (rfl | rfl)
      · exact .inl hDB
      · rcases h.new with e' | e' | ⟨X', e', hl⟩
        · exact .inl (hDa _ e'.symm)
        · cases e'
        · injection e' with e'
          injection e' with e'
          exact .inr (by omega)

/-- Behind a park that waited and was woken. -/
def Waited (D : Nat → Prop) (w : World) (B C n x : Nat) (Hd : Nat → Nat) (f h : Nat → Value) (k : Int) (wo : Bool) (w' : World) : Prop :=
  ∃ a' c', w'.rowIs B 85 1233 (fun i => if i = 1220 then .int .u32 (if wo then 0 else k) else fl f a' (n + 1) c' i) ∧ PL w' a' (n + 1) Hd ∧ w'.rowIs x 58 25 (fun i => if i = 21 then .bool false else h i) ∧
    w'.heap[C]? = some (.chan 1 #[] false 1 1 false) ∧ Kept D w w' ∧ n + 1 ≤ c'

/-- The token taken, and arrive. -/
theorem AL.arrive {D : Nat → Prop} {w w' : World} {B C n x : Nat} {Hd : Nat → Nat} {a : Option Addr} {f h : Nat → Value} {a' : Option Addr} {c' : Nat} {k : Int} {wo : Bool} (H : AL D w w' B n Hd a f a' c') (hDB : D B) (hDx : D x) (hDC : D C)
    (hx : w'.rowIs x 58 25 h) (h21 : h 21 = .bool wo) (f1220 : f 1220 = .int .u32 k) (hC : w'.heap[C]? = some (.chan 1 #[.agg #[]] false 1 0 false)) (hxB : x ≠ B) (hax : a ≠ some ⟨x, 0, none⟩) (haC : a ≠ some ⟨C, 0, none⟩) (hxl : x < w.heap.size) (hCl : C < w.heap.size) :
    Calls Yba.prog 43 #[.pointer (some ⟨B, 0, none⟩), .pointer (some ⟨x, 0, none⟩)] (w'.setChan C 1 #[] false 1 1 false) fun e w'' => e = .returned (.tuple #[]) ∧ Waited D w B C n x Hd f h k wo w'' := by
  have notChan : ∀ {b t m : Nat} {r : Nat → Value}, w'.rowIs b t m r → b ≠ C := by
    rintro b t m r hr rfl
    obtain ⟨cs, h1, _⟩ := hr
    rw [h1] at hC
    cases hC
  have hBC := notChan H.row
  have hxC := notChan hx
  have kc : Kept (fun b => b = C) w' (w'.setChan C 1 #[] false 1 1 false) := Kept.chan (D := fun b => b = C) (Kept.refl _ _) (c := C) rfl _ _ _ _ _ _
  have RB := kc.row H.row hBC
  have RX := kc.row hx hxC
  have hC' : (w'.setChan C 1 #[] false 1 1 false).heap[C]? = some (.chan 1 #[] false 1 1 false) := heap_setChan _ _ _ _ _ _ _ _ (Array.getElem?_eq_some_iff.1 hC).1
  have k1 : Kept D w (w'.setChan C 1 #[] false 1 1 false) := H.kept.trans (kc.wide (fun d e => e ▸ hDC))
  have notA : ∀ X, a' = some ⟨X, 0, none⟩ → X ≠ C ∧ X ≠ x ∧ X ≠ B := by
    intro X e
    refine ⟨?_, ?_, fun e' => H.haB (by rw [e, e'])⟩
    · rintro rfl
      rcases H.new with e' | e' | ⟨X', e', hl⟩
      · exact haC (by rw [← e', e])
      · rw [e] at e'; cases e'
      · rw [e] at e'
        injection e' with e'
        injection e' with e'
        omega
    · rintro rfl
      rcases H.new with e' | e' | ⟨X', e', hl⟩
      · exact hax (by rw [← e', e])
      · rw [e] at e'; cases e'
      · rw [e] at e'
        injection e' with e'
        injection e' with e'
        omega
  have I := H.il.kept kc (fun X e => (notA X e).1)
  have hc : n + 1 ≤ c' := by
    rcases H.il with ⟨h, _, _⟩ | ⟨_, _, _, h, _, _⟩
    · omega
    · exact h
  generalize w'.setChan C 1 #[] false 1 1 false = w1 at *
  refine (arrive_any B x wo k w1 (by rw [RX.cell (by omega), h21]) (RX.frozen 21) (by rw [RB.cell (by omega)]; exact congrArg some f1220) (RB.frozen 1220)).mono ?_
  rintro e w'' ⟨rfl, rfl⟩
  cases wo
  · refine ⟨rfl, a', c', RB.congr fun i _ => ?_, I.pl, RX.congr fun i _ => ?_, hC', k1, hc⟩
    · show fl f a' (n + 1) c' i = (if i = 1220 then Value.int .u32 k else fl f a' (n + 1) c' i)
      by_cases e : i = 1220
      · subst e; exact f1220
      · rw [if_neg e]
    · show h i = (if i = 21 then Value.bool false else h i)
      by_cases e : i = 21
      · subst e; exact h21
      · rw [if_neg e]
  · refine ⟨rfl, a', c', ((RB.setOther (a := ⟨x, 21, none⟩) (Ne.symm hxB) _).set 1220 _).drew, ?_, ((RX.set 21 _).setOther (a := ⟨B, 1220, none⟩) hxB _).drew, ?_, ((k1.set hDx 21 _).set hDB 1220 _).drew, hc⟩
    · exact (I.kept (D := fun b => b = x ∨ b = B) (((Kept.set (Kept.refl _ _) (g := x) (.inl rfl) 21 _).set (g := B) (.inr rfl) 1220 _).drew) (fun X e h => by
        rcases h with h | h
        · exact (notA X e).2.1 h
        · exact (notA X e).2.2 h)).pl
    · have kk : Kept (fun b => b = x ∨ b = B) w1 ((w1.setCell ⟨x, 21, none⟩ (.bool false)).setCell ⟨B, 1220, none⟩ (.int .u32 0)).drew := ((Kept.set (Kept.refl _ _) (g := x) (.inl rfl) 21 _).set (g := B) (.inr rfl) 1220 _).drew
      exact (kk.block C (Array.getElem?_eq_some_iff.1 hC').1 (fun h => by
        rcases h with h | h
        · exact hxC h.symm
        · exact hBC h.symm)).trans hC'

end Go.Proofs.Ybulksnw.Park
