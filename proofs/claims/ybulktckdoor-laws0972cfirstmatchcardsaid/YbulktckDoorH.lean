import Derived.Test.YbulktckDoorD
import Derived.Test.YbulktckDoorN
namespace Go.Proofs.YbulktckDoor.Net
open Go.RowKit

/-- One entry of the law's input. -/
structure En where
  a : Int
  b : Int
  c : Int
  d : Int
  n : Int
  k : Int
  v6 : Bool

structure En.Ok (e : En) : Prop where
  ha : 0 ≤ e.a ∧ e.a ≤ 255
  hb : 0 ≤ e.b ∧ e.b ≤ 255
  hc : 0 ≤ e.c ∧ e.c ≤ 255
  hd : 0 ≤ e.d ∧ e.d ≤ 255
  hn : 0 ≤ e.n ∧ e.n ≤ 255
  hk : 0 ≤ e.k ∧ e.k ≤ 255

def En.w (e : En) : Int := wd e.a e.b e.c e.d
def En.pl (e : En) : Int := e.n % 33
def En.z (p4 p6 : Addr) (e : En) : Addr := if e.v6 then p6 else p4
def En.bl (e : En) : Int := if e.v6 then 96 + e.pl + 1 else e.pl + 1
def En.hit (v : Int) (e : En) : Bool := !e.v6 && (xs v e.w e.pl == 0)

theorem En.Ok.pl_bd {e : En} (_h : e.Ok) : 0 ≤ e.pl ∧ e.pl ≤ 32 := by unfold En.pl; omega
theorem En.Ok.w_bd {e : En} (h : e.Ok) : 0 ≤ e.w ∧ e.w < 4294967296 := wd_bd _ _ _ _ h.ha.1 h.ha.2 h.hb.1 h.hb.2 h.hc.1 h.hc.2 h.hd.1 h.hd.2

theorem contains_e (e : En) (h : e.Ok) (v : Int) (v0 : 0 ≤ v) (v1 : v < 4294967296) (p4 p6 : Addr) (w : World) (Z : ZZ w p4 p6) :
    Calls Ybad.prog 15 #[pfx 0 (lo4 e.w) (e.z p4 p6) e.bl, addr 0 (lo4 v) p4] w fun r w' => r = .returned (.bool (e.hit v)) ∧ Below w.heap.size w w' := by
  obtain ⟨q0, q1⟩ := h.pl_bd
  obtain ⟨w0, w1⟩ := h.w_bd
  cases hv : e.v6
  · have e1 : e.z p4 p6 = p4 := by simp [En.z, hv]
    have e2 : e.bl = e.pl + 1 := by simp [En.bl, hv]
    have e3 : e.hit v = (xs v e.w e.pl == 0) := by simp [En.hit, hv]
    rw [e1, e2, e3]
    obtain ⟨x0, x1⟩ := xs_bd v e.w e.pl v0 v1 w0 w1
    exact contains4 v e.w (e.pl + 1) (xs v e.w e.pl) (by omega) (by omega) (fun W => shift64 v e.w e.pl v0 v1 w0 w1 q0 q1 W) (u32wrap _ x0 x1) p4 p6 w Z
  · have e1 : e.z p4 p6 = p6 := by simp [En.z, hv]
    have e3 : e.hit v = false := by simp [En.hit, hv]
    have e2 : e.bl = 96 + e.pl + 1 := by simp [En.bl, hv]
    rw [e1, e2, e3]
    exact contains6 v e.w _ (by omega) p4 p6 w Z

/-- The five cells of a built entry. -/
def ce (p4 p6 : Addr) (e : En) : Nat → Value
  | 0 => .int .u64 0
  | 1 => .int .u64 (lo4 e.w)
  | 2 => .pointer (some (e.z p4 p6))
  | 3 => .int .u8 e.bl
  | _ => .string (rs e.k)
def ent (p4 p6 : Addr) (e : En) : Value := .agg #[.int .u64 0, .int .u64 (lo4 e.w), .pointer (some (e.z p4 p6)), .int .u8 e.bl, .string (rs e.k)]
def ent0 : Value := .agg #[.int .u64 0, .int .u64 0, .pointer none, .int .u8 0, .string ⟨#[]⟩]

/-- The list built so far: k of N entries. -/
def BL (w : World) (B N k : Nat) (E : Nat → En) (p4 p6 : Addr) : Prop := ∃ f, w.rowIs B 43 (N * 5) f ∧ ∀ i, i < k → ∀ j, j < 5 → f (i * 5 + j) = ce p4 p6 (E i) j

theorem BL.cells {w : World} {B N k : Nat} {E : Nat → En} {p4 p6 : Addr} (h : BL w B N k E p4 p6) (hk : k ≤ N) {i : Nat} (hi : i < k) :
    w.cell? ⟨B, i * 5, none⟩ = some (.int .u64 0) ∧ w.cell? ⟨B, i * 5 + 1, none⟩ = some (.int .u64 (lo4 (E i).w)) ∧ w.cell? ⟨B, i * 5 + 2, none⟩ = some (.pointer (some ((E i).z p4 p6))) ∧ w.cell? ⟨B, i * 5 + 3, none⟩ = some (.int .u8 (E i).bl) ∧ w.cell? ⟨B, i * 5 + 4, none⟩ = some (.string (rs (E i).k)) := by
  obtain ⟨f, hr, hf⟩ := h
  refine ⟨?_, ?_, ?_, ?_, ?_⟩
  · rw [hr.cell (by omega)]; exact congrArg some (hf i hi 0 (by omega))
  · rw [hr.cell (by omega)]; exact congrArg some (hf i hi 1 (by omega))
  · rw [hr.cell (by omega)]; exact congrArg some (hf i hi 2 (by omega))
  · rw [hr.cell (by omega)]; exact congrArg some (hf i hi 3 (by omega))
  · rw [hr.cell (by omega)]; exact congrArg some (hf i hi 4 (by omega))

theorem BL.later {w w' : World} {B N k : Nat} {E : Nat → En} {p4 p6 : Addr} (h : BL w B N k E p4 p6) (hb : w'.heap[B]? = w.heap[B]?) : BL w' B N k E p4 p6 := by
  obtain ⟨f, hr, hf⟩ := h
  exact ⟨f, hr.of_block hb, hf⟩

theorem BL.lt {w : World} {B N k : Nat} {E : Nat → En} {p4 p6 : Addr} (h : BL w B N k E p4 p6) : B < w.heap.size := by
  obtain ⟨f, hr, hf⟩ := h
  exact hr.lt

def f33 (lo : Int) (z : Addr) : Nat → Value := fun i => (#[.int .u64 0, .int .u64 lo, .pointer (some z)][i]?).getD .nilIface
def f43 : Nat → Value := fun i => (#[.int .u64 0, .int .u64 0, .pointer none, .int .u8 0, .string ⟨#[]⟩][i]?).getD .nilIface

/-- Protecting's own memory at the head of a round. -/
structure PI (w X : World) (p4 p6 : Addr) (B N : Nat) (E : Nat → En) (v : Int) (i : Nat) : Prop where
  z : ZZ X p4 p6
  bel : Below w.heap.size w X
  l : BL X B N N E p4 p6
  hB : B < w.heap.size
  r0 : X.rowIs w.heap.size 33 3 (f33 (lo4 v) p4)
  r1 : X.rowIs (w.heap.size + 1) 43 5 f43
  miss : ∀ j, j < i → (E j).hit v = false

theorem PI.next {w X X' : World} {p4 p6 : Addr} {B N : Nat} {E : Nat → En} {v : Int} {i : Nat} (h : PI w X p4 p6 B N E v i) (o : Obj) (hb : Below (X.alloc o).heap.size (X.alloc o) X') (hm : (E i).hit v = false) : PI w X' p4 p6 B N E v (i + 1) := by
  have hb' := bel_past1 hb
  refine ⟨h.z.later hb' (Nat.le_refl _), h.bel.trans (hb'.mono h.bel.size), h.l.later (hb'.block _ h.l.lt), h.hB, h.r0.of_block (hb'.block _ h.r0.lt), h.r1.of_block (hb'.block _ h.r1.lt), fun j hj => ?_⟩
  by_cases e : j = i
  · subst e; exact hm
  · exact h.miss j (by omega)

theorem PI.start {w X : World} {p4 p6 : Addr} {B N : Nat} {E : Nat → En} (v : Int) (z : Addr) (Z : ZZ w p4 p6) (L : BL w B N N E p4 p6)
    (hb : Below ((w.alloc (.cells #[.int .u64 0, .int .u64 (lo4 v), .pointer (some z)] 33)).alloc (.cells #[.int .u64 0, .int .u64 0, .pointer none, .int .u8 0, .string ⟨#[]⟩] 43)).heap.size ((w.alloc (.cells #[.int .u64 0, .int .u64 (lo4 v), .pointer (some z)] 33)).alloc (.cells #[.int .u64 0, .int .u64 0, .pointer none, .int .u8 0, .string ⟨#[]⟩] 43)) X) :
    PI w (((X.setCell ⟨w.heap.size, 0, none⟩ (.int .u64 0)).setCell ⟨w.heap.size, 1, none⟩ (.int .u64 (lo4 v))).setCell ⟨w.heap.size, 2, none⟩ (.pointer (some p4))) p4 p6 B N E v 0 := by
  have hb' := bel_past hb
  have hsz : w.heap.size + 2 ≤ X.heap.size := by have := hb.size; simp only [World.size_alloc] at this; omega
  have R0 := (World.rowIs_alloc w #[.int .u64 0, .int .u64 (lo4 v), .pointer (some z)] 33 (f33 (lo4 v) z) (fun i hi => by rw [Array.getElem?_eq_getElem hi]; simp [f33, Array.getElem?_eq_getElem hi])).alloc (.cells #[.int .u64 0, .int .u64 0, .pointer none, .int .u8 0, .string ⟨#[]⟩] 43)
  have R1 := World.rowIs_alloc (w.alloc (.cells #[.int .u64 0, .int .u64 (lo4 v), .pointer (some z)] 33)) #[.int .u64 0, .int .u64 0, .pointer none, .int .u8 0, .string ⟨#[]⟩] 43 f43 (fun i hi => by rw [Array.getElem?_eq_getElem hi]; simp [f43, Array.getElem?_eq_getElem hi])
  rw [World.size_alloc] at R1
  have Q0 := R0.of_block (hb.block _ R0.lt)
  have Q1 := R1.of_block (hb.block _ R1.lt)
  have b3 := (((hb'.setCell (p := ⟨w.heap.size, 0, none⟩) (Nat.le_refl _) (.int .u64 0)).setCell (p := ⟨w.heap.size, 1, none⟩) (Nat.le_refl _) (.int .u64 (lo4 v))).setCell (p := ⟨w.heap.size, 2, none⟩) (Nat.le_refl _) (.pointer (some p4)))
  refine ⟨Z.later b3 (Nat.le_refl _), b3, L.later (b3.block _ L.lt), L.lt, ?_, ?_, fun j hj => by omega⟩
  · refine (((Q0.set 0 _).set 1 _).set 2 _).congr fun i hi => ?_
    match i, hi with
    | 0, _ => rfl
    | 1, _ => rfl
    | 2, _ => rfl
  · exact ((Q1.setOther (a := ⟨w.heap.size, 0, none⟩) (by show w.heap.size + 1 ≠ w.heap.size; omega) _).setOther (a := ⟨w.heap.size, 1, none⟩) (by show w.heap.size + 1 ≠ w.heap.size; omega) _).setOther (a := ⟨w.heap.size, 2, none⟩) (by show w.heap.size + 1 ≠ w.heap.size; omega) _

end Go.Proofs.YbulktckDoor.Net
