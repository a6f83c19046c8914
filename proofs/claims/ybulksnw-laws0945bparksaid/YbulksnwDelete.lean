import Derived.Test.YbulksnwFlag
import Derived.RegionTactic
import Derived.BigRegion
import Derived.Deep.RegionLaw
namespace Go.Proofs.Ybulksnw.Recl
open Go.RowKit

/-- The same value into m cells from o on. -/
theorem row_sets {t b n : Nat} (v : Value) : ∀ (m o : Nat) (w : World) (f : Nat → Value), w.rowIs b t n f → (w.setCells b o (List.replicate m v)).rowIs b t n (fun j => if o ≤ j ∧ j < o + m then v else f j)
  | 0, o, w, f, h => h.congr fun j _ => by rw [if_neg (by omega)]
  | m + 1, o, w, f, h => by
    have h1 := row_sets v m (o + 1) (w.setCell ⟨b, o, none⟩ v) _ (h.set o v)
    refine World.rowIs.congr (f := _) (w := (w.setCell ⟨b, o, none⟩ v).setCells b (o + 1) (List.replicate m v)) h1 fun j _ => ?_
    by_cases e : j = o
    · subst e
      rw [if_neg (by omega), if_pos rfl, if_pos (by omega)]
    · by_cases e2 : o + 1 ≤ j ∧ j < o + 1 + m
      · rw [if_pos e2, if_pos (by omega)]
      · rw [if_neg e2, if_neg e, if_neg (by omega)]

theorem row_sets_other {t b b' n : Nat} {f : Nat → Value} (hne : b' ≠ b) : ∀ (vs : List Value) (o : Nat) (w : World), w.rowIs b' t n f → (w.setCells b o vs).rowIs b' t n f
  | [], _, _, h => h
  | v :: r, o, w, h => row_sets_other hne r (o + 1) (w.setCell ⟨b, o, none⟩ v) (h.setOther hne v)

theorem below_sets {B b : Nat} {W : World} (hb : B ≤ b) : ∀ (vs : List Value) (o : Nat) (w : World), Below B W w → Below B W (w.setCells b o vs)
  | [], _, _, h => h
  | v :: r, o, w, h => below_sets hb r (o + 1) (w.setCell ⟨b, o, none⟩ v) (h.setCell (p := ⟨b, o, none⟩) hb v)

theorem size_sets {b : Nat} : ∀ (vs : List Value) (o : Nat) (w : World), (w.setCells b o vs).heap.size = w.heap.size
  | [], _, _ => rfl
  | v :: r, o, w => (size_sets r (o + 1) (w.setCell ⟨b, o, none⟩ v)).trans (by simp [World.setCell])

theorem clear_run {X c k n : Nat} {f : Nat → Value} {w : World} (hx : w.rowIs X 39 c f) (hk : k < n) (hnc : n ≤ c) (ty : TypeId) (cap : Nat) :
    (Builtin.clear_ #[40] ty #[.slice (some ⟨X, k, none⟩) (n - k) cap]).run Yba.prog w = .ok (.tuple #[]) (w.setCells X k (List.replicate (n - k) (.pointer none))) := by
  obtain ⟨i, hi, hz, hs, hb⟩ := info39
  obtain ⟨m, hm⟩ : ∃ m, n - k = m + 1 := ⟨n - k - 1, by omega⟩
  have ez : (Builtin.zeroCells (Value.cells (.pointer none)) (m + 1)).toList = List.replicate (m + 1) (.pointer none) := by
    apply List.ext_getElem
    · simp [Builtin.zeroCells, Value.cells]
    · intro j h1 h2
      simp [Builtin.zeroCells, Value.cells, Nat.mod_one]
  have hst := run_storeCells_cells (P := Yba.prog) X k (List.replicate (m + 1) (.pointer none)) 0 w (fun j hj => by
      rw [List.length_replicate] at hj
      rw [Nat.add_zero, hx.cell (by omega)]; rfl) (fun j _ => hx.frozen _) (fun v hv => by rw [List.eq_of_mem_replicate hv]; rfl)
  rw [Nat.add_zero] at hst
  rw [hm]
  simp only [Builtin.clear_]
  simp [run_underlying Yba.underlying40, zeroValue, typeInfo, hi, hz, ez, hst]

set_option maxRecDepth 100000 in
theorem delete_any (X n c k : Nat) (f : Nat → Value) (w : World) (hx : w.rowIs X 39 c f) (hk : k < n) (hnc : n ≤ c) (hn : n ≤ 2000) :
    Calls Yba.prog 28 #[.slice (some ⟨X, 0, none⟩) n c, .int .i64 (k : Int), .int .i64 (n : Int)] w fun e w' => e = .returned (.slice (some ⟨X, 0, none⟩) k c) ∧ w' = w.drew.setCells X k (List.replicate (n - k) (.pointer none)) := by
  have hkn : (k : Int) < (n : Int) := by omega
  have hcl := fun ty cap => clear_run hx.drew hk hnc ty cap
  have hkne : ¬ k = n := by omega
  clear hx
  by_cases hcn : c = n
  · subst hcn
    go_enter Yba.func28, Yba.ntmps28
    go_wp2
    go_region
    go_wp2
    go_ret
    exact ⟨rfl, rfl⟩
  · have hncI : (n : Int) ≤ (c : Int) := by omega
    have hkc : k ≤ c := by omega
    have hkc' : ¬ c = k := by omega
    go_enter Yba.func28, Yba.ntmps28
    go_wp2
    go_region
    go_wp2
    go_ret
    exact ⟨rfl, rfl⟩
end Go.Proofs.Ybulksnw.Recl
