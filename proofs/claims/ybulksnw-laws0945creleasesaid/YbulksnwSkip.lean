import Derived.Test.YbulksnwRelease
import Derived.Test.YbulksnwAtomics
namespace Go.Proofs.Ybulksnw.Queue
open Go.RowKit

set_option maxRecDepth 100000 in
set_option maxHeartbeats 1000000 in
theorem rel_skip (g c : Nat) (lim adm n pen : Int) (T : TypeId) (x hd tl fi sk : Value) (hl : 1 ≤ lim) (ha0 : -1000 ≤ adm) (ha1 : adm ≤ 1000) (hn0 : 1 ≤ n) (hn1 : n ≤ 100000) (hp0 : -100000 ≤ pen) (hp1 : pen ≤ 100000) (w : World) (hcg : ¬ g = c)
    (c1 : w.cell? ⟨g, 1, none⟩ = some (.iface 147 (.pointer (some ⟨c, 0, none⟩)))) (cc : w.cell? ⟨c, 0, none⟩ = some (.iface T x)) (c13 : w.cell? ⟨g, 13, none⟩ = some (.int .i64 pen))
    (c15 : w.cell? ⟨g, 15, none⟩ = some (.int .i64 lim)) (c16 : w.cell? ⟨g, 16, none⟩ = some (.int .i64 adm)) (c17 : w.cell? ⟨g, 17, none⟩ = some hd) (c18 : w.cell? ⟨g, 18, none⟩ = some tl) (c19 : w.cell? ⟨g, 19, none⟩ = some fi) (c20 : w.cell? ⟨g, 20, none⟩ = some (.int .i64 n)) (c23 : w.cell? ⟨g, 23, none⟩ = some sk) (fg : ∀ i, w.frozen? ⟨g, i, none⟩ = false) :
    Calls Yba.prog 23 #[.pointer (some ⟨g, 0, none⟩)] w fun e w' => e = .returned (.tuple #[.nilIface, .int .i64 n]) ∧
      w' = (((((((w.setCell ⟨g, 16, none⟩ (.int .i64 (adm - 1))).setCell ⟨g, 17, none⟩ (.pointer none)).setCell ⟨g, 18, none⟩ (.pointer none)).setCell ⟨g, 19, none⟩ (.int .i64 0)).setCell ⟨g, 20, none⟩ (.int .i64 0)).setCell ⟨g, 13, none⟩ (.int .i64 (pen - n))).setCell ⟨g, 23, none⟩ (.int .u32 1)).drew := by
  have hm := method_err
  have hgc : ¬ c = g := fun h => hcg h.symm
  go_enter Yba.func23, Yba.ntmps23
  go_wp2_with (first | (go_at_call 24; go_in) | (go_at_call 106; go_in))
  refine (Atom.boolStore g 23 true sk _ ?_ ?_).mono ?_
  · go_simp
  · go_simp
  rintro e w' ⟨rfl, rfl⟩
  go_wp2
  go_ret2
  exact ⟨rfl, rfl⟩
end Go.Proofs.Ybulksnw.Queue
