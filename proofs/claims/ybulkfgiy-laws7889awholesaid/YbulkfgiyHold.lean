/-
  WALK for 'LawS7889AWhole': '(*Lease).hold'.
-/
import Derived.Test.YbulkfgiyAdd
import Derived.Deep.RegionWith
namespace Go.Proofs.Ybulkfgiy.lawS7889AWhole
open Go.ChangeShapes Go.WideShapes Go.ChangeAt Go.RowKit

set_option maxHeartbeats 400000 in
/-- 'hold': four new blocks: the holding that is handed back, the boxed 'sent', and Add's two. 'D': the lesser of the two durations, as the walk writes it. -/
theorem hold_any (lb : Nat) (T ttl D wk ls pr Wo Eo Ws Es : Int) (sv rv : Option Addr) (w : World) (hT : w.cell? ⟨lb, 6, none⟩ = some (.int .i64 T)) (hlb : lb < w.heap.size)
    (hW0 : 0 ≤ Ws) (hW1 : Ws < 1000000000) (hd0 : -9223372036854775808 ≤ D) (hd1 : D ≤ 9223372036854775807) (hD : (if IntKind.i64.wrap (ttl * 1000000000) < T then IntKind.i64.wrap (ttl * 1000000000) else T) = D) :
    Calls Yba.prog 6 #[.pointer (some ⟨lb, 0, none⟩), .agg #[.int .i64 wk, .int .i64 ls, .int .u64 Wo, .int .i64 Eo, .pointer none, .int .u64 Wo, .int .i64 Eo, .pointer none, .int .i64 pr, .pointer sv, .pointer rv], .agg #[.int .u64 Ws, .int .i64 Es, .pointer none], .int .i64 ttl] w
      fun e w' => e = .returned (.pointer (some ⟨w.heap.size, 0, none⟩)) ∧
        w' = ((((w.alloc (.cells #[.int .i64 wk, .int .i64 ls, .int .u64 Ws, .int .i64 Es, .pointer none, .int .u64 (addN Ws D), .int .i64 (addE Es (addS Ws D)), .pointer none, .int .i64 pr, .pointer sv, .pointer rv] 59)).alloc
          (.cells #[.int .u64 Ws, .int .i64 Es, .pointer none] 56)).alloc (.cells #[.int .u64 (addN Ws D), .int .i64 (addE Es (addS Ws D)), .pointer none] 56)).alloc
          (.cells #[.int .u64 (addN Ws D), .int .i64 (addE Es (addS Ws D)), .pointer none] 56)).drew := by
  go_enter Yba.func6, Yba.ntmps6
  go_wp2_with fail
  go_region_with (go_at_call 5; refine (add_any Ws Es D _ hW0 hW1 hd0 hd1).mono ?_; rintro e w' ⟨rfl, rfl⟩)
  all_goals go_wp2
  all_goals go_ret
  all_goals exact ⟨rfl, rfl⟩
end Go.Proofs.Ybulkfgiy.lawS7889AWhole
