/-
  THE WALKS of seat b6601709aM: zzRows.
-/
import Derived.Test.Qxb6601709aModsWalkA
namespace Go.Proofs.Qxb6601709aMods
open Go.RowKit

set_option maxRecDepth 100000 in
set_option maxHeartbeats 4000000 in
theorem rows_any (z0 z1 z2 z3 z4 z5 z6 z7 z8 z9 z10 z11 z12 z13 z14 z15 : Int) (w : World) :
    Calls Trym.prog 9 #[.agg #[.int .i64 z0, .int .i64 z1, .int .i64 z2, .int .i64 z3, .int .i64 z4, .int .i64 z5, .int .i64 z6, .int .i64 z7, .int .i64 z8, .int .i64 z9, .int .i64 z10, .int .i64 z11, .int .i64 z12, .int .i64 z13, .int .i64 z14, .int .i64 z15]] w fun e w' => e = .returned (.agg #[.int .i64 z0, .int .i64 z1, .int .i64 z2, .int .i64 z3, .int .i64 z4, .int .i64 z5, .int .i64 z6, .int .i64 z7, .int .i64 z8, .int .i64 z9, .int .i64 z10, .int .i64 z11, .int .i64 z12, .int .i64 z13, .int .i64 z14, .int .i64 z15]) ∧ Below w.heap.size w w' := by
  go_enter Trym.func9, Trym.ntmps9
  go_wp2
  refine bodyPost_ret (v := .agg #[.int .i64 z0, .int .i64 z1, .int .i64 z2, .int .i64 z3, .int .i64 z4, .int .i64 z5, .int .i64 z6, .int .i64 z7, .int .i64 z8, .int .i64 z9, .int .i64 z10, .int .i64 z11, .int .i64 z12, .int .i64 z13, .int .i64 z14, .int .i64 z15]) (by simp [results, Trym.results9, go_sem]) rfl ⟨rfl, ?_⟩
  repeat (first | exact Below.refl _ _ | refine below_new ?_ _)
end Go.Proofs.Qxb6601709aMods
