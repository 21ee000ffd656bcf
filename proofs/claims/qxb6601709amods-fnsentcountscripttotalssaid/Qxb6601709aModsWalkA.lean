/-
  THE WALKS of seat b6601709aM, first part: small pieces; the struct that is laid anew field by field.
-/
import Derived.Test.Qxb6601709aModsRows
import Derived.WalkKit
namespace Go.Proofs.Qxb6601709aMods
open Go.RowKit

set_option maxHeartbeats 400000 in
theorem traffic_any (d b : Int) (w : World) :
    Calls Trym.prog 13 #[.agg #[.int .i64 d, .int .i64 b]] w fun e w' => e = .returned (.agg #[.int .i64 d, .int .i64 b]) ∧ w' = (w.alloc (.cells #[.int .i64 d, .int .i64 b] 23)).alloc (.cells #[.int .i64 d, .int .i64 b] 29) := by
  go_enter Trym.func13, Trym.ntmps13
  go_wp2
  exact bodyPost_ret (v := .agg #[.int .i64 d, .int .i64 b]) (by simp [results, Trym.results13, go_sem]) rfl ⟨rfl, rfl⟩

set_option maxHeartbeats 400000 in
theorem row_any (d b : Int) (w : World) :
    Calls Trym.prog 15 #[.agg #[.int .i64 d, .int .i64 b]] w fun e w' => e = .returned (.agg #[.int .i64 d, .int .i64 b]) ∧ w' = (w.alloc (.cells #[.int .i64 d, .int .i64 b] 29)).alloc (.cells #[.int .i64 d, .int .i64 b] 23) := by
  go_enter Trym.func15, Trym.ntmps15
  go_wp2
  exact bodyPost_ret (v := .agg #[.int .i64 d, .int .i64 b]) (by simp [results, Trym.results15, go_sem]) rfl ⟨rfl, rfl⟩

set_option maxHeartbeats 400000 in
theorem bound_yes (X : Array Value) (a : Option Addr) (len cap : Nat) (w : World) (h : len ≤ 1048576) :
    Calls Trym.prog 5 #[.agg X, .slice a len cap] w fun e w' => e = .returned (.bool true) ∧ w' = w.alloc (.cells X 25) := by
  go_enter Trym.func5, Trym.ntmps5
  go_wp2
  go_ret
  exact ⟨rfl, rfl⟩

set_option maxHeartbeats 400000 in
theorem bound_no (X : Array Value) (a : Option Addr) (len cap : Nat) (w : World) (h : 1048576 < len) (hm : len ≤ maxLen) :
    Calls Trym.prog 5 #[.agg X, .slice a len cap] w fun e w' => e = .returned (.bool false) ∧ w' = w.alloc (.cells X 25) := by
  unfold maxLen at hm
  go_enter Trym.func5, Trym.ntmps5
  go_wp2
  go_ret
  exact ⟨rfl, rfl⟩

set_option maxHeartbeats 400000 in
theorem tcount_any (g o : Nat) (d b s : Int) (w : World) (h0 : w.cell? ⟨g, o, none⟩ = some (.int .i64 d)) (h1 : w.cell? ⟨g, o + 1, none⟩ = some (.int .i64 b))
    (f0 : w.frozen? ⟨g, o, none⟩ = false) (f1 : w.frozen? ⟨g, o + 1, none⟩ = false) :
    Calls Trym.prog 16 #[.pointer (some ⟨g, o, none⟩), .int .i64 s] w fun e w' => e = .returned (.tuple #[]) ∧ w' = (w.setCell ⟨g, o, none⟩ (.int .i64 (wrap64 (d + 1)))).setCell ⟨g, o + 1, none⟩ (.int .i64 (wrap64 (b + s))) := by
  go_enter Trym.func16, Trym.ntmps16
  go_wp2
  go_end0
  exact ⟨rfl, rfl⟩

/-- A new block behind whatever a call has laid. -/
theorem below_new {a w : World} (h : Below a.heap.size a w) (o : Obj) : Below a.heap.size a (w.alloc o) := h.alloc h.size o
end Go.Proofs.Qxb6601709aMods
