/-
  THE WALKS of seat b6601709aM: the contracts over rows of numbers; a whole struct into the block that was made last.
-/
import Derived.Test.Qxb6601709aModsWalkB
import Derived.Test.Qxb6601709aModsWalkC
import Derived.Test.Qxb6601709aModsWalkS
import Derived.Test.Qxb6601709aModsWalkR
import Derived.Test.Qxb6601709aModsWalkT
import Derived.Deep.WholeRow
namespace Go.Proofs.Qxb6601709aMods
open Go.RowKit

/-- A row of numbers as cells. -/
def cel (L : List Int) : Array Value := (L.map (Value.int .i64)).toArray
theorem cel_size (L : List Int) : (cel L).size = L.length := by simp [cel]
theorem cel_one (L : List Int) : (cel L).all (·.oneCell') = true := by
  rw [Array.all_eq_true_iff_forall_mem]
  intro v hv
  simp [cel] at hv
  obtain ⟨_, _, rfl⟩ := hv
  rfl
theorem cel_at {w : World} {g : Nat} {L : List Int} {t : TypeId} {f : Nat × Nat} (h : w.heap[g]? = some (.cells (cel L) t f)) (j : Nat) (hj : j < L.length) : w.cell? ⟨g, j, none⟩ = some (.int .i64 (L.getD j 0)) := by
  rw [cell_of_row w g j _ t _ h]
  simp [cel, List.getD, hj]

theorem sentL (L : List Int) (h : L.length = 16) (w : World) : Calls Trym.prog 7 #[.agg (cel L)] w fun e w' => e = .returned (.agg (cel L)) ∧ Below w.heap.size w w' := by
  obtain ⟨t0, t1, t2, t3, t4, t5, t6, t7, t8, t9, t10, t11, t12, t13, t14, t15, rfl⟩ := Pl.list16 L h
  exact sent_any t0 t1 t2 t3 t4 t5 t6 t7 t8 t9 t10 t11 t12 t13 t14 t15 w
theorem rowsL (L : List Int) (h : L.length = 16) (w : World) : Calls Trym.prog 9 #[.agg (cel L)] w fun e w' => e = .returned (.agg (cel L)) ∧ Below w.heap.size w w' := by
  obtain ⟨t0, t1, t2, t3, t4, t5, t6, t7, t8, t9, t10, t11, t12, t13, t14, t15, rfl⟩ := Pl.list16 L h
  exact rows_any t0 t1 t2 t3 t4 t5 t6 t7 t8 t9 t10 t11 t12 t13 t14 t15 w
theorem srowsL (L : List Int) (h : L.length = 16) (w : World) : Calls Trym.prog 10 #[.agg (cel L)] w fun e w' => e = .returned (.agg (cel L)) ∧ Below w.heap.size w w' := by
  obtain ⟨t0, t1, t2, t3, t4, t5, t6, t7, t8, t9, t10, t11, t12, t13, t14, t15, rfl⟩ := Pl.list16 L h
  exact srows_any t0 t1 t2 t3 t4 t5 t6 t7 t8 t9 t10 t11 t12 t13 t14 t15 w

/-- A whole struct or array into the block that was made last. -/
theorem wpList_store_new {ops : Array Oper} {rest : List Oper} {o : Oper} {a : Act} {w : World} {Q : Exit → Act → World → Prop} (hgd : o.guard = none) (ty : TypeId) (x y : Operand) (ho : o.op = .store ty x y)
    (cells : Array Value) (hx : a.eval x = .pointer (some ⟨w.heap.size, 0, none⟩)) (hy : a.eval y = .agg cells)
    (old : Array Value) (hi : (Trym.prog.info? ty).map (·.size) = some cells.size) (hold : old.size = cells.size) (h1 : cells.all (·.oneCell') = true)
    (h : wpList Trym.prog ops Q rest (a.put o.dst undef) (w.alloc (.cells cells ty))) : wpList Trym.prog ops Q (o :: rest) a (w.alloc (.cells old ty)) := by
  refine wpList_store_row hgd ty x y ho w.heap.size cells hx hy ty old (heap_alloc_last w _) hi hold h1 ?_
  rw [World.setRow_alloc_new]
  exact h

theorem Trym.size25 : (Trym.prog.info? 25).map (·.size) = some 16 := by kernel_rfl
theorem Trym.size31 : (Trym.prog.info? 31).map (·.size) = some 16 := by kernel_rfl
theorem Trym.size37 : (Trym.prog.info? 37).map (·.size) = some 16 := by kernel_rfl

theorem has_below {w w1 : World} {v : Value} {ks : List (Int × Int)} (h : Has w v ks) (hb : Below w.heap.size w w1) : Has w1 v ks := by
  obtain ⟨a, cap, rfl, h⟩ := h
  refine ⟨a, cap, rfl, fun h0 => ?_⟩
  obtain ⟨b, off, rfl, hp⟩ := h h0
  refine ⟨b, off, rfl, fun i hi => ?_⟩
  obtain ⟨h1, h2⟩ := hp i hi
  rw [hb.cell (World.block_lt_of_cell? _ _ h1), hb.cell (World.block_lt_of_cell? _ _ h2)]
  exact ⟨h1, h2⟩
theorem block_below {w w1 : World} {g : Nat} {o : Obj} (h : w.heap[g]? = some o) (hb : Below w.heap.size w w1) : w1.heap[g]? = some o := by
  rw [hb.block g (by
    by_cases hg : g < w.heap.size
    · exact hg
    · rw [Array.getElem?_eq_none (by omega)] at h; cases h)]
  exact h
end Go.Proofs.Qxb6601709aMods
