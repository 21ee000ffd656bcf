/-
  THE WALKS of seat b6600950aM, third part: cloneBytes.
-/
import Derived.Test.Qxb6600950aModsWalkB
import Derived.Lib.SliceRun
import Derived.Laws.CopyOwn
namespace Go.Proofs.Qxb6600950aMods
open Go.RowKit

theorem Trym.info5 : (Trym.prog.info? 5).map (fun i => (i.zero, i.size, i.bytes)) = some (some (.int .u8 0), 1, 1) := by kernel_rfl
theorem Trym.size5 : (Trym.prog.info? 5).map (·.size) = some 1 := by kernel_rfl

theorem clone_nil (w : World) :
    Calls Trym.prog 7 #[.slice none 0 0] w fun e w' => e = .returned (.slice none 0 0) ∧ w' = w := by
  have q22 : ∀ (w : World) (a : Option Addr) (n c n' c' : Nat), (binOp .eql 22 (.slice a n c) (.slice none n' c')).run Trym.prog w = .ok (.bool a.isNone) w := fun w a n c n' c' => Lib.run_eql_slice_nil w _ _ a n c n' c' Trym.underlying22
  go_enter Trym.func7, Trym.ntmps7
  go_wp2
  go_ret
  exact ⟨rfl, rfl⟩

/-- A row that lies in a block from its head on: its elements can be read. -/
theorem has_row {w : World} {g n cap : Nat} {cur : List Value} {t : TypeId} {m : Nat × Nat} (zs : List Int) (hn : zs.length = n) (hg : w.heap[g]? = some (.cells cur.toArray t m))
    (hc : ∀ i, i < zs.length → cur[i]? = some (.int .u8 (zs.getD i 0))) : Has w (.slice (some ⟨g, 0, none⟩) n cap) zs := by
  subst hn
  refine ⟨_, _, rfl, fun h => (by cases h), fun _ => ⟨g, 0, rfl, fun i hi => ?_⟩⟩
  have := hc i hi
  simp [World.cell?, hg, this]

set_option maxHeartbeats 800000 in
theorem clone_some (x : Addr) (len cap : Nat) (zs : List Int) (w : World) (hlen : len ≤ 1048576) (hzl0 : len ≤ zs.length)
    (hc0 : ∀ i, i < zs.length → w.cell? (x.add i) = some (.int .u8 (zs.getD i 0))) :
    Calls Trym.prog 7 #[.slice (some x) len cap] w fun e w' => (∃ v, e = .returned v ∧ Has w' v (zs.take len)) ∧ Below w.heap.size w w' := by
  have q22 : ∀ (w : World) (a : Option Addr) (n c n' c' : Nat), (binOp .eql 22 (.slice a n c) (.slice none n' c')).run Trym.prog w = .ok (.bool a.isNone) w := fun w a n c n' c' => Lib.run_eql_slice_nil w _ _ a n c n' c' Trym.underlying22
  obtain ⟨i0, hi, hz0, hz1, hz2⟩ := info_parts Trym.info5
  have HI : Hid (Trym.prog.info? 5 = some i0) := hi
  have HZ0 : Hid (i0.zero = some (.int .u8 0)) := hz0
  have HZ1 : Hid (i0.size = 1) := hz1
  have HZ2 : Hid (i0.bytes = 1) := hz2
  have HZL : Hid (len ≤ zs.length) := hzl0
  have HC : Hid (∀ i, i < zs.length → w.cell? (x.add i) = some (.int .u8 (zs.getD i 0))) := hc0
  clear hi hz0 hz1 hz2 hzl0 hc0
  go_enter Trym.func7, Trym.ntmps7
  go_wp2_with (at_make; refine wpList_make_full _ rfl _ _ 22 rfl w.heap.size 5 i0 (.int .u8 0) 1 Trym.underlying22 HI.out HZ0.out HZ1.out _ _ _ _ len rfl rfl rfl rfl (by rw [HZ2.out]; omega) (by unfold maxLen; omega) (Nat.le_refl _) ?_)
  intro w1 hown hgrow
  have hb1 : Below w.heap.size w w1 := (Below.refl _ _).grown hgrow (Nat.le_refl _) (by simp)
  obtain ⟨cur, hcur, hsz⟩ : ∃ cur : List Value, w1.heap[w.heap.size]? = some (.cells cur.toArray 5 (0, 0)) ∧ cur.length = len := by
    obtain ⟨_, h | ⟨g, cp, cur, hv, _, hh, _, _, hs, _⟩⟩ := hown
    · simp at h
    · simp at hv
      obtain ⟨rfl, rfl⟩ := hv
      exact ⟨cur.toList, hh, by simpa using hs⟩
  have HCUR : Hid (w1.heap[w.heap.size]? = some (.cells cur.toArray 5 (0, 0))) := hcur
  have HSZ : Hid (cur.length = len) := hsz
  clear hown hgrow hcur hsz
  have HB1 : Hid (Below w.heap.size w w1) := hb1
  have hX1 : ((zs.take len).map (Value.int .u8)).length = len := by have := HZL.out; simp; omega
  have hX2 : ∀ j v, ((zs.take len).map (Value.int .u8))[j]? = some v → w1.cell? (x.add j) = some v := by
    intro j v hv
    obtain ⟨hj, rfl⟩ : ∃ _ : j < len, v = .int .u8 (zs.getD j 0) := by
      have hzl := HZL.out
      by_cases hj : j < len
      · refine ⟨hj, ?_⟩
        have hjz : j < zs.length := by omega
        simp [hj, hjz] at hv
        simp [← hv, List.getD, hjz]
      · simp [List.getElem?_take, hj] at hv
    have hjz : j < zs.length := by have := HZL.out; omega
    have hlt : (x.add j).block < w.heap.size := World.block_lt_of_cell? _ _ (HC.out j hjz)
    rw [HB1.out.cell hlt]
    exact HC.out j hjz
  have hX3 : ∀ u ∈ (zs.take len).map (Value.int .u8), u.oneCell' = true := ints_oneCell _ _
  have hX4 : ∀ i, i < (zs.take len).length → (splice cur 0 ((zs.take len).map (Value.int .u8)))[i]? = some (.int .u8 ((zs.take len).getD i 0)) := by
    intro i hi
    have h2 : len ≤ zs.length := HZL.out
    have h3 : i < len := by simp at hi; omega
    have h5 : min len zs.length = len := by omega
    simp [splice, h3, h5, List.getElem?_append, List.getD]
  obtain ⟨X, hX⟩ : ∃ X, X = (zs.take len).map (Value.int .u8) := ⟨_, rfl⟩
  rw [← hX] at hX1 hX2 hX3 hX4
  have X1 : Hid (X.length = len) := hX1
  have X2 : Hid (∀ j v, X[j]? = some v → w1.cell? (x.add j) = some v) := hX2
  have X3 : Hid (∀ u ∈ X, u.oneCell' = true) := hX3
  have X4 : Hid (∀ i, i < (zs.take len).length → (splice cur 0 X)[i]? = some (.int .u8 ((zs.take len).getD i 0))) := hX4
  clear hX hX1 hX2 hX3 hX4
  go_wp2_with (refine wpList_copy_splice rfl (.tmp 9) (.tmp 10) 22 22 rfl 5 Trym.underlying22 Trym.size5 (some ⟨w.heap.size, 0, none⟩) (some x) len len len cap rfl rfl w.heap.size 0 cur 5 HCUR.out X (by rw [X1.out]; exact (Nat.min_self len).symm) (fun _ => ⟨rfl, x, rfl, X2.out⟩) (by rw [X1.out, HSZ.out]; omega) X3.out w.heap.size w HB1.out (Nat.le_refl _) ?_)
  intro w2 hg2 hb2
  go_wp2
  go_ret
  exact ⟨⟨_, rfl, has_row (zs.take len) (by have := HZL.out; simp; omega) hg2.out X4.out⟩, hb2⟩

/-- cloneBytes of whatever came in: the copy's elements are those of the slice; nothing that was there has turned. -/
theorem clone_any (a : Option Addr) (len cap : Nat) (zs : List Int) (w : World) (hlen : len ≤ 1048576) (hnil : a = none → len = 0 ∧ cap = 0) (hzl : len ≤ zs.length)
    (hc : ∀ x, a = some x → ∀ i, i < zs.length → w.cell? (x.add i) = some (.int .u8 (zs.getD i 0))) :
    Calls Trym.prog 7 #[.slice a len cap] w fun e w' => (∃ v, e = .returned v ∧ Has w' v (zs.take len)) ∧ Below w.heap.size w w' := by
  cases a with
  | none =>
    obtain ⟨rfl, rfl⟩ := hnil rfl
    refine (clone_nil w).mono ?_
    rintro e w' ⟨rfl, rfl⟩
    exact ⟨⟨_, rfl, none, 0, by simp, fun _ => rfl, fun h => by simp at h⟩, Below.refl _ _⟩
  | some x => exact clone_some x len cap zs w hlen hzl (hc x rfl)
end Go.Proofs.Qxb6600950aMods
