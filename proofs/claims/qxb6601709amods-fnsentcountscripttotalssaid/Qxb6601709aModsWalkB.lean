/-
  THE WALKS of seat b6601709aM: zzCopyOps.
-/
import Derived.Test.Qxb6601709aModsWalkA
import Derived.Lib.SliceRun
namespace Go.Proofs.Qxb6601709aMods
open Go.RowKit

theorem Trym.info36 : (Trym.prog.info? 36).map (fun i => (i.zero, i.size, i.bytes)) = some (some (.agg #[.int .i64 0, .int .i64 0]), 2, 16) := by kernel_rfl

theorem copy_nil (w : World) :
    Calls Trym.prog 6 #[.slice none 0 0] w fun e w' => e = .returned (.slice none 0 0) ∧ w' = w := by
  have q26 : ∀ (w : World) (a : Option Addr) (n c n' c' : Nat), (binOp .eql 26 (.slice a n c) (.slice none n' c')).run Trym.prog w = .ok (.bool a.isNone) w := fun w a n c n' c' => Lib.run_eql_slice_nil w _ _ a n c n' c' Trym.underlying26
  go_enter Trym.func6, Trym.ntmps6
  go_wp2
  go_ret
  exact ⟨rfl, rfl⟩

/-- The cells of a row of pairs. -/
def AtPairs (w : World) (b off : Nat) (ks : List (Int × Int)) : Prop :=
  ∀ i, i < ks.length → w.cell? ⟨b, off + i * 2, none⟩ = some (.int .i64 (ks.getD i (0, 0)).1) ∧ w.cell? ⟨b, off + i * 2 + 1, none⟩ = some (.int .i64 (ks.getD i (0, 0)).2)

/-- The first k pairs have been laid into block g. -/
def Laid (wr : World) (g len k : Nat) (ks : List (Int × Int)) : Prop :=
  ∃ cur : Array Value, wr.heap[g]? = some (.cells cur 36 (0, 0)) ∧ cur.size = len * 2 ∧
    ∀ i, i < k → cur[i * 2]? = some (.int .i64 (ks.getD i (0, 0)).1) ∧ cur[i * 2 + 1]? = some (.int .i64 (ks.getD i (0, 0)).2)
theorem laid_step {wr : World} {g len k : Nat} {ks : List (Int × Int)} {c : Array Value} (hc : wr.heap[g]? = some (.cells c 36 (0, 0))) (hs : c.size = len * 2) (hk : k < len)
    (hi : ∀ i, i < k → c[i * 2]? = some (.int .i64 (ks.getD i (0, 0)).1) ∧ c[i * 2 + 1]? = some (.int .i64 (ks.getD i (0, 0)).2)) {p q : Int} (hp : p = (ks.getD k (0, 0)).1) (hq : q = (ks.getD k (0, 0)).2) :
    Laid ((wr.setCell ⟨g, k * 2, none⟩ (.int .i64 p)).setCell ⟨g, k * 2 + 1, none⟩ (.int .i64 q)) g len (k + 1) ks := by
  have h1 := heap_setCell_same wr g (k * 2) c 36 (.int .i64 p) hc
  have h2 := heap_setCell_same _ g (k * 2 + 1) _ 36 (.int .i64 q) h1
  refine ⟨_, h2, by simpa using hs, fun i hi' => ?_⟩
  by_cases e : i = k
  · subst e
    rw [← hp, ← hq]
    constructor
    · rw [Array.getElem?_setIfInBounds_ne (by omega), Array.getElem?_setIfInBounds_self_of_lt (by omega)]
    · rw [Array.getElem?_setIfInBounds_self_of_lt (by simp; omega)]
  · have h3 := hi i (by omega)
    constructor
    · rw [Array.getElem?_setIfInBounds_ne (by omega), Array.getElem?_setIfInBounds_ne (by omega)]; exact h3.1
    · rw [Array.getElem?_setIfInBounds_ne (by omega), Array.getElem?_setIfInBounds_ne (by omega)]; exact h3.2
theorem laid_pairs {wr : World} {g len : Nat} {ks : List (Int × Int)} (h : Laid wr g len len ks) (hk : ks.length = len) : AtPairs wr g 0 ks := by
  obtain ⟨c, hc, _, hi⟩ := h
  intro i hi'
  have h1 := hi i (by omega)
  rw [Nat.zero_add, cell_of_row wr g _ c 36 _ hc, cell_of_row wr g _ c 36 _ hc]
  exact h1

set_option maxHeartbeats 1600000 in
theorem copy_some (x : Addr) (b off len cap : Nat) (ks : List (Int × Int)) (w : World) (hlen : len ≤ 1048576) (hk0 : ks.length = len) (hx0 : 0 < len → x = ⟨b, off, none⟩) (hc0 : AtPairs w b off ks) :
    Calls Trym.prog 6 #[.slice (some x) len cap] w fun e w' => (∃ g, e = .returned (.slice (some ⟨g, 0, none⟩) len len) ∧ AtPairs w' g 0 ks) ∧ Below w.heap.size w w' := by
  have q26 : ∀ (w : World) (a : Option Addr) (n c n' c' : Nat), (binOp .eql 26 (.slice a n c) (.slice none n' c')).run Trym.prog w = .ok (.bool a.isNone) w := fun w a n c n' c' => Lib.run_eql_slice_nil w _ _ a n c n' c' Trym.underlying26
  obtain ⟨i0, hi, hz0, hz1, hz2⟩ := info_parts Trym.info36
  have HI : Hid (Trym.prog.info? 36 = some i0) := hi
  have HZ0 : Hid (i0.zero = some (.agg #[.int .i64 0, .int .i64 0])) := hz0
  have HZ1 : Hid (i0.size = 2) := hz1
  have HZ2 : Hid (i0.bytes = 16) := hz2
  have HK : Hid (ks.length = len) := hk0
  have HC : Hid (AtPairs w b off ks) := hc0
  have HX : Hid (0 < len → x = ⟨b, off, none⟩) := hx0
  clear hi hz0 hz1 hz2 hk0 hc0 hx0
  go_enter Trym.func6, Trym.ntmps6
  go_wp2_with (at_make; refine wpList_make_full _ rfl _ _ 26 rfl w.heap.size 36 i0 (.agg #[.int .i64 0, .int .i64 0]) 2 Trym.underlying26 HI.out HZ0.out HZ1.out _ _ _ _ len rfl rfl rfl rfl (by rw [HZ2.out]; omega) (by unfold maxLen; omega) (Nat.le_refl _) ?_)
  intro w1 hown hgrow
  have HB1 : Hid (Below w.heap.size w w1) := (Below.refl _ _).grown hgrow (Nat.le_refl _) (by simp)
  obtain ⟨cur, hcur, hsz⟩ : ∃ cur : Array Value, w1.heap[w.heap.size]? = some (.cells cur 36 (0, 0)) ∧ cur.size = len * 2 := by
    obtain ⟨_, h | ⟨g, cp, cur, hv, _, hh, _, _, hs, _⟩⟩ := hown
    · simp at h
    · simp at hv
      obtain ⟨rfl, rfl⟩ := hv
      exact ⟨cur, hh, hs⟩
  have HCUR : Hid (w1.heap[w.heap.size]? = some (.cells cur 36 (0, 0))) := hcur
  have HSZ : Hid (cur.size = len * 2) := hsz
  clear hown hgrow hcur hsz
  go_wp2_with fail
  go_loopw [4] (fun i wr => ∃ k : Nat, k ≤ len ∧ i = .int .i64 k ∧ Hid (Below w.heap.size w wr) ∧ Hid (Laid wr w.heap.size len k ks)) (fun i _ => len - (intOf i).toNat)
  case atStart => exact ⟨0, Nat.zero_le _, rfl, HB1, ⟨cur, HCUR.out, HSZ.out, fun i hi => absurd hi (Nat.not_lt_zero _)⟩⟩
  case round =>
    obtain ⟨k, hk, rfl, HBr, HRr⟩ := hrel
    clear HB1 HCUR HSZ
    by_cases hlt : k < len
    · obtain rfl : x = ⟨b, off, none⟩ := HX.out (by omega)
      obtain ⟨p, q, hp, hq⟩ : ∃ p q, p = (ks.getD k (0, 0)).1 ∧ q = (ks.getD k (0, 0)).2 := ⟨_, _, rfl, rfl⟩
      obtain ⟨h1, h2⟩ := HC.out k (by rw [HK.out]; exact hlt)
      have hb : b < w.heap.size := World.block_lt_of_cell? _ _ h1
      rw [← hp, ← HBr.out.cell (by exact hb)] at h1
      rw [← hq, ← HBr.out.cell (by exact hb)] at h2
      have HP : Hid (p = (ks.getD k (0, 0)).1) := hp
      have HQ : Hid (q = (ks.getD k (0, 0)).2) := hq
      clear hp hq hb
      obtain ⟨c, hc, hcs, hci⟩ := HRr.out
      have f1 : wr.frozen? ⟨w.heap.size, k * 2, none⟩ = false := frozen_of_row wr _ _ c 36 hc
      have f2 : wr.frozen? ⟨w.heap.size, k * 2 + 1, none⟩ = false := frozen_of_row wr _ _ c 36 hc
      have g1 : wr.cell? ⟨w.heap.size, k * 2, none⟩ = some (c[k * 2]'(by omega)) := by rw [cell_of_row wr _ _ c 36 _ hc]; exact Array.getElem?_eq_getElem _
      have g2 : wr.cell? ⟨w.heap.size, k * 2 + 1, none⟩ = some (c[k * 2 + 1]'(by omega)) := by rw [cell_of_row wr _ _ c 36 _ hc]; exact Array.getElem?_eq_getElem _
      generalize c[k * 2]'(by omega) = x1 at g1
      generalize c[k * 2 + 1]'(by omega) = x2 at g2
      have HN : Hid (Laid ((wr.setCell ⟨w.heap.size, k * 2, none⟩ (.int .i64 p)).setCell ⟨w.heap.size, k * 2 + 1, none⟩ (.int .i64 q)) w.heap.size len (k + 1) ks) := laid_step hc hcs hlt hci HP.out HQ.out
      have HBn : Hid (Below w.heap.size w ((wr.setCell ⟨w.heap.size, k * 2, none⟩ (.int .i64 p)).setCell ⟨w.heap.size, k * 2 + 1, none⟩ (.int .i64 q))) := (HBr.out.setCell (Nat.le_refl _) _).setCell (Nat.le_refl _) _
      clear hc hcs hci HRr HBr
      go_wp2
      go_roundw
      case rel => exact ⟨k + 1, by omega, by go_num, HBn, HN⟩
      case measure => simp [intOf]; omega
    · have HE : Hid (AtPairs wr w.heap.size 0 ks) := laid_pairs (by rw [show k = len by omega] at HRr; exact HRr.out) HK.out
      go_wp2
      go_ret
      exact ⟨⟨_, rfl, HE.out⟩, HBr.out⟩

/-- WHAT IS KNOWN OF A SLICE OF PAIRS: its elements are ks, and they lie where it points. -/
def Has (w : World) (v : Value) (ks : List (Int × Int)) : Prop :=
  ∃ a cap, v = .slice a ks.length cap ∧ (0 < ks.length → ∃ b off, a = some ⟨b, off, none⟩ ∧ AtPairs w b off ks)

theorem copy_any (v : Value) (ks : List (Int × Int)) (w : World) (hlen : ks.length ≤ 1048576) (h : Has w v ks) (hnil : ∀ n c, v = .slice none n c → n = 0 ∧ c = 0) :
    Calls Trym.prog 6 #[v] w fun e w' => (∃ v', e = .returned v' ∧ Has w' v' ks) ∧ Below w.heap.size w w' := by
  obtain ⟨a, cap, rfl, h⟩ := h
  cases a with
  | none =>
    obtain ⟨h1, rfl⟩ := hnil _ _ rfl
    rw [h1]
    refine (copy_nil w).mono ?_
    rintro e w' ⟨rfl, rfl⟩
    exact ⟨⟨_, rfl, none, 0, by rw [h1], fun h => by omega⟩, Below.refl _ _⟩
  | some x =>
    by_cases h0 : 0 < ks.length
    · obtain ⟨b, off, hx, hp⟩ := h h0
      refine (copy_some x b off ks.length cap ks w hlen rfl (fun _ => by cases hx; rfl) hp).mono ?_
      rintro e w' ⟨⟨g, rfl, hg⟩, hb⟩
      exact ⟨⟨_, rfl, _, _, rfl, fun _ => ⟨g, 0, rfl, hg⟩⟩, hb⟩
    · refine (copy_some x 0 0 ks.length cap ks w hlen rfl (fun h => absurd h h0) (fun i hi => absurd hi (by omega))).mono ?_
      rintro e w' ⟨⟨g, rfl, hg⟩, hb⟩
      exact ⟨⟨_, rfl, _, _, rfl, fun _ => ⟨g, 0, rfl, hg⟩⟩, hb⟩
end Go.Proofs.Qxb6601709aMods
