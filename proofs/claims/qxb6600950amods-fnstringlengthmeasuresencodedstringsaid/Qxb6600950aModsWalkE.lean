/-
  THE WALKS of seat b6600950aM, fifth part: concatBytes; the bound's test of the second law.
-/
import Derived.Test.Qxb6600950aModsWalkD
namespace Go.Proofs.Qxb6600950aMods
open Go.RowKit

/-- An own row can be read. -/
theorem own_has {B : Nat} {w0 w : World} {v : Value} {zs : List Int} (h : Own B w0 w v zs) : Has w v zs := by
  obtain ⟨⟨_, h1⟩, _, _⟩ := h
  rcases h1 with ⟨rfl, h0⟩ | ⟨g, cap, cur, rfl, _, hh, _, _, _, hx⟩
  · exact ⟨none, 0, by rw [h0], fun _ => rfl, fun hz => absurd (List.eq_nil_of_length_eq_zero h0) hz⟩
  · refine ⟨_, _, rfl, fun h => (by cases h), fun _ => ⟨g, 0, rfl, fun i hi => ?_⟩⟩
    have e : (ib zs)[i]? = some (.int .u8 (zs.getD i 0)) := by simp [ib, List.getD, hi]
    have e2 : cur[i]? = some (.int .u8 (zs.getD i 0)) := by
      rw [← hx] at e
      rw [List.getElem?_take] at e
      simpa [hi] using e
    simp [World.cell?, hh, e2]

theorem has_cell {w : World} {zs : List Int} {b off : Nat} (h : ∀ i, i < zs.length → w.cell? ⟨b, off + i, none⟩ = some (.int .u8 (zs.getD i 0))) :
    ∀ j u, (ib zs)[j]? = some u → w.cell? ((⟨b, off, none⟩ : Addr).add j) = some u := by
  intro j u hu
  have hj : j < zs.length := by
    have := (List.getElem?_eq_some_iff.1 hu).1
    rwa [ib_len] at this
  rw [Addr.add_lit, h j hj, ← hu]
  simp [ib, List.getD, hj]

/-- The address of a slice that Has speaks of. -/
theorem has_open {w : World} {v : Value} {zs : List Int} (h : Has w v zs) :
    ∃ ao cap, v = .slice ao zs.length cap ∧ (ao = none → zs.length = 0 ∧ cap = 0) ∧ (∀ ad, ao = some ad → ∀ j u, (ib zs)[j]? = some u → w.cell? (ad.add j) = some u) := by
  obtain ⟨a, cap, rfl, h0, h⟩ := h
  refine ⟨a, cap, rfl, ?_, ?_⟩
  · rintro rfl
    refine ⟨?_, h0 rfl⟩
    by_cases hz : zs = []
    · rw [hz]; rfl
    · obtain ⟨_, _, h1, _⟩ := h hz
      cases h1
  · rintro ad rfl
    by_cases hz : zs = []
    · subst hz
      intro j u hu
      simp [ib] at hu
    · obtain ⟨b, off, h1, h2⟩ := h hz
      cases h1
      exact has_cell h2

theorem below_cells {B : Nat} {w w1 : World} {xs : List Int} {ao : Option Addr} (hb : Below B w w1) (hB : B = w.heap.size) (h : ∀ ad, ao = some ad → ∀ j u, (ib xs)[j]? = some u → w.cell? (ad.add j) = some u) :
    ∀ ad, ao = some ad → ∀ j u, (ib xs)[j]? = some u → w1.cell? (ad.add j) = some u := by
  intro ad had j u hu
  have h1 := h ad had j u hu
  have hlt : (ad.add j).block < B := by rw [hB]; exact World.block_lt_of_cell? _ _ h1
  rw [hb.cell hlt]
  exact h1

set_option maxHeartbeats 800000 in
theorem concat_any (va vb : Value) (xs ys : List Int) (w : World) (hla : xs.length + ys.length ≤ 16777216) (hA : Has w va xs) (hB : Has w vb ys) :
    Calls Trym.prog 12 #[va, vb] w fun e w' => ∃ v', e = .returned v' ∧ Own w.heap.size w w' v' (xs ++ ys) := by
  obtain ⟨ao, ca, rfl, hna, hca⟩ := has_open hA
  obtain ⟨bo, cb, rfl, hnb, hcb⟩ := has_open hB
  clear hA hB
  obtain ⟨i0, hi, hz0, hz1, hz2⟩ := info_parts Trym.info5
  have HI : Hid (Trym.prog.info? 5 = some i0) := hi
  have HZ0 : Hid (i0.zero = some (.int .u8 0)) := hz0
  have HZ1 : Hid (i0.size = 1) := hz1
  have HZ2 : Hid (i0.bytes = 1) := hz2
  have HNA : Hid (ao = none → xs.length = 0 ∧ ca = 0) := hna
  have HNB : Hid (bo = none → ys.length = 0 ∧ cb = 0) := hnb
  have HCA : Hid (∀ ad, ao = some ad → ∀ j u, (ib xs)[j]? = some u → w.cell? (ad.add j) = some u) := hca
  have HCB : Hid (∀ ad, bo = some ad → ∀ j u, (ib ys)[j]? = some u → w.cell? (ad.add j) = some u) := hcb
  obtain ⟨la, ha⟩ : ∃ la, la = xs.length := ⟨_, rfl⟩
  obtain ⟨lb, hb⟩ : ∃ lb, lb = ys.length := ⟨_, rfl⟩
  rw [← ha, ← hb] at hla ⊢
  have HLA : Hid (la = xs.length) := ha
  have HLB : Hid (lb = ys.length) := hb
  clear hi hz0 hz1 hz2 hna hnb hca hcb ha hb
  go_enter Trym.func12, Trym.ntmps12
  go_wp2_with (at_make; refine wpList_make_own _ rfl _ _ 22 rfl w.heap.size 5 i0 (.int .u8 0) 1 Trym.underlying22 HI.out HZ0.out HZ1.out _ _ _ (la + lb) rfl rfl (by omega) (by rw [HZ2.out]; omega) (by unfold maxLen; omega) (Nat.le_refl _) ?_)
  intro w1 hown1 hgrow1
  have hb1 : Below w.heap.size w w1 := (Below.refl _ _).grown hgrow1 (Nat.le_refl _) (by simp)
  have HB1 : Hid (Below w.heap.size w w1) := hb1
  have HO1 : Hid (w1.ownsRow w.heap.size 5 1 (.slice (some ⟨w.heap.size, 0, none⟩) 0 (la + lb)) 0 []) := hown1
  have HG1 : Hid (w.heap.size ≤ w1.heap.size) := hgrow1.size
  clear hown1 hgrow1 hb1
  go_wp2_with (at_builtin; refine wpList_append_fits_any _ rfl (.tmp 12) (.tmp 13) 22 rfl w.heap.size 5 i0 1 Trym.underlying22 HI.out HZ1.out w.heap.size 0 (la + lb) [] rfl HO1.out ao la ca (ib xs) rfl (by rw [ib_len, HLA.out, Nat.mul_one]) (by rw [HLA.out]; exact HNA.out) (below_cells HB1.out rfl HCA.out) (ints_oneCell _ _) (by omega) ?_)
  intro w2 hown2 hgrow2
  have HB2 : Hid (Below w.heap.size w w2) := HB1.out.grown hgrow2 HG1.out (by intro k hk; simp at hk; omega)
  have HG2 : Hid (w.heap.size ≤ w2.heap.size) := Nat.le_trans HG1.out hgrow2.size
  have HO2 : Hid (w2.ownsRow w.heap.size 5 1 (.slice (some ⟨w.heap.size, 0, none⟩) la (la + lb)) la (ib xs)) := hown2
  clear hown2 hgrow2 HO1
  go_wp2_with (at_builtin; refine wpList_append_fits_any _ rfl (.tmp 15) (.tmp 16) 22 rfl w.heap.size 5 i0 1 Trym.underlying22 HI.out HZ1.out w.heap.size la (la + lb) (ib xs) rfl HO2.out bo lb cb (ib ys) rfl (by rw [ib_len, HLB.out, Nat.mul_one]) (by rw [HLB.out]; exact HNB.out) (below_cells HB2.out rfl HCB.out) (ints_oneCell _ _) (by omega) ?_)
  intro w3 hown3 hgrow3
  have HB3 : Hid (Below w.heap.size w w3) := HB2.out.grown hgrow3 HG2.out (by intro k hk; simp at hk; omega)
  have HG3 : Hid (w.heap.size ≤ w3.heap.size) := Nat.le_trans HG2.out hgrow3.size
  have HO3 : Hid (w3.ownsRow w.heap.size 5 1 (.slice (some ⟨w.heap.size, 0, none⟩) (la + lb) (la + lb)) (la + lb) (ib xs ++ ib ys)) := hown3
  clear hown3 hgrow3 HO2
  go_wp2_with fail
  go_ret
  refine ⟨_, rfl, ?_, HB3.out, HG3.out⟩
  rw [List.length_append, ib_append, ← HLA.out, ← HLB.out]
  exact HO3.out

theorem has_below {w w1 : World} {v : Value} {zs : List Int} (h : Has w v zs) (hb : Below w.heap.size w w1) : Has w1 v zs := by
  obtain ⟨a, cap, rfl, h0, h⟩ := h
  refine ⟨a, cap, rfl, h0, fun hz => ?_⟩
  obtain ⟨b, off, rfl, hc⟩ := h hz
  refine ⟨b, off, rfl, fun i hi => ?_⟩
  have h1 := hc i hi
  rw [hb.cell (World.block_lt_of_cell? _ _ h1)]
  exact h1

theorem own_lit (w : World) : Own w.heap.size w (w.alloc (.cells #[] 5)) (.slice (some ⟨w.heap.size, 0, none⟩) 0 0) [] :=
  ⟨World.ownsRow_made w #[] 0 (Nat.le_refl _) (Nat.zero_le _) rfl, (Below.refl _ _).alloc (Nat.le_refl _) _, by simp⟩

theorem bytes_bd (s : ByteArray) : ∀ c ∈ bytes s, 0 ≤ c ∧ c ≤ 255 := by
  intro c hc
  unfold bytes at hc
  obtain ⟨b, _, rfl⟩ := List.mem_map.1 hc
  have := b.toNat_lt
  omega
theorem enc_bd (s : ByteArray) : (Pl.enc (bytes s)).length ≤ 6 * s.size + 2 := by
  have h1 := Pl.body_len (bytes s)
  have h2 : (bytes s).length = s.size := by simp [bytes]
  rw [Pl.enc_len]; omega

set_option maxHeartbeats 800000 in
theorem bound2_no (s : ByteArray) (a : Option Addr) (len cap : Nat) (w : World) (h : 1048576 < s.size + len) (hs : s.size ≤ maxLen) (hm : len ≤ maxLen) :
    Calls Trym.prog 10 #[.string s, .slice a len cap] w fun e w' => e = .returned (.bool false) ∧ w' = w := by
  unfold maxLen at hm hs
  by_cases h1 : 1048576 < s.size
  · go_enter Trym.func10, Trym.ntmps10
    go_wp2
    go_ret
    exact ⟨rfl, rfl⟩
  · by_cases h2 : 1048576 < len
    · go_enter Trym.func10, Trym.ntmps10
      go_wp2
      go_ret
      exact ⟨rfl, rfl⟩
    · go_enter Trym.func10, Trym.ntmps10
      go_wp2
      go_ret
      exact ⟨rfl, rfl⟩

set_option maxHeartbeats 800000 in
theorem bound2_yes (s : ByteArray) (a : Option Addr) (len cap : Nat) (w : World) (h : s.size + len ≤ 1048576) :
    Calls Trym.prog 10 #[.string s, .slice a len cap] w fun e w' => e = .returned (.bool true) ∧ w' = w := by
  go_enter Trym.func10, Trym.ntmps10
  go_wp2
  go_ret
  exact ⟨rfl, rfl⟩
end Go.Proofs.Qxb6600950aMods
