/-
  THE WALKS of seat b6601709aM: the law itself.
-/
import Derived.Test.Qxb6601709aModsWalkE
import Derived.Deep.RegionWith
namespace Go.Proofs.Qxb6601709aMods
open Go.RowKit

set_option maxRecDepth 100000 in
set_option maxHeartbeats 4000000 in
theorem law_main (L0 : List Int) (hL0 : L0.length = 16) (a : Option Addr) (n cap : Nat) (ks : List (Int × Int)) (w : World) (hn0 : ks.length = n) (hn : n ≤ 65536) (hv0 : Has w (.slice a n cap) ks) (hnil0 : a = none → n = 0 ∧ cap = 0) :
    Calls Trym.prog 3 #[.agg (cel L0), .slice a n cap] w fun e w' => e = .returned (.bool true) ∧ Below w.heap.size w w' := by
  have HN : Hid (ks.length = n) := hn0
  have HV : Hid (Has w (.slice a n cap) ks) := hv0
  have HNIL : Hid (∀ m c, Value.slice a n cap = .slice none m c → m = 0 ∧ c = 0) := by
    show ∀ m c, Value.slice a n cap = .slice none m c → m = 0 ∧ c = 0
    intro m c h
    cases h
    exact hnil0 rfl
  have HL0 : Hid (L0.length = 16) := hL0
  have HS25 : Hid ((Trym.prog.info? 25).map (·.size) = some (cel L0).size) := by rw [cel_size, hL0]; exact Trym.size25
  have HS31 : Hid ((Trym.prog.info? 31).map (·.size) = some (cel L0).size) := by rw [cel_size, hL0]; exact Trym.size31
  have HS37 : Hid ((Trym.prog.info? 37).map (·.size) = some (cel L0).size) := by rw [cel_size, hL0]; exact Trym.size37
  clear hn0 hv0 hnil0 hL0
  go_enter Trym.func3, Trym.ntmps3
  go_wp2_with (refine wpList_load_row rfl 25 (.tmp 2) rfl w.heap.size rfl 25 (cel L0) (0, 0) _ (heap_alloc_last w _) Trym.underlying25 rfl HS25.out ?_)
  go_wp2_with fail
  refine (bound_yes _ a n cap _ (by omega)).mono ?_
  rintro e w1 ⟨rfl, rfl⟩
  go_wp2_with fail
  refine (copy_any _ ks _ (by rw [HN.out]; omega) (has_below HV.out ((below_new (below_new (Below.refl _ _) _) _))) HNIL.out).mono ?_
  rintro e w2 ⟨⟨v2, rfl, hv2⟩, hb2⟩
  have HZ2 : Hid (w2.heap[w.heap.size]? = some (.cells (cel L0) 25 (0, 0))) := block_below (heap_alloc2_old w _ _) hb2
  have HB2 : Hid (Below w.heap.size w w2) := (below_new (below_new (Below.refl _ _) _) _).trans (hb2.mono (by simp; omega))
  obtain ⟨a2, c2, rfl, hp2⟩ := hv2
  have HP2 : Hid (0 < ks.length → ∃ b off, a2 = some ⟨b, off, none⟩ ∧ AtPairs w2 b off ks) := hp2
  rw [HN.out]
  clear hb2 hp2 HV HNIL
  go_wp2_with (refine wpList_load_row rfl 25 (.tmp 2) rfl w.heap.size rfl 25 (cel L0) (0, 0) _ HZ2.out Trym.underlying25 rfl HS25.out ?_)
  refine (sentL L0 HL0.out _).mono ?_
  rintro e w3 ⟨rfl, hb3⟩
  have HZ3 : Hid (w3.heap[w.heap.size]? = some (.cells (cel L0) 25 (0, 0))) := block_below HZ2.out hb3
  have HB3 : Hid (Below w.heap.size w w3) := HB2.out.trans (hb3.mono HB2.out.size)
  have HP3 : Hid (0 < ks.length → ∃ b off, a2 = some ⟨b, off, none⟩ ∧ AtPairs w3 b off ks) := by
    show 0 < ks.length → _
    intro h0
    obtain ⟨b, off, e1, hp⟩ := HP2.out h0
    obtain ⟨_, _, e2, h⟩ := has_below (⟨_, 0, rfl, fun _ => ⟨b, off, rfl, hp⟩⟩ : Has w2 (.slice (some ⟨b, off, none⟩) ks.length 0) ks) hb3
    cases e2
    obtain ⟨b', off', e3, hp'⟩ := h h0
    cases e3
    exact ⟨b, off, e1, hp'⟩
  clear hb3 HZ2 HB2 HP2
  go_wp2_with (refine wpList_store_new rfl 31 (.tmp 5) (.tmp 26) rfl (cel L0) rfl rfl _ HS31.out (by rw [cel_size, HL0.out]; rfl) (cel_one L0) ?_)
  have HSA : Hid (SentAt (w3.alloc (.cells (cel L0) 31)) w3.heap.size L0) := heap_alloc_last w3 _
  have HBA : Hid (Below w3.heap.size w3 (w3.alloc (.cells (cel L0) 31))) := below_new (Below.refl _ _) _
  have HI0 : Hid (Pl.Inv L0 L0 0 0) := Pl.inv_zero L0 HL0.out
  go_loopw [6, 7, 8] (fun d y i wr => ∃ (k : Nat) (L : List Int) (D Y : Int), k ≤ n ∧ i = .int .i64 k ∧ d = .int .i64 D ∧ y = .int .i64 Y ∧ Hid (Pl.Inv L0 L D Y) ∧ Hid (SentAt wr w3.heap.size L) ∧ Hid (Below w3.heap.size w3 wr)) (fun _ _ i _ => n - (intOf i).toNat)
  case atStart => exact ⟨0, L0, 0, 0, Nat.zero_le _, rfl, rfl, rfl, HI0, HSA, HBA⟩
  case round =>
    obtain ⟨k, L, D, Y, hk, rfl, rfl, rfl, HI, HS, HB⟩ := hrel
    clear HSA HBA HI0
    have HL : Hid (L.length = 16) := HI.out.len
    by_cases hlt : k < n
    · obtain ⟨b, off, rfl, hp⟩ := HP3.out (by rw [HN.out]; omega)
      obtain ⟨p, q, hp1, hq1⟩ : ∃ p q, p = (ks.getD k (0, 0)).1 ∧ q = (ks.getD k (0, 0)).2 := ⟨_, _, rfl, rfl⟩
      obtain ⟨h1, h2⟩ := hp k (by rw [HN.out]; exact hlt)
      have hbs : b < w3.heap.size := World.block_lt_of_cell? _ _ h1
      rw [← hp1, ← HB.out.cell (by exact hbs)] at h1
      rw [← hq1, ← HB.out.cell (by exact hbs)] at h2
      have HBS : Hid (b < w3.heap.size) := hbs
      clear hp hp1 hq1 hbs
      have hlti : (k : Int) < (n : Int) := by omega
      go_wp2_with fail
      go_region_with (go_at_call 8; refine (zz_count w3.heap.size L p q _ ?_ HL.out).mono ?_; exact HS.out; rintro e w5 ⟨rfl, hs5, hb5⟩; have h5 : w5.cell? ⟨b, off + k * 2 + 1, none⟩ = some (.int .i64 q) := (hb5.cell HBS.out).trans h2; have HS5 : Hid (SentAt w5 w3.heap.size (Pl.upd L (Pl.slot p) q)) := hs5; have HB5 : Hid (Below w3.heap.size w3 w5) := HB.out.drew.trans hb5; clear hs5 hb5)
      all_goals
        clear h1 h2 HS HB
        go_wp2_with fail
        go_roundw
      case rel => exact ⟨k + 1, _, _, _, by omega, by go_num, rfl, rfl, Pl.inv_step HI.out p q, HS5, HB5⟩
      case measure => simp [intOf]; omega
      case rel => exact ⟨k + 1, _, _, _, by omega, by go_num, rfl, rfl, Pl.inv_step HI.out p q, HS5, HB5⟩
      case measure => simp [intOf]; omega
    · have HZr : Hid (wr.heap[w.heap.size]? = some (.cells (cel L0) 25 (0, 0))) := block_below HZ3.out HB.out
      have HBr : Hid (Below w.heap.size w wr) := HB3.out.trans (HB.out.mono HB3.out.size)
      have HT31 : Hid ((Trym.prog.info? 31).map (·.size) = some (cel L).size) := by rw [cel_size, HL.out]; exact Trym.size31
      have HT37 : Hid ((Trym.prog.info? 37).map (·.size) = some (cel L).size) := by rw [cel_size, HL.out]; exact Trym.size37
      clear HZ3 HB3 HP3 HB
      go_wp2_with (refine wpList_load_row rfl 25 (.tmp 2) rfl w.heap.size rfl 25 (cel L0) (0, 0) _ HZr.out Trym.underlying25 rfl HS25.out ?_)
      refine (rowsL L0 HL0.out _).mono ?_
      rintro e w6 ⟨rfl, hb6⟩
      have HS6 : Hid (SentAt (w6.alloc (.cells (cel L0) 37)) w3.heap.size L) := block_below HS.out (below_new hb6 _)
      have HB6 : Hid (Below w.heap.size w (w6.alloc (.cells (cel L0) 37))) := below_new (HBr.out.trans (hb6.mono HBr.out.size)) _
      clear hb6 HS HBr HZr
      go_wp2_with (first | (refine wpList_store_new rfl 37 (.tmp 9) (.tmp 54) rfl (cel L0) rfl rfl _ HS37.out (by rw [cel_size, HL0.out]; rfl) (cel_one L0) ?_) | (refine wpList_load_row rfl 31 (.tmp 5) rfl w3.heap.size rfl 31 (cel L) (0, 0) _ HS6.out Trym.underlying31 rfl HT31.out ?_))
      refine (srowsL L HL.out _).mono ?_
      rintro e w7 ⟨rfl, hb7⟩
      obtain ⟨A, hA⟩ : ∃ A, A = w6.heap.size := ⟨_, rfl⟩
      have hZ7 : w7.heap[A]? = some (.cells (cel L0) 37 (0, 0)) := by rw [hA]; exact block_below (heap_alloc_last w6 _) hb7
      have HB7 : Hid (Below w.heap.size w w7) := HB6.out.trans (hb7.mono HB6.out.size)
      rw [← hA]
      have HZ7 : Hid (w7.heap[A]? = some (.cells (cel L0) 37 (0, 0))) := hZ7
      clear hb7 HS6 HB6 hA hZ7
      go_wp2_with (refine wpList_store_new rfl 37 (.tmp 10) (.tmp 56) rfl (cel L) rfl rfl _ HT37.out (by rw [cel_size, HL.out]; rfl) (cel_one L) ?_)
      obtain ⟨W, hW⟩ : ∃ W, W = w7.alloc (.cells (cel L) 37) := ⟨_, rfl⟩
      obtain ⟨C, hC⟩ : ∃ C, C = w7.heap.size := ⟨_, rfl⟩
      have HWC : Hid (W.heap[C]? = some (.cells (cel L) 37 (0, 0))) := by rw [hW, hC]; exact heap_alloc_last w7 _
      have HWA : Hid (W.heap[A]? = some (.cells (cel L0) 37 (0, 0))) := by rw [hW]; exact block_below HZ7.out (below_new (Below.refl _ _) _)
      have HWB : Hid (Below w.heap.size w W) := by rw [hW]; exact below_new HB7.out _
      rw [← hW, ← hC]
      clear hW hC HZ7 HB7
      go_loop [11, 12, 13, 14, 15] (fun d0 b0 d1 b1 i => ∃ m : Nat, m ≤ 8 ∧ i = .int .i64 m ∧ d0 = .int .i64 (Pl.sumW L0 0 m) ∧ b0 = .int .i64 (Pl.sumW L0 1 m) ∧ d1 = .int .i64 (Pl.sumW L 0 m) ∧ b1 = .int .i64 (Pl.sumW L 1 m)) (fun _ _ _ _ i => 8 - (intOf i).toNat)
      case atStart => exact ⟨0, by omega, rfl, rfl, rfl, rfl, rfl⟩
      case round =>
        obtain ⟨m, hm, rfl, rfl, rfl, rfl, rfl⟩ := hrel
        by_cases hm8 : m < 8
        · have g0 := cel_at HWA.out (m * 2) (by rw [HL0.out]; omega)
          have g1 := cel_at HWA.out (m * 2 + 1) (by rw [HL0.out]; omega)
          have g2 := cel_at HWC.out (m * 2) (by rw [HL.out]; omega)
          have g3 := cel_at HWC.out (m * 2 + 1) (by rw [HL.out]; omega)
          obtain ⟨x0, hx0⟩ : ∃ x, x = L0.getD (m * 2) 0 := ⟨_, rfl⟩
          obtain ⟨x1, hx1⟩ : ∃ x, x = L0.getD (m * 2 + 1) 0 := ⟨_, rfl⟩
          obtain ⟨x2, hx2⟩ : ∃ x, x = L.getD (m * 2) 0 := ⟨_, rfl⟩
          obtain ⟨x3, hx3⟩ : ∃ x, x = L.getD (m * 2 + 1) 0 := ⟨_, rfl⟩
          rw [← hx0] at g0
          rw [← hx1] at g1
          rw [← hx2] at g2
          rw [← hx3] at g3
          have E0 : Hid (wrap64 (Pl.sumW L0 0 m + x0) = Pl.sumW L0 0 (m + 1)) := Pl.sumW_step _ 0 m x0 hx0
          have E1 : Hid (wrap64 (Pl.sumW L0 1 m + x1) = Pl.sumW L0 1 (m + 1)) := Pl.sumW_step _ 1 m x1 hx1
          have E2 : Hid (wrap64 (Pl.sumW L 0 m + x2) = Pl.sumW L 0 (m + 1)) := Pl.sumW_step _ 0 m x2 hx2
          have E3 : Hid (wrap64 (Pl.sumW L 1 m + x3) = Pl.sumW L 1 (m + 1)) := Pl.sumW_step _ 1 m x3 hx3
          clear hx0 hx1 hx2 hx3
          go_wp2
          go_round
          case rel => exact ⟨m + 1, by omega, by go_num, by rw [E0.out], by rw [E1.out], by rw [E2.out], by rw [E3.out]⟩
          case measure => simp [intOf]; omega
        · obtain rfl : m = 8 := by omega
          have c0 := cel_at HWA.out 2 (by rw [HL0.out]; omega)
          have c1 := cel_at HWA.out 3 (by rw [HL0.out]; omega)
          have c2 := cel_at HWA.out 14 (by rw [HL0.out]; omega)
          have c3 := cel_at HWA.out 15 (by rw [HL0.out]; omega)
          have d0 := cel_at HWC.out 2 (by rw [HL.out]; omega)
          have d1 := cel_at HWC.out 3 (by rw [HL.out]; omega)
          have d2 := cel_at HWC.out 14 (by rw [HL.out]; omega)
          have d3 := cel_at HWC.out 15 (by rw [HL.out]; omega)
          rw [HI.out.k2] at d0
          rw [HI.out.k3] at d1
          rw [HI.out.k14] at d2
          rw [HI.out.k15] at d3
          generalize L0.getD 2 0 = x0 at c0 d0
          generalize L0.getD 3 0 = x1 at c1 d1
          generalize L0.getD 14 0 = x2 at c2 d2
          generalize L0.getD 15 0 = x3 at c3 d3
          have eD : (Pl.sumW L 0 8 == wrap64 (Pl.sumW L0 0 8 + D)) = true := beq_iff_eq.2 (Pl.sum_law HI.out.s0)
          have eY : (Pl.sumW L 1 8 == wrap64 (Pl.sumW L0 1 8 + Y)) = true := beq_iff_eq.2 (Pl.sum_law HI.out.s1)
          go_wp2
          go_ret
          exact ⟨rfl, HWB.out⟩
end Go.Proofs.Qxb6601709aMods
