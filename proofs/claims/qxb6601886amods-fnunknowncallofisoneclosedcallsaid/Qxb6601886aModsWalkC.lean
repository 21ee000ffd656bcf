/-
  THE WALKS of seat b6601886aM: the law itself.
-/
import Derived.Test.Qxb6601886aModsWalkB
namespace Go.Proofs.Qxb6601886aMods
open Go.RowKit

theorem grown_drewN (w : World) (n : Nat) : Grown w (w.drewN n) := by
  induction n with
  | zero => exact Grown.refl _
  | succ n ih => exact Grown.drew ih

set_option maxRecDepth 100000 in
set_option maxHeartbeats 1600000 in
/-- j's brackets or quotes do not fit: the law says true at once. -/
theorem law_skip (j : ByteArray) (w : World) (hs : j.size ≤ 1048576) (h0 : ¬ (Pl.D (Pl.bytes j) = 0 ∧ 0 ≤ Pl.M (Pl.bytes j) ∧ Pl.Q (Pl.bytes j) % 2 = 0)) :
    Calls Trym.prog 5 #[.string j] w fun e w' => e = .returned (.bool true) ∧ Grown w w' := by
  have hq := Pl.Q_bd (Pl.bytes j)
  rw [Pl.bytes_len] at hq
  have C := shape_any j w (by omega)
  have HC : Hid (Calls Trym.prog 11 #[.string j] w fun e w' => e = .returned (.tuple #[.int .i64 (Pl.D (Pl.bytes j)), .int .i64 (Pl.M (Pl.bytes j)), .int .i64 (Pl.Q (Pl.bytes j))]) ∧ w' = w) := C
  clear C
  generalize Pl.D (Pl.bytes j) = x at *
  generalize Pl.M (Pl.bytes j) = y at *
  generalize Pl.Q (Pl.bytes j) = z at *
  obtain ⟨hq0, hq1⟩ := hq
  by_cases hx : x = 0
  · have ex : (x != 0) = false := by simp [hx]
    by_cases hy : 0 ≤ y
    · have ez : (z % 2 != 0) = true := by
        rw [bne_iff_ne]
        intro h
        exact h0 ⟨hx, hy, h⟩
      clear h0 hx
      have ey : decide (y < 0) = false := decide_eq_false (by omega)
      go_enter Trym.func5, Trym.ntmps5
      go_wp2_with fail
      refine (bound_yes j _ hs).mono ?_
      rintro e w' ⟨rfl, rfl⟩
      go_wp2_with fail
      refine HC.out.mono ?_
      rintro e w' ⟨rfl, rfl⟩
      go_wp2_with fail
      go_ret
      exact ⟨rfl, Grown.refl _⟩
    · clear h0 hx
      have ey : decide (y < 0) = true := decide_eq_true (by omega)
      go_enter Trym.func5, Trym.ntmps5
      go_wp2_with fail
      refine (bound_yes j _ hs).mono ?_
      rintro e w' ⟨rfl, rfl⟩
      go_wp2_with fail
      refine HC.out.mono ?_
      rintro e w' ⟨rfl, rfl⟩
      go_wp2_with fail
      go_ret
      exact ⟨rfl, Grown.refl _⟩
  · have ex : (x != 0) = true := by simp [hx]
    clear h0 hx
    go_enter Trym.func5, Trym.ntmps5
    go_wp2_with fail
    refine (bound_yes j _ hs).mono ?_
    rintro e w' ⟨rfl, rfl⟩
    go_wp2_with fail
    refine HC.out.mono ?_
    rintro e w' ⟨rfl, rfl⟩
    go_wp2_with fail
    go_ret
    exact ⟨rfl, Grown.refl _⟩

set_option maxRecDepth 100000 in
set_option maxHeartbeats 4000000 in
theorem law_main (j : ByteArray) (w : World) (hs : j.size ≤ 1048576) (hD : Pl.D (Pl.bytes j) = 0) (hM : 0 ≤ Pl.M (Pl.bytes j)) (hQ : Pl.Q (Pl.bytes j) % 2 = 0) :
    Calls Trym.prog 5 #[.string j] w fun e w' => e = .returned (.bool true) ∧ Grown w w' := by
  have hq := Pl.Q_bd (Pl.bytes j)
  rw [Pl.bytes_len] at hq
  have HD : Hid (Pl.D (Pl.bytes j) = 0) := hD
  have HM : Hid (0 ≤ Pl.M (Pl.bytes j)) := hM
  have hm0 : Pl.M (Pl.bytes j) = 0 := by have := Pl.M_le (Pl.bytes j); omega
  have C := shape_any j w (by omega)
  rw [hD, hm0] at C
  obtain ⟨z, hz⟩ : ∃ z, z = Pl.Q (Pl.bytes j) := ⟨_, rfl⟩
  rw [← hz] at C hq hQ
  have HZ : Hid (z = Pl.Q (Pl.bytes j)) := hz
  have HC : Hid (Calls Trym.prog 11 #[.string j] w fun e w' => e = .returned (.tuple #[.int .i64 0, .int .i64 0, .int .i64 z]) ∧ w' = w) := C
  obtain ⟨hq0, hq1⟩ := hq
  have ez : (z % 2 != 0) = false := by rw [bne_eq_false_iff_eq]; exact hQ
  have HQ : Hid (z % 2 = 0) := hQ
  clear C hz hD hM hm0 hQ
  go_enter Trym.func5, Trym.ntmps5
  go_wp2_with fail
  refine (bound_yes j _ hs).mono ?_
  rintro e w' ⟨rfl, rfl⟩
  go_wp2_with fail
  refine HC.out.mono ?_
  rintro e w' ⟨rfl, rfl⟩
  go_wp2_with fail
  refine (zz_unk j _ hs).mono ?_
  rintro e w' ⟨⟨r, rfl, hr⟩, rfl⟩
  have HR : Hid (Pl.bytes r = Pl.txt (Pl.bytes j)) := hr
  have hrl : r.size = 346 + 2 * j.size := by
    have h := Pl.txt_len (Pl.bytes j)
    rw [← hr, Pl.bytes_len, Pl.bytes_len] at h
    exact h
  have hr1 : 346 ≤ r.size := by omega
  have hr2 : r.size ≤ 4194304 := by omega
  have hD2 : Pl.D (Pl.bytes r) = 0 := by rw [hr]; exact Pl.txt_D _ HD.out
  have hM2 : Pl.M (Pl.bytes r) = 0 := by
    have h1 := Pl.txt_M _ HD.out HM.out
    have h2 := Pl.M_le (Pl.txt (Pl.bytes j))
    rw [hr]; omega
  have hQ2 : Pl.Q (Pl.bytes r) = 2 * z + 12 := by rw [hr, Pl.txt_Q, ← HZ.out]
  have HD2 : Hid (Pl.D (Pl.bytes r) = 0) := hD2
  have HM2 : Hid (Pl.M (Pl.bytes r) = 0) := hM2
  have HQ2 : Hid (Pl.Q (Pl.bytes r) = 2 * z + 12) := hQ2
  have ez2 : ((2 * z + 12) % 2 != 0) = false := by rw [bne_eq_false_iff_eq]; omega
  clear hr hrl hD2 hM2 hQ2
  go_wp2_with fail
  refine (shape_any r _ hr2).mono ?_
  rintro e w1 ⟨rfl, rfl⟩
  rw [HD2.out, HM2.out, HQ2.out]
  go_wp2_with fail
  refine (pre_yes r { data := #[99, 111, 97, 108, 101, 115, 99, 101, 40] } _ hr2 (by exact Nat.le_trans (by decide) hr1) (pre_txt r _ HR.out (by omega))).mono ?_
  rintro e w2 ⟨rfl, n2, rfl⟩
  go_wp2_with fail
  refine (suf_yes r { data := #[44, 32, 39, 39, 41] } _ hr2 (by exact Nat.le_trans (by decide) hr1) (suf_txt r _ HR.out (by omega))).mono ?_
  rintro e w3 ⟨rfl, n3, rfl⟩
  go_wp2_with fail
  go_loopw [10, 11, 12] (fun d o i wr => ∃ (k : Nat) (x : Int) (b : Bool), k ≤ r.size ∧ i = .int .i64 k ∧ d = .int .i64 x ∧ o = .bool b ∧ Hid (Dep r k x) ∧ Hid (decide (9 ≤ k) = b) ∧ ∃ n, wr = w1.drewN n) (fun _ _ i _ => r.size - (intOf i).toNat)
  case atStart => exact ⟨0, 0, false, Nat.zero_le _, rfl, rfl, rfl, dep_zero r, (rfl : decide (9 ≤ 0) = false), _, rfl⟩
  case round =>
    obtain ⟨k, x, b, hk, rfl, rfl, rfl, HX, HO, n, rfl⟩ := hrel
    have hbd := dep_bd HX.out
    by_cases hlt : k < r.size
    · by_cases hk8 : k < 8
      · obtain rfl : b = false := by rw [← HO.out]; exact decide_eq_false (by omega)
        have H0 : Hid (¬ (r[k].toNat : Int) = 40) := txt_no HR.out k hlt hk8
        have e0 : ((r[k].toNat : Int) == 40) = false := beq_eq_false_iff_ne.2 H0.out
        by_cases h1 : (r[k].toNat : Int) = 41
        · have H1 : Hid ((r[k].toNat : Int) = 41) := h1
          have e1 : ((r[k].toNat : Int) == 41) = true := beq_iff_eq.2 h1
          clear h1
          have HN : Hid (Dep r (k + 1) (x - 1)) := dep_shut HX.out hlt H1.out
          clear HX
          go_wp2
          go_roundw
          case rel => exact ⟨k + 1, _, false, by omega, by go_num, rfl, rfl, HN, (decide_eq_false (by omega) : decide (9 ≤ k + 1) = false), _, rfl⟩
          case measure => simp [intOf]; omega
        · have H1 : Hid (¬ (r[k].toNat : Int) = 41) := h1
          have e1 : ((r[k].toNat : Int) == 41) = false := beq_eq_false_iff_ne.2 h1
          clear h1
          have HN : Hid (Dep r (k + 1) (x)) := dep_other HX.out hlt H0.out H1.out
          clear HX
          go_wp2
          go_roundw
          case rel => exact ⟨k + 1, _, false, by omega, by go_num, rfl, rfl, HN, (decide_eq_false (by omega) : decide (9 ≤ k + 1) = false), _, rfl⟩
          case measure => simp [intOf]; omega
      · by_cases hk9 : k = 8
        · subst hk9
          obtain rfl : b = false := by rw [← HO.out]; rfl
          have H0 : Hid ((r[8].toNat : Int) = 40) := txt_eight HR.out hlt
          have e0 : ((r[8].toNat : Int) == 40) = true := beq_iff_eq.2 H0.out
          have HN : Hid (Dep r 9 (x + 1)) := dep_open HX.out hlt H0.out
          have ed : ((x + 1 : Int) == 0) = false := dep_in HR.out HD.out HM.out HN.out (by omega) (by omega)
          clear HX
          go_wp2
          go_roundw
          case rel => exact ⟨9, _, true, by omega, by go_num, rfl, rfl, HN, (rfl : decide (9 ≤ 9) = true), _, rfl⟩
          case measure => simp [intOf]; omega
        · obtain rfl : b = true := by rw [← HO.out]; exact decide_eq_true (by omega)
          by_cases hlast : k + 1 < r.size
          · by_cases h0 : (r[k].toNat : Int) = 40
            · have H0 : Hid ((r[k].toNat : Int) = 40) := h0
              have e0 : ((r[k].toNat : Int) == 40) = true := beq_iff_eq.2 h0
              clear h0
              have HN : Hid (Dep r (k + 1) (x + 1)) := dep_open HX.out hlt H0.out
              have ed : ((x + 1 : Int) == 0) = false := dep_in HR.out HD.out HM.out HN.out (by omega) (by omega)
              clear HX
              go_wp2
              go_roundw
              case rel => exact ⟨k + 1, _, true, by omega, by go_num, rfl, rfl, HN, (decide_eq_true (by omega) : decide (9 ≤ k + 1) = true), _, rfl⟩
              case measure => simp [intOf]; omega
            · have H0 : Hid (¬ (r[k].toNat : Int) = 40) := h0
              have e0 : ((r[k].toNat : Int) == 40) = false := beq_eq_false_iff_ne.2 h0
              clear h0
              by_cases h1 : (r[k].toNat : Int) = 41
              · have H1 : Hid ((r[k].toNat : Int) = 41) := h1
                have e1 : ((r[k].toNat : Int) == 41) = true := beq_iff_eq.2 h1
                clear h1
                have HN : Hid (Dep r (k + 1) (x - 1)) := dep_shut HX.out hlt H1.out
                have ed : ((x - 1 : Int) == 0) = false := dep_in HR.out HD.out HM.out HN.out (by omega) (by omega)
                clear HX
                go_wp2
                go_roundw
                case rel => exact ⟨k + 1, _, true, by omega, by go_num, rfl, rfl, HN, (decide_eq_true (by omega) : decide (9 ≤ k + 1) = true), _, rfl⟩
                case measure => simp [intOf]; omega
              · have H1 : Hid (¬ (r[k].toNat : Int) = 41) := h1
                have e1 : ((r[k].toNat : Int) == 41) = false := beq_eq_false_iff_ne.2 h1
                clear h1
                have HN : Hid (Dep r (k + 1) (x)) := dep_other HX.out hlt H0.out H1.out
                have ed : ((x : Int) == 0) = false := dep_in HR.out HD.out HM.out HN.out (by omega) (by omega)
                clear HX
                go_wp2
                go_roundw
                case rel => exact ⟨k + 1, _, true, by omega, by go_num, rfl, rfl, HN, (decide_eq_true (by omega) : decide (9 ≤ k + 1) = true), _, rfl⟩
                case measure => simp [intOf]; omega
          · by_cases h0 : (r[k].toNat : Int) = 40
            · have H0 : Hid ((r[k].toNat : Int) = 40) := h0
              have e0 : ((r[k].toNat : Int) == 40) = true := beq_iff_eq.2 h0
              clear h0
              have HN : Hid (Dep r (k + 1) (x + 1)) := dep_open HX.out hlt H0.out
              have ed : ((x + 1 : Int) == 0) = true := dep_end HR.out HD.out HN.out (by omega)
              have el : ((k : Int) != (r.size : Int) - 1) = false := by rw [bne_eq_false_iff_eq]; omega
              clear HX
              go_wp2
              go_roundw
              case rel => exact ⟨k + 1, _, true, by omega, by go_num, rfl, rfl, HN, (decide_eq_true (by omega) : decide (9 ≤ k + 1) = true), _, rfl⟩
              case measure => simp [intOf]; omega
            · have H0 : Hid (¬ (r[k].toNat : Int) = 40) := h0
              have e0 : ((r[k].toNat : Int) == 40) = false := beq_eq_false_iff_ne.2 h0
              clear h0
              by_cases h1 : (r[k].toNat : Int) = 41
              · have H1 : Hid ((r[k].toNat : Int) = 41) := h1
                have e1 : ((r[k].toNat : Int) == 41) = true := beq_iff_eq.2 h1
                clear h1
                have HN : Hid (Dep r (k + 1) (x - 1)) := dep_shut HX.out hlt H1.out
                have ed : ((x - 1 : Int) == 0) = true := dep_end HR.out HD.out HN.out (by omega)
                have el : ((k : Int) != (r.size : Int) - 1) = false := by rw [bne_eq_false_iff_eq]; omega
                clear HX
                go_wp2
                go_roundw
                case rel => exact ⟨k + 1, _, true, by omega, by go_num, rfl, rfl, HN, (decide_eq_true (by omega) : decide (9 ≤ k + 1) = true), _, rfl⟩
                case measure => simp [intOf]; omega
              · have H1 : Hid (¬ (r[k].toNat : Int) = 41) := h1
                have e1 : ((r[k].toNat : Int) == 41) = false := beq_eq_false_iff_ne.2 h1
                clear h1
                have HN : Hid (Dep r (k + 1) (x)) := dep_other HX.out hlt H0.out H1.out
                have ed : ((x : Int) == 0) = true := dep_end HR.out HD.out HN.out (by omega)
                have el : ((k : Int) != (r.size : Int) - 1) = false := by rw [bne_eq_false_iff_eq]; omega
                clear HX
                go_wp2
                go_roundw
                case rel => exact ⟨k + 1, _, true, by omega, by go_num, rfl, rfl, HN, (decide_eq_true (by omega) : decide (9 ≤ k + 1) = true), _, rfl⟩
                case measure => simp [intOf]; omega
    · go_wp2
      go_ret
      exact ⟨rfl, grown_drewN _ _⟩
end Go.Proofs.Qxb6601886aMods
