/-
  THE WALKS of seat b6601395aM, first part: the bound's test, validSaleID and its shim.
-/
import Derived.Test.Qxb6601395aModsRows
import Derived.Test.Qxb6601395aModsPlain
import Derived.WalkKit
namespace Go.Proofs.Qxb6601395aMods
open Go.RowKit

theorem ret_bool {a b : Bool} (h : a = b) : Ending.returned (.bool a) = .returned (.bool b) := by rw [h]

set_option maxHeartbeats 400000 in
theorem bound_no (s : ByteArray) (w : World) (h : 1048576 < s.size) (hm : s.size ≤ maxLen) :
    Calls Trym.prog 9 #[.string s] w fun e w' => e = .returned (.bool false) ∧ w' = w := by
  unfold maxLen at hm
  go_enter Trym.func9, Trym.ntmps9
  go_wp2
  go_ret
  exact ⟨rfl, rfl⟩

set_option maxHeartbeats 400000 in
theorem bound_yes (s : ByteArray) (w : World) (h : s.size ≤ 1048576) :
    Calls Trym.prog 9 #[.string s] w fun e w' => e = .returned (.bool true) ∧ w' = w := by
  go_enter Trym.func9, Trym.ntmps9
  go_wp2
  go_ret
  exact ⟨rfl, rfl⟩

theorem list_nil {s : ByteArray} (h : s.size = 0) : s.toList = [] := by
  rw [ByteArray.toList_eq]
  exact List.eq_nil_of_length_eq_zero (by rw [Array.length_toList]; exact h)
theorem list_ne {s : ByteArray} (h : 1 ≤ s.size) : s.toList.isEmpty = false := by
  rw [ByteArray.toList_eq]
  cases e : s.data.toList with
  | nil =>
    have h2 : s.data.toList.length = s.size := by rw [Array.length_toList]; rfl
    rw [e] at h2
    exact absurd h (by rw [← h2]; decide)
  | cons _ _ => rfl

set_option maxHeartbeats 800000 in
theorem valid_empty (s : ByteArray) (w : World) (h0 : s.toList = []) :
    Calls Trym.prog 20 #[.string s] w fun e w' => e = .returned (.bool false) ∧ w' = w := by
  go_enter Trym.func20, Trym.ntmps20
  go_wp2
  go_ret
  exact ⟨rfl, rfl⟩

set_option maxHeartbeats 800000 in
theorem valid_long (s : ByteArray) (w : World) (h0 : s.toList.isEmpty = false) (_h1 : ¬ s.toList = []) (hl : 64 < s.size) (hs : s.size ≤ 1048576) :
    Calls Trym.prog 20 #[.string s] w fun e w' => e = .returned (.bool false) ∧ w' = w := by
  go_enter Trym.func20, Trym.ntmps20
  go_wp2
  go_ret
  exact ⟨rfl, rfl⟩

set_option maxRecDepth 100000 in
set_option maxHeartbeats 1600000 in
theorem valid_mid (s : ByteArray) (w : World) (h0 : s.toList.isEmpty = false) (_h1 : ¬ s.toList = []) (hp : 1 ≤ s.size) (hl : s.size ≤ 64) :
    Calls Trym.prog 20 #[.string s] w fun e w' => e = .returned (.bool (Pl.vld s)) ∧ w' = w := by
  go_enter Trym.func20, Trym.ntmps20
  go_wp2
  go_loop [3] (fun i => ∃ k : Nat, k ≤ s.size ∧ i = .int .i64 k ∧ Hid (Pl.goodTo s k)) (fun i => s.size - (intOf i).toNat)
  case atStart => exact ⟨0, Nat.zero_le _, rfl, Pl.good_zero s⟩
  case round =>
    obtain ⟨k, hk, rfl, HG⟩ := hrel
    by_cases hlt : k < s.size
    · have hc256 : (s[k].toNat : Int) < 256 := by have := s[k].toNat_lt; omega
      rcases (show (97 ≤ (s[k].toNat : Int) ∧ (s[k].toNat : Int) ≤ 122) ∨ (65 ≤ (s[k].toNat : Int) ∧ (s[k].toNat : Int) ≤ 90) ∨ (48 ≤ (s[k].toNat : Int) ∧ (s[k].toNat : Int) ≤ 57) ∨ (95 ≤ (s[k].toNat : Int) ∧ (s[k].toNat : Int) ≤ 95) ∨ (45 ≤ (s[k].toNat : Int) ∧ (s[k].toNat : Int) ≤ 45) ∨ (123 ≤ (s[k].toNat : Int) ∧ (s[k].toNat : Int) ≤ 255) ∨ (96 ≤ (s[k].toNat : Int) ∧ (s[k].toNat : Int) ≤ 96) ∨ (91 ≤ (s[k].toNat : Int) ∧ (s[k].toNat : Int) ≤ 94) ∨ (58 ≤ (s[k].toNat : Int) ∧ (s[k].toNat : Int) ≤ 64) ∨ (46 ≤ (s[k].toNat : Int) ∧ (s[k].toNat : Int) ≤ 47) ∨ (0 ≤ (s[k].toNat : Int) ∧ (s[k].toNat : Int) ≤ 44) from by omega) with ⟨ha, hb⟩ | ⟨ha, hb⟩ | ⟨ha, hb⟩ | ⟨ha, hb⟩ | ⟨ha, hb⟩ | ⟨ha, hb⟩ | ⟨ha, hb⟩ | ⟨ha, hb⟩ | ⟨ha, hb⟩ | ⟨ha, hb⟩ | ⟨ha, hb⟩
      · have e95 : ((s[k].toNat : Int) == 95) = false := beq_eq_false_iff_ne.2 (by omega)
        have e45 : ((s[k].toNat : Int) == 45) = false := beq_eq_false_iff_ne.2 (by omega)
        have d0 : decide (97 ≤ (s[k].toNat : Int)) = true := decide_eq_true (by omega)
        have d1 : decide ((s[k].toNat : Int) ≤ 122) = true := decide_eq_true (by omega)
        have d2 : decide (65 ≤ (s[k].toNat : Int)) = true := decide_eq_true (by omega)
        have d3 : decide ((s[k].toNat : Int) ≤ 90) = false := decide_eq_false (by omega)
        have d4 : decide (48 ≤ (s[k].toNat : Int)) = true := decide_eq_true (by omega)
        have d5 : decide ((s[k].toNat : Int) ≤ 57) = false := decide_eq_false (by omega)
        go_wp2
        go_round
        case rel => exact ⟨k + 1, by omega, by go_num, Pl.good_succ HG.out hlt (decide_eq_true (by omega))⟩
        case measure => simp [intOf]; omega
      · have e95 : ((s[k].toNat : Int) == 95) = false := beq_eq_false_iff_ne.2 (by omega)
        have e45 : ((s[k].toNat : Int) == 45) = false := beq_eq_false_iff_ne.2 (by omega)
        have d0 : decide (97 ≤ (s[k].toNat : Int)) = false := decide_eq_false (by omega)
        have d1 : decide ((s[k].toNat : Int) ≤ 122) = true := decide_eq_true (by omega)
        have d2 : decide (65 ≤ (s[k].toNat : Int)) = true := decide_eq_true (by omega)
        have d3 : decide ((s[k].toNat : Int) ≤ 90) = true := decide_eq_true (by omega)
        have d4 : decide (48 ≤ (s[k].toNat : Int)) = true := decide_eq_true (by omega)
        have d5 : decide ((s[k].toNat : Int) ≤ 57) = false := decide_eq_false (by omega)
        go_wp2
        go_round
        case rel => exact ⟨k + 1, by omega, by go_num, Pl.good_succ HG.out hlt (decide_eq_true (by omega))⟩
        case measure => simp [intOf]; omega
      · have e95 : ((s[k].toNat : Int) == 95) = false := beq_eq_false_iff_ne.2 (by omega)
        have e45 : ((s[k].toNat : Int) == 45) = false := beq_eq_false_iff_ne.2 (by omega)
        have d0 : decide (97 ≤ (s[k].toNat : Int)) = false := decide_eq_false (by omega)
        have d1 : decide ((s[k].toNat : Int) ≤ 122) = true := decide_eq_true (by omega)
        have d2 : decide (65 ≤ (s[k].toNat : Int)) = false := decide_eq_false (by omega)
        have d3 : decide ((s[k].toNat : Int) ≤ 90) = true := decide_eq_true (by omega)
        have d4 : decide (48 ≤ (s[k].toNat : Int)) = true := decide_eq_true (by omega)
        have d5 : decide ((s[k].toNat : Int) ≤ 57) = true := decide_eq_true (by omega)
        go_wp2
        go_round
        case rel => exact ⟨k + 1, by omega, by go_num, Pl.good_succ HG.out hlt (decide_eq_true (by omega))⟩
        case measure => simp [intOf]; omega
      · have e95 : ((s[k].toNat : Int) == 95) = true := beq_iff_eq.2 (by omega)
        have e45 : ((s[k].toNat : Int) == 45) = false := beq_eq_false_iff_ne.2 (by omega)
        have d0 : decide (97 ≤ (s[k].toNat : Int)) = false := decide_eq_false (by omega)
        have d1 : decide ((s[k].toNat : Int) ≤ 122) = true := decide_eq_true (by omega)
        have d2 : decide (65 ≤ (s[k].toNat : Int)) = true := decide_eq_true (by omega)
        have d3 : decide ((s[k].toNat : Int) ≤ 90) = false := decide_eq_false (by omega)
        have d4 : decide (48 ≤ (s[k].toNat : Int)) = true := decide_eq_true (by omega)
        have d5 : decide ((s[k].toNat : Int) ≤ 57) = false := decide_eq_false (by omega)
        go_wp2
        go_round
        case rel => exact ⟨k + 1, by omega, by go_num, Pl.good_succ HG.out hlt (decide_eq_true (by omega))⟩
        case measure => simp [intOf]; omega
      · have e95 : ((s[k].toNat : Int) == 95) = false := beq_eq_false_iff_ne.2 (by omega)
        have e45 : ((s[k].toNat : Int) == 45) = true := beq_iff_eq.2 (by omega)
        have d0 : decide (97 ≤ (s[k].toNat : Int)) = false := decide_eq_false (by omega)
        have d1 : decide ((s[k].toNat : Int) ≤ 122) = true := decide_eq_true (by omega)
        have d2 : decide (65 ≤ (s[k].toNat : Int)) = false := decide_eq_false (by omega)
        have d3 : decide ((s[k].toNat : Int) ≤ 90) = true := decide_eq_true (by omega)
        have d4 : decide (48 ≤ (s[k].toNat : Int)) = false := decide_eq_false (by omega)
        have d5 : decide ((s[k].toNat : Int) ≤ 57) = true := decide_eq_true (by omega)
        go_wp2
        go_round
        case rel => exact ⟨k + 1, by omega, by go_num, Pl.good_succ HG.out hlt (decide_eq_true (by omega))⟩
        case measure => simp [intOf]; omega
      · have e95 : ((s[k].toNat : Int) == 95) = false := beq_eq_false_iff_ne.2 (by omega)
        have e45 : ((s[k].toNat : Int) == 45) = false := beq_eq_false_iff_ne.2 (by omega)
        have d0 : decide (97 ≤ (s[k].toNat : Int)) = true := decide_eq_true (by omega)
        have d1 : decide ((s[k].toNat : Int) ≤ 122) = false := decide_eq_false (by omega)
        have d2 : decide (65 ≤ (s[k].toNat : Int)) = true := decide_eq_true (by omega)
        have d3 : decide ((s[k].toNat : Int) ≤ 90) = false := decide_eq_false (by omega)
        have d4 : decide (48 ≤ (s[k].toNat : Int)) = true := decide_eq_true (by omega)
        have d5 : decide ((s[k].toNat : Int) ≤ 57) = false := decide_eq_false (by omega)
        go_wp2
        go_ret
        exact ⟨ret_bool (Pl.vld_bad s k hlt (decide_eq_false (by omega))).symm, rfl⟩
      · have e95 : ((s[k].toNat : Int) == 95) = false := beq_eq_false_iff_ne.2 (by omega)
        have e45 : ((s[k].toNat : Int) == 45) = false := beq_eq_false_iff_ne.2 (by omega)
        have d0 : decide (97 ≤ (s[k].toNat : Int)) = false := decide_eq_false (by omega)
        have d1 : decide ((s[k].toNat : Int) ≤ 122) = true := decide_eq_true (by omega)
        have d2 : decide (65 ≤ (s[k].toNat : Int)) = true := decide_eq_true (by omega)
        have d3 : decide ((s[k].toNat : Int) ≤ 90) = false := decide_eq_false (by omega)
        have d4 : decide (48 ≤ (s[k].toNat : Int)) = true := decide_eq_true (by omega)
        have d5 : decide ((s[k].toNat : Int) ≤ 57) = false := decide_eq_false (by omega)
        go_wp2
        go_ret
        exact ⟨ret_bool (Pl.vld_bad s k hlt (decide_eq_false (by omega))).symm, rfl⟩
      · have e95 : ((s[k].toNat : Int) == 95) = false := beq_eq_false_iff_ne.2 (by omega)
        have e45 : ((s[k].toNat : Int) == 45) = false := beq_eq_false_iff_ne.2 (by omega)
        have d0 : decide (97 ≤ (s[k].toNat : Int)) = false := decide_eq_false (by omega)
        have d1 : decide ((s[k].toNat : Int) ≤ 122) = true := decide_eq_true (by omega)
        have d2 : decide (65 ≤ (s[k].toNat : Int)) = true := decide_eq_true (by omega)
        have d3 : decide ((s[k].toNat : Int) ≤ 90) = false := decide_eq_false (by omega)
        have d4 : decide (48 ≤ (s[k].toNat : Int)) = true := decide_eq_true (by omega)
        have d5 : decide ((s[k].toNat : Int) ≤ 57) = false := decide_eq_false (by omega)
        go_wp2
        go_ret
        exact ⟨ret_bool (Pl.vld_bad s k hlt (decide_eq_false (by omega))).symm, rfl⟩
      · have e95 : ((s[k].toNat : Int) == 95) = false := beq_eq_false_iff_ne.2 (by omega)
        have e45 : ((s[k].toNat : Int) == 45) = false := beq_eq_false_iff_ne.2 (by omega)
        have d0 : decide (97 ≤ (s[k].toNat : Int)) = false := decide_eq_false (by omega)
        have d1 : decide ((s[k].toNat : Int) ≤ 122) = true := decide_eq_true (by omega)
        have d2 : decide (65 ≤ (s[k].toNat : Int)) = false := decide_eq_false (by omega)
        have d3 : decide ((s[k].toNat : Int) ≤ 90) = true := decide_eq_true (by omega)
        have d4 : decide (48 ≤ (s[k].toNat : Int)) = true := decide_eq_true (by omega)
        have d5 : decide ((s[k].toNat : Int) ≤ 57) = false := decide_eq_false (by omega)
        go_wp2
        go_ret
        exact ⟨ret_bool (Pl.vld_bad s k hlt (decide_eq_false (by omega))).symm, rfl⟩
      · have e95 : ((s[k].toNat : Int) == 95) = false := beq_eq_false_iff_ne.2 (by omega)
        have e45 : ((s[k].toNat : Int) == 45) = false := beq_eq_false_iff_ne.2 (by omega)
        have d0 : decide (97 ≤ (s[k].toNat : Int)) = false := decide_eq_false (by omega)
        have d1 : decide ((s[k].toNat : Int) ≤ 122) = true := decide_eq_true (by omega)
        have d2 : decide (65 ≤ (s[k].toNat : Int)) = false := decide_eq_false (by omega)
        have d3 : decide ((s[k].toNat : Int) ≤ 90) = true := decide_eq_true (by omega)
        have d4 : decide (48 ≤ (s[k].toNat : Int)) = false := decide_eq_false (by omega)
        have d5 : decide ((s[k].toNat : Int) ≤ 57) = true := decide_eq_true (by omega)
        go_wp2
        go_ret
        exact ⟨ret_bool (Pl.vld_bad s k hlt (decide_eq_false (by omega))).symm, rfl⟩
      · have e95 : ((s[k].toNat : Int) == 95) = false := beq_eq_false_iff_ne.2 (by omega)
        have e45 : ((s[k].toNat : Int) == 45) = false := beq_eq_false_iff_ne.2 (by omega)
        have d0 : decide (97 ≤ (s[k].toNat : Int)) = false := decide_eq_false (by omega)
        have d1 : decide ((s[k].toNat : Int) ≤ 122) = true := decide_eq_true (by omega)
        have d2 : decide (65 ≤ (s[k].toNat : Int)) = false := decide_eq_false (by omega)
        have d3 : decide ((s[k].toNat : Int) ≤ 90) = true := decide_eq_true (by omega)
        have d4 : decide (48 ≤ (s[k].toNat : Int)) = false := decide_eq_false (by omega)
        have d5 : decide ((s[k].toNat : Int) ≤ 57) = true := decide_eq_true (by omega)
        go_wp2
        go_ret
        exact ⟨ret_bool (Pl.vld_bad s k hlt (decide_eq_false (by omega))).symm, rfl⟩
    · go_wp2
      go_ret
      exact ⟨ret_bool (Pl.good_all HG.out (by omega) hp hl).symm, rfl⟩

theorem valid_any (s : ByteArray) (w : World) (hs : s.size ≤ 1048576) :
    Calls Trym.prog 20 #[.string s] w fun e w' => e = .returned (.bool (Pl.vld s)) ∧ w' = w := by
  by_cases h0 : s.size = 0
  · rw [Pl.vld_empty s h0]
    exact valid_empty s w (list_nil h0)
  · have he := list_ne (s := s) (by omega)
    have hn : ¬ s.toList = [] := fun h => by rw [h] at he; cases he
    by_cases h64 : 64 < s.size
    · rw [Pl.vld_long s h64]
      exact valid_long s w he hn h64 hs
    · exact valid_mid s w he hn (by omega) (by omega)

theorem zz_valid (s : ByteArray) (w : World) (hs : s.size ≤ 1048576) :
    Calls Trym.prog 10 #[.string s] w fun e w' => e = .returned (.bool (Pl.vld s)) ∧ w' = w := by
  go_enter Trym.func10, Trym.ntmps10
  go_wp2_with (go_at_call 20; refine (valid_any s _ hs).mono ?_; rintro e w' ⟨rfl, rfl⟩)
  go_ret
  exact ⟨rfl, rfl⟩
end Go.Proofs.Qxb6601395aMods
