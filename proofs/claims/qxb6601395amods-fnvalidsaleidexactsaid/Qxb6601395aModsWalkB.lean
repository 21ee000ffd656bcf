/-
  THE WALKS of seat b6601395aM, second part: the alphabet's search, the model.
-/
import Derived.Test.Qxb6601395aModsWalkA
namespace Go.Proofs.Qxb6601395aMods
open Go.RowKit

set_option maxRecDepth 100000 in
theorem alpha_lit : ∀ k : Fin 64, (((⟨#[65, 66, 67, 68, 69, 70, 71, 72, 73, 74, 75, 76, 77, 78, 79, 80, 81, 82, 83, 84, 85, 86, 87, 88, 89, 90, 97, 98, 99, 100, 101, 102, 103, 104, 105, 106, 107, 108, 109, 110, 111, 112, 113, 114, 115, 116, 117, 118, 119, 120, 121, 122, 48, 49, 50, 51, 52, 53, 54, 55, 56, 57, 95, 45]⟩ : ByteArray)[k.val]'(k.isLt)).toNat : Int) = Pl.alphaAt k.val := by decide
theorem alpha_hit {c : Int} {k : Nat} (hk : k < 64) (h : ((((⟨#[65, 66, 67, 68, 69, 70, 71, 72, 73, 74, 75, 76, 77, 78, 79, 80, 81, 82, 83, 84, 85, 86, 87, 88, 89, 90, 97, 98, 99, 100, 101, 102, 103, 104, 105, 106, 107, 108, 109, 110, 111, 112, 113, 114, 115, 116, 117, 118, 119, 120, 121, 122, 48, 49, 50, 51, 52, 53, 54, 55, 56, 57, 95, 45]⟩ : ByteArray)[k]'hk).toNat : Int) == c) = true) : Pl.okc c = true := by
  have h1 := alpha_lit ⟨k, hk⟩
  have h2 := beq_iff_eq.1 h
  rw [← h2, h1]
  exact Pl.alpha_ok k hk
theorem alpha_miss {c : Int} {k : Nat} (hk : k < 64) (h : ((((⟨#[65, 66, 67, 68, 69, 70, 71, 72, 73, 74, 75, 76, 77, 78, 79, 80, 81, 82, 83, 84, 85, 86, 87, 88, 89, 90, 97, 98, 99, 100, 101, 102, 103, 104, 105, 106, 107, 108, 109, 110, 111, 112, 113, 114, 115, 116, 117, 118, 119, 120, 121, 122, 48, 49, 50, 51, 52, 53, 54, 55, 56, 57, 95, 45]⟩ : ByteArray)[k]'hk).toNat : Int) == c) = false) (hg : Hid (∀ j, j < k → ¬ Pl.alphaAt j = c)) : Hid (∀ j, j < k + 1 → ¬ Pl.alphaAt j = c) := by
  have h1 := alpha_lit ⟨k, hk⟩
  have h2 := beq_eq_false_iff_ne.1 h
  show ∀ j, j < k + 1 → ¬ Pl.alphaAt j = c
  intro j hj
  by_cases e : j = k
  · subst e
    rw [← h1]; exact h2
  · exact hg.out j (by omega)

set_option maxRecDepth 100000 in
set_option maxHeartbeats 1600000 in
theorem alpha_any (c : Int) (w : World) :
    Calls Trym.prog 21 #[.int .u8 c] w fun e w' => e = .returned (.bool (Pl.okc c)) ∧ w' = w := by
  go_enter Trym.func21, Trym.ntmps21
  go_wp2
  go_loop [3] (fun i => ∃ k : Nat, k ≤ 64 ∧ i = .int .i64 k ∧ Hid (∀ j, j < k → ¬ Pl.alphaAt j = c)) (fun i => 64 - (intOf i).toNat)
  case atStart => exact ⟨0, Nat.zero_le _, rfl, (fun j hj => by omega : ∀ j, j < 0 → ¬ Pl.alphaAt j = c)⟩
  case round =>
    obtain ⟨k, hk, rfl, HG⟩ := hrel
    by_cases hlt : k < 64
    · go_wp2
      · go_ret
        exact ⟨ret_bool (alpha_hit hlt (by assumption)).symm, rfl⟩
      · go_round
        case rel => exact ⟨k + 1, by omega, by go_num, alpha_miss hlt (by assumption) HG⟩
        case measure => simp [intOf]; omega
    · go_wp2
      go_ret
      exact ⟨ret_bool (Pl.alpha_all c (fun j hj => HG.out j (by omega))).symm, rfl⟩

set_option maxHeartbeats 800000 in
theorem model_any (s : ByteArray) (w : World) (hs : s.size ≤ 1048576) :
    Calls Trym.prog 11 #[.string s] w fun e w' => e = .returned (.bool (Pl.vld s)) ∧ w' = w := by
  go_enter Trym.func11, Trym.ntmps11
  go_wp2
  go_loop [3, 4] (fun g i => ∃ k m : Nat, k ≤ s.size ∧ m ≤ k ∧ i = .int .i64 k ∧ g = .int .i64 m ∧ Hid (m = Pl.cnt s k)) (fun _ i => s.size - (intOf i).toNat)
  case atStart => exact ⟨0, 0, Nat.zero_le _, Nat.zero_le _, rfl, rfl, (Pl.cnt_zero s).symm⟩
  case round =>
    obtain ⟨k, m, hk, hm, rfl, rfl, HG⟩ := hrel
    by_cases hlt : k < s.size
    · by_cases hok : Pl.okc (s[k].toNat : Int) = true
      · have HO : Hid (Pl.okc (s[k].toNat : Int) = true) := hok
        clear hok
        go_wp2_with (go_at_call 21; refine (alpha_any _ _).mono ?_; rintro e w' ⟨rfl, rfl⟩; rw [HO.out])
        go_round
        case rel => exact ⟨k + 1, m + 1, by omega, by omega, by go_num, by go_num, (show m + 1 = _ by rw [Pl.cnt_hit s k hlt HO.out, ← HG.out])⟩
        case measure => simp [intOf]; omega
      · have HO : Hid (Pl.okc (s[k].toNat : Int) = false) := Bool.eq_false_iff.2 hok
        clear hok
        go_wp2_with (go_at_call 21; refine (alpha_any _ _).mono ?_; rintro e w' ⟨rfl, rfl⟩; rw [HO.out])
        go_round
        case rel => exact ⟨k + 1, m, by omega, by omega, by go_num, rfl, (show m = _ by rw [Pl.cnt_miss s k hlt HO.out, ← HG.out])⟩
        case measure => simp [intOf]; omega
    · have HE : Hid (m = Pl.cnt s s.size) := by rw [show s.size = k by omega]; exact HG
      clear HG
      by_cases h1 : 1 ≤ s.size
      · by_cases h2 : s.size ≤ 64
        · have hv := Pl.vld_cnt s h1 h2
          rw [← HE.out] at hv
          by_cases hq : m = s.size
          · have HV : Hid (Pl.vld s = true) := by rw [decide_eq_true hq] at hv; exact hv
            have hqb : ((m : Int) == (s.size : Int)) = true := beq_iff_eq.2 (by omega)
            clear hv
            go_wp2
            go_ret
            exact ⟨ret_bool (by rw [HV.out]), rfl⟩
          · have HV : Hid (Pl.vld s = false) := by rw [decide_eq_false hq] at hv; exact hv
            have hqb : ((m : Int) == (s.size : Int)) = false := beq_eq_false_iff_ne.2 (by omega)
            clear hv
            go_wp2
            go_ret
            exact ⟨ret_bool (by rw [HV.out]), rfl⟩
        · have HV : Hid (Pl.vld s = false) := Pl.vld_long s (by omega)
          have d2 : decide ((s.size : Int) ≤ 64) = false := decide_eq_false (by omega)
          go_wp2
          go_ret
          exact ⟨ret_bool (by rw [HV.out]), rfl⟩
      · have HV : Hid (Pl.vld s = false) := Pl.vld_empty s (by omega)
        have d1 : decide ((1 : Int) ≤ s.size) = false := decide_eq_false (by omega)
        go_wp2
        go_ret
        exact ⟨ret_bool (by rw [HV.out]), rfl⟩
end Go.Proofs.Qxb6601395aMods
