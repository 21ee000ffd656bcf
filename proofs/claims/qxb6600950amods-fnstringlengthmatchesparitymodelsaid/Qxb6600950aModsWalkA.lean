/-
  THE WALKS of seat b6600950aM, first part: the bound's test, stringLength, its shim, the parity model.
-/
import Derived.Test.Qxb6600950aModsRows
import Derived.Test.Qxb6600950aModsPlain
import Derived.WalkKit
import Derived.Deep.QuietTactic
import Derived.BigQuiet
namespace Go.Proofs.Qxb6600950aMods
open Go.RowKit

theorem ret_int {k : IntKind} {a b : Int} (h : a = b) : Ending.returned (.int k a) = .returned (.int k b) := by rw [h]

set_option maxHeartbeats 400000 in
theorem bound_no (a : Option Addr) (len cap : Nat) (w : World) (h : 1048576 < len) (hm : len ≤ maxLen) :
    Calls Trym.prog 6 #[.slice a len cap] w fun e w' => e = .returned (.bool false) ∧ w' = w := by
  unfold maxLen at hm
  go_enter Trym.func6, Trym.ntmps6
  go_wp2
  go_ret
  exact ⟨rfl, rfl⟩

set_option maxHeartbeats 400000 in
theorem bound_yes (a : Option Addr) (len cap : Nat) (w : World) (h : len ≤ 1048576) :
    Calls Trym.prog 6 #[.slice a len cap] w fun e w' => e = .returned (.bool true) ∧ w' = w := by
  go_enter Trym.func6, Trym.ntmps6
  go_wp2
  go_ret
  exact ⟨rfl, rfl⟩

set_option maxHeartbeats 800000 in
theorem sl_any (b off len cap : Nat) (zs : List Int) (w : World) (hz0 : zs.length = len) (hlen : len ≤ 1048576)
    (hc0 : ∀ i, i < len → w.cell? ⟨b, off + i, none⟩ = some (.int .u8 (zs.getD i 0))) :
    Calls Trym.prog 14 #[.slice (some ⟨b, off, none⟩) len cap] w fun e w' => e = .returned (.int .i64 (Pl.slen zs)) ∧ w' = w := by
  have HZ : Hid (zs.length = len) := hz0
  have HC : Hid (∀ i, i < len → w.cell? ⟨b, off + i, none⟩ = some (.int .u8 (zs.getD i 0))) := hc0
  clear hz0 hc0
  go_enter Trym.func14, Trym.ntmps14
  go_wp2
  go_loop [3] (fun i => ∃ k : Nat, k ≤ len + 1 ∧ i = .int .i64 k ∧ Pl.At zs false k) (fun i => len + 1 - (intOf i).toNat)
  case atStart => exact ⟨1, by omega, rfl, Pl.at_one zs⟩
  case round =>
    obtain ⟨k, hk, rfl, hat⟩ := hrel
    by_cases hlt : k < len
    · obtain ⟨c, hcz⟩ : ∃ c, c = zs.getD k 0 := ⟨_, rfl⟩
      have hcell : w.cell? ⟨b, off + k, none⟩ = some (.int .u8 c) := by rw [hcz]; exact HC.out k hlt
      have HD : Hid (c = zs.getD k 0) := hcz
      have hkz : k < zs.length := by rw [HZ.out]; exact hlt
      have HK : Hid (k < zs.length) := hkz
      clear hcz hkz
      by_cases h92 : c = 92
      · have H92 : Hid (c = 92) := h92
        have e92 : (c == 92) = true := by simp [h92]
        clear h92
        go_wp2
        go_round
        case rel => exact ⟨k + 2, by omega, by go_num, Pl.scan_esc hat HK.out (HD.out ▸ H92.out)⟩
        case measure => simp [intOf]; omega
      · have H92 : Hid (¬ c = 92) := h92
        have e92 : (c == 92) = false := by simp [h92]
        clear h92
        by_cases h34 : c = 34
        · have H34 : Hid (c = 34) := h34
          have e34 : (c == 34) = true := by simp [h34]
          clear h34
          go_wp2
          go_ret
          exact ⟨ret_int (by rw [Pl.at_hit hat HK.out (HD.out ▸ H34.out)]; omega), rfl⟩
        · have H34 : Hid (¬ c = 34) := h34
          have e34 : (c == 34) = false := by simp [h34]
          clear h34
          go_wp2
          go_round
          case rel => exact ⟨k + 1, by omega, by go_num, Pl.scan_step hat HK.out (HD.out ▸ H92.out) (HD.out ▸ H34.out)⟩
          case measure => simp [intOf]; omega
    · go_wp2
      go_ret
      exact ⟨ret_int (by rw [Pl.at_end hat (by rw [HZ.out]; omega), HZ.out]), rfl⟩

/-- The empty slice, whatever its address. -/
theorem sl_empty (a : Option Addr) (cap : Nat) (w : World) :
    Calls Trym.prog 14 #[.slice a 0 cap] w fun e w' => e = .returned (.int .i64 0) ∧ w' = w := by
  go_enter Trym.func14, Trym.ntmps14
  go_wp2
  refine wp_loop_rounds 1 ?_
  rw [rounds_succ]
  go_wp2
  go_ret
  exact ⟨rfl, rfl⟩
end Go.Proofs.Qxb6600950aMods
