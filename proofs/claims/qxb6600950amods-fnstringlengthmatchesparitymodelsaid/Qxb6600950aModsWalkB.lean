/-
  THE WALKS of seat b6600950aM, second part: the parity model; the shim of stringLength.
-/
import Derived.Test.Qxb6600950aModsWalkA
namespace Go.Proofs.Qxb6600950aMods
open Go.RowKit

theorem run_eq {zs : List Int} {m q k : Nat} (h : Hid (m + Pl.run zs (q + 1) = Pl.run zs k)) (h1 : Pl.run zs (q + 1) = Pl.run zs q + 1) : m + 1 + Pl.run zs q = Pl.run zs k := by
  have := h.out; omega
theorem run_back {zs : List Int} {m q k : Nat} (hq : 1 ≤ q) (h : Hid (m + Pl.run zs (q + 1) = Pl.run zs k)) (hz : zs.getD q 0 = 92) : Hid (m + 1 + Pl.run zs (q - 1 + 1) = Pl.run zs k) := by
  have e := run_eq h (Pl.run_hit zs q hq hz)
  rw [← show q - 1 + 1 = q from by omega] at e
  exact e
theorem run_stop {zs : List Int} {m q k : Nat} (h : Hid (m + Pl.run zs (q + 1) = Pl.run zs k)) (h1 : Pl.run zs (q + 1) = 0) : Hid (Pl.run zs k = m) := by
  have := h.out
  exact (show Pl.run zs k = m from by omega)

set_option maxHeartbeats 1600000 in
theorem par_any (b off len cap : Nat) (zs : List Int) (w : World) (hz0 : zs.length = len) (hlen : len ≤ 1048576)
    (hc0 : ∀ i, i < len → w.cell? ⟨b, off + i, none⟩ = some (.int .u8 (zs.getD i 0))) :
    Calls Trym.prog 9 #[.slice (some ⟨b, off, none⟩) len cap] w fun e w' => e = .returned (.int .i64 (Pl.slen zs)) ∧ w' = w := by
  have HZ : Hid (zs.length = len) := hz0
  have HC : Hid (∀ i, i < len → w.cell? ⟨b, off + i, none⟩ = some (.int .u8 (zs.getD i 0))) := hc0
  clear hz0 hc0
  go_enter Trym.func9, Trym.ntmps9
  go_wp2
  go_loop [3] (fun i => ∃ k : Nat, 1 ≤ k ∧ k ≤ len + 1 ∧ i = .int .i64 k ∧ Pl.At zs (Pl.odd (Pl.run zs k)) k) (fun i => len + 1 - (intOf i).toNat)
  case atStart => exact ⟨1, by omega, by omega, rfl, Pl.par_one zs⟩
  case round =>
    obtain ⟨k, hk1, hk, rfl, hat⟩ := hrel
    by_cases hlt : k < len
    · obtain ⟨c, hcz⟩ : ∃ c, c = zs.getD k 0 := ⟨_, rfl⟩
      have hcell : w.cell? ⟨b, off + k, none⟩ = some (.int .u8 c) := by rw [hcz]; exact HC.out k hlt
      have HD : Hid (c = zs.getD k 0) := hcz
      have hkz : k < zs.length := by rw [HZ.out]; exact hlt
      have HK : Hid (k < zs.length) := hkz
      clear hcz hkz
      by_cases h34 : c = 34
      · have H34 : Hid (c = 34) := h34
        have e34 : (c != 34) = false := by simp [h34]
        clear h34
        go_wp2
        go_loop [4, 5] (fun r j => ∃ q m : Nat, q < k ∧ m ≤ k ∧ j = .int .i64 q ∧ r = .int .i64 m ∧ Hid (m + Pl.run zs (q + 1) = Pl.run zs k)) (fun _ j => (intOf j).toNat)
        case atStart =>
          exact ⟨k - 1, 0, by omega, by omega, by go_num, rfl, (show 0 + Pl.run zs (k - 1 + 1) = Pl.run zs k from by rw [show k - 1 + 1 = k from by omega]; omega)⟩
        case round =>
          obtain ⟨q, m, hq, hm, rfl, rfl, HR⟩ := hrel
          by_cases hq1 : 1 ≤ q
          · obtain ⟨d, hdz⟩ : ∃ d, d = zs.getD q 0 := ⟨_, rfl⟩
            have hdcell : w.cell? ⟨b, off + q, none⟩ = some (.int .u8 d) := by rw [hdz]; exact HC.out q (by omega)
            have HE : Hid (d = zs.getD q 0) := hdz
            clear hdz
            by_cases h92 : d = 92
            · have H92 : Hid (d = 92) := h92
              have e92 : (d == 92) = true := by simp [h92]
              clear h92
              go_wp2
              go_round
              case rel => exact ⟨q - 1, m + 1, by omega, by have := run_eq HR (Pl.run_hit zs q hq1 (HE.out ▸ H92.out)); have := Pl.run_le zs k; omega, by go_num, by go_num, run_back hq1 HR (HE.out ▸ H92.out)⟩
              case measure => simp [intOf]; omega
            · have H92 : Hid (¬ d = 92) := h92
              have e92 : (d == 92) = false := by simp [h92]
              clear h92
              have HM : Hid (Pl.run zs k = m) := run_stop HR (Pl.run_miss zs q (HE.out ▸ H92.out))
              clear HR
              by_cases hev : m % 2 = 0
              · have hm2 : ((m : Int) % 2 == 0) = true := by simp; omega
                go_wp2
                go_ret
                exact ⟨ret_int (by rw [Pl.par_hit hat HK.out (HD.out ▸ H34.out) (by rw [HM.out]; exact hev)]; omega), rfl⟩
              · have hm2 : ((m : Int) % 2 == 0) = false := by simp; omega
                go_wp2
                go_round
                case rel => exact ⟨k + 1, by omega, by omega, by go_num, Pl.par_step hat HK.out (fun h => hev (by rw [← HM.out]; exact h.2))⟩
                case measure => simp [intOf]; omega
          · have HM : Hid (Pl.run zs k = m) := run_stop HR (by rw [show q = 0 from by omega]; exact Pl.run_one zs)
            clear HR
            by_cases hev : m % 2 = 0
            · have hm2 : ((m : Int) % 2 == 0) = true := by simp; omega
              go_wp2
              go_ret
              exact ⟨ret_int (by rw [Pl.par_hit hat HK.out (HD.out ▸ H34.out) (by rw [HM.out]; exact hev)]; omega), rfl⟩
            · have hm2 : ((m : Int) % 2 == 0) = false := by simp; omega
              go_wp2
              go_round
              case rel => exact ⟨k + 1, by omega, by omega, by go_num, Pl.par_step hat HK.out (fun h => hev (by rw [← HM.out]; exact h.2))⟩
              case measure => simp [intOf]; omega
      · have H34 : Hid (¬ c = 34) := h34
        have e34 : (c != 34) = true := by simp [h34]
        clear h34
        go_wp2
        go_round
        case rel => exact ⟨k + 1, by omega, by omega, by go_num, Pl.par_step hat HK.out (fun h => H34.out (HD.out.trans h.1))⟩
        case measure => simp [intOf]; omega
    · go_wp2
      go_ret
      exact ⟨ret_int (by rw [Pl.at_end hat (by rw [HZ.out]; omega), HZ.out]), rfl⟩
theorem par_empty (a : Option Addr) (cap : Nat) (w : World) :
    Calls Trym.prog 9 #[.slice a 0 cap] w fun e w' => e = .returned (.int .i64 0) ∧ w' = w := by
  go_enter Trym.func9, Trym.ntmps9
  go_wp2
  refine wp_loop_rounds 1 ?_
  rw [rounds_succ]
  go_wp2
  go_ret
  exact ⟨rfl, rfl⟩

/-- WHAT IS KNOWN OF A SLICE OF BYTES: its elements are zs, and they lie where it points (an empty one points wherever it likes; one that points nowhere has no room). -/
def Has (w : World) (v : Value) (zs : List Int) : Prop :=
  ∃ a cap, v = .slice a zs.length cap ∧ (a = none → cap = 0) ∧ (zs ≠ [] → ∃ b off, a = some ⟨b, off, none⟩ ∧ ∀ i, i < zs.length → w.cell? ⟨b, off + i, none⟩ = some (.int .u8 (zs.getD i 0)))

theorem sl_has (v : Value) (zs : List Int) (w : World) (h : Has w v zs) (hlen : zs.length ≤ 1048576) :
    Calls Trym.prog 14 #[v] w fun e w' => e = .returned (.int .i64 (Pl.slen zs)) ∧ w' = w := by
  obtain ⟨a, cap, rfl, _, h⟩ := h
  by_cases hz : zs = []
  · subst hz
    exact sl_empty a cap w
  · obtain ⟨b, off, rfl, hc⟩ := h hz
    exact sl_any b off zs.length cap zs w rfl hlen hc
theorem par_has (v : Value) (zs : List Int) (w : World) (h : Has w v zs) (hlen : zs.length ≤ 1048576) :
    Calls Trym.prog 9 #[v] w fun e w' => e = .returned (.int .i64 (Pl.slen zs)) ∧ w' = w := by
  obtain ⟨a, cap, rfl, _, h⟩ := h
  by_cases hz : zs = []
  · subst hz
    exact par_empty a cap w
  · obtain ⟨b, off, rfl, hc⟩ := h hz
    exact par_any b off zs.length cap zs w rfl hlen hc

theorem zz_has (v : Value) (zs : List Int) (w : World) (h : Has w v zs) (hlen : zs.length ≤ 1048576) :
    Calls Trym.prog 8 #[v] w fun e w' => e = .returned (.int .i64 (Pl.slen zs)) ∧ w' = w := by
  go_enter Trym.func8, Trym.ntmps8
  go_wp2_with (go_at_call 14; refine (sl_has _ zs _ h hlen).mono ?_; rintro e w' ⟨rfl, rfl⟩)
  go_ret
  exact ⟨rfl, rfl⟩
end Go.Proofs.Qxb6600950aMods
