/-
  THE WALKS of seat b6601886aM: the bound's test, parenShape, hasPrefix, hasSuffix.
-/
import Derived.Test.Qxb6601886aModsRows
import Derived.Test.Qxb6601886aModsPlain
import Derived.WalkKit
import Derived.Deep.QuietTactic
import Derived.BigQuiet
namespace Go.Proofs.Qxb6601886aMods
open Go.RowKit

theorem ret_bool {a b : Bool} (h : a = b) : Ending.returned (.bool a) = .returned (.bool b) := by rw [h]

set_option maxHeartbeats 400000 in
theorem bound_no (s : ByteArray) (w : World) (h : 1048576 < s.size) (hm : s.size ≤ maxLen) :
    Calls Trym.prog 10 #[.string s] w fun e w' => e = .returned (.bool false) ∧ w' = w := by
  unfold maxLen at hm
  go_enter Trym.func10, Trym.ntmps10
  go_wp2
  go_ret
  exact ⟨rfl, rfl⟩

set_option maxHeartbeats 400000 in
theorem bound_yes (s : ByteArray) (w : World) (h : s.size ≤ 1048576) :
    Calls Trym.prog 10 #[.string s] w fun e w' => e = .returned (.bool true) ∧ w' = w := by
  go_enter Trym.func10, Trym.ntmps10
  go_wp2
  go_ret
  exact ⟨rfl, rfl⟩

/-- What parenShape has gathered behind k bytes. -/
def At (s : ByteArray) (k : Nat) (d l q : Int) : Prop := d = Pl.D ((Pl.bytes s).take k) ∧ l = Pl.M ((Pl.bytes s).take k) ∧ q = Pl.Q ((Pl.bytes s).take k)
theorem at_zero (s : ByteArray) : At s 0 0 0 0 := ⟨by simp [Pl.D], by simp [Pl.M], by simp [Pl.Q]⟩
theorem at_bd {s : ByteArray} {k : Nat} {d l q : Int} (h : At s k d l q) : -(k : Int) ≤ d ∧ d ≤ k ∧ -(k : Int) ≤ l ∧ l ≤ 0 ∧ 0 ≤ q ∧ q ≤ k ∧ l ≤ d := by
  obtain ⟨rfl, rfl, rfl⟩ := h
  have h0 : ((Pl.bytes s).take k).length ≤ k := List.length_take_le _ _
  have h1 := Pl.D_bd ((Pl.bytes s).take k)
  have h2 := Pl.M_bd ((Pl.bytes s).take k)
  have h3 := Pl.M_le ((Pl.bytes s).take k)
  have h4 := Pl.Q_bd ((Pl.bytes s).take k)
  have h5 := Pl.M_le_D ((Pl.bytes s).take k)
  omega
theorem at_open {s : ByteArray} {k : Nat} {d l q : Int} (h : At s k d l q) (hk : k < s.size) (hc : (s[k].toNat : Int) = 40) : At s (k + 1) (d + 1) l q := by
  have hb := at_bd h
  obtain ⟨e1, e2, e3⟩ := h
  unfold At
  rw [Pl.bytes_take s k hk, Pl.D_snoc, Pl.M_snoc, Pl.Q_snoc, hc, Pl.dl_open, ← e1, ← e2, ← e3]
  simp; omega
theorem at_shut {s : ByteArray} {k : Nat} {d l q : Int} (h : At s k d l q) (hk : k < s.size) (hc : (s[k].toNat : Int) = 41) : At s (k + 1) (d - 1) (if d - 1 < l then d - 1 else l) q := by
  obtain ⟨e1, e2, e3⟩ := h
  unfold At
  rw [Pl.bytes_take s k hk, Pl.D_snoc, Pl.M_snoc, Pl.Q_snoc, hc, Pl.dl_shut, ← e1, ← e2, ← e3]
  refine ⟨by omega, ?_, by simp⟩
  split <;> omega
theorem at_quote {s : ByteArray} {k : Nat} {d l q : Int} (h : At s k d l q) (hk : k < s.size) (hc : (s[k].toNat : Int) = 39) : At s (k + 1) d l (q + 1) := by
  have hb := at_bd h
  obtain ⟨e1, e2, e3⟩ := h
  unfold At
  rw [Pl.bytes_take s k hk, Pl.D_snoc, Pl.M_snoc, Pl.Q_snoc, hc, Pl.dl_other 39 (by decide) (by decide), ← e1, ← e2, ← e3]
  simp; omega
theorem at_other {s : ByteArray} {k : Nat} {d l q : Int} (h : At s k d l q) (hk : k < s.size) (h0 : ¬ (s[k].toNat : Int) = 40) (h1 : ¬ (s[k].toNat : Int) = 41) (h2 : ¬ (s[k].toNat : Int) = 39) : At s (k + 1) d l q := by
  have hb := at_bd h
  obtain ⟨e1, e2, e3⟩ := h
  unfold At
  rw [Pl.bytes_take s k hk, Pl.D_snoc, Pl.M_snoc, Pl.Q_snoc, Pl.dl_other _ h0 h1, ← e1, ← e2, ← e3, if_neg h2]
  omega

set_option maxHeartbeats 1600000 in
theorem shape_any (s : ByteArray) (w : World) (hs : s.size ≤ 4194304) :
    Calls Trym.prog 11 #[.string s] w fun e w' => e = .returned (.tuple #[.int .i64 (Pl.D (Pl.bytes s)), .int .i64 (Pl.M (Pl.bytes s)), .int .i64 (Pl.Q (Pl.bytes s))]) ∧ w' = w := by
  go_enter Trym.func11, Trym.ntmps11
  go_wp2
  go_loop [5, 6, 7, 8] (fun d l q i => ∃ (k : Nat) (x y z : Int), k ≤ s.size ∧ i = .int .i64 k ∧ d = .int .i64 x ∧ l = .int .i64 y ∧ q = .int .i64 z ∧ Hid (At s k x y z)) (fun _ _ _ i => s.size - (intOf i).toNat)
  case atStart => exact ⟨0, 0, 0, 0, Nat.zero_le _, rfl, rfl, rfl, rfl, at_zero s⟩
  case round =>
    obtain ⟨k, x, y, z, hk, rfl, rfl, rfl, rfl, HA⟩ := hrel
    obtain ⟨b1, b2, b3, b4, b5, b6, b7⟩ := at_bd HA.out
    by_cases hlt : k < s.size
    · by_cases h0 : (s[k].toNat : Int) = 40
      · have H0 : Hid ((s[k].toNat : Int) = 40) := h0
        have e0 : ((s[k].toNat : Int) == 40) = true := beq_iff_eq.2 h0
        clear h0
        go_wp2
        go_round
        case rel => exact ⟨k + 1, _, _, _, by omega, by go_num, rfl, rfl, rfl, at_open HA.out hlt H0.out⟩
        case measure => simp [intOf]; omega
      · have H0 : Hid (¬ (s[k].toNat : Int) = 40) := h0
        have e0 : ((s[k].toNat : Int) == 40) = false := beq_eq_false_iff_ne.2 h0
        clear h0
        by_cases h1 : (s[k].toNat : Int) = 41
        · have H1 : Hid ((s[k].toNat : Int) = 41) := h1
          have e1 : ((s[k].toNat : Int) == 41) = true := beq_iff_eq.2 h1
          have hN := at_shut HA.out hlt h1
          clear h1
          by_cases hl : x - 1 < y
          · rw [if_pos hl] at hN
            have HN : Hid (At s (k + 1) (x - 1) (x - 1) z) := hN
            clear hN
            go_wp2
            go_round
            case rel => exact ⟨k + 1, _, _, _, by omega, by go_num, rfl, rfl, rfl, HN.out⟩
            case measure => simp [intOf]; omega
          · rw [if_neg hl] at hN
            have HN : Hid (At s (k + 1) (x - 1) y z) := hN
            clear hN
            go_wp2
            go_round
            case rel => exact ⟨k + 1, _, _, _, by omega, by go_num, rfl, rfl, rfl, HN.out⟩
            case measure => simp [intOf]; omega
        · have H1 : Hid (¬ (s[k].toNat : Int) = 41) := h1
          have e1 : ((s[k].toNat : Int) == 41) = false := beq_eq_false_iff_ne.2 h1
          clear h1
          by_cases h2 : (s[k].toNat : Int) = 39
          · have H2 : Hid ((s[k].toNat : Int) = 39) := h2
            have e2 : ((s[k].toNat : Int) == 39) = true := beq_iff_eq.2 h2
            clear h2
            go_wp2
            go_round
            case rel => exact ⟨k + 1, _, _, _, by omega, by go_num, rfl, rfl, rfl, at_quote HA.out hlt H2.out⟩
            case measure => simp [intOf]; omega
          · have H2 : Hid (¬ (s[k].toNat : Int) = 39) := h2
            have e2 : ((s[k].toNat : Int) == 39) = false := beq_eq_false_iff_ne.2 h2
            clear h2
            go_wp2
            go_round
            case rel => exact ⟨k + 1, _, _, _, by omega, by go_num, rfl, rfl, rfl, at_other HA.out hlt H0.out H1.out H2.out⟩
            case measure => simp [intOf]; omega
    · have HE : Hid (x = Pl.D (Pl.bytes s) ∧ y = Pl.M (Pl.bytes s) ∧ z = Pl.Q (Pl.bytes s)) := by
        have h := HA.out
        unfold At at h
        rw [List.take_of_length_le (by rw [Pl.bytes_len]; omega)] at h
        exact h
      go_wp2
      go_ret3
      exact ⟨by rw [HE.out.1, HE.out.2.1, HE.out.2.2]; rfl, rfl⟩

set_option maxHeartbeats 1600000 in
theorem pre_yes (s p : ByteArray) (w : World) (hs : s.size ≤ 4194304) (hp : p.size ≤ s.size) (h0 : ∀ i (hi : i < p.size), (s[i].toNat : Int) = (p[i].toNat : Int)) :
    Calls Trym.prog 12 #[.string s, .string p] w fun e w' => e = .returned (.bool true) ∧ ∃ n, w' = w.drewN n := by
  have H : Hid (∀ i (hi : i < p.size), (s[i].toNat : Int) = (p[i].toNat : Int)) := h0
  clear h0
  go_enter Trym.func12, Trym.ntmps12
  go_wp2
  go_loopw [5] (fun i wr => ∃ k : Nat, k ≤ p.size ∧ i = .int .i64 k ∧ ∃ n, wr = w.drewN n) (fun i _ => p.size - (intOf i).toNat)
  case atStart => exact ⟨0, Nat.zero_le _, rfl, 0, rfl⟩
  case round =>
    obtain ⟨k, hk, rfl, n, rfl⟩ := hrel
    by_cases hlt : k < p.size
    · have hls : k < s.size := by omega
      have e : ((s[k].toNat : Int) != (p[k].toNat : Int)) = false := by rw [H.out k hlt]; simp
      have i1 : (k : Int) < (s.size : Int) := by omega
      have i2 : (k : Int) < (p.size : Int) := by omega
      go_wp2
      go_quiet (fail)
      go_wp2
      go_roundw
      case rel => exact ⟨k + 1, by omega, by go_num, n + nq, rfl⟩
      case measure => simp [intOf]; omega
    · go_wp2
      go_ret
      exact ⟨rfl, n, rfl⟩

set_option maxHeartbeats 1600000 in
theorem suf_yes (s p : ByteArray) (w : World) (hs : s.size ≤ 4194304) (hp : p.size ≤ s.size) (h0 : ∀ i (hi : i < p.size), (s[s.size - p.size + i].toNat : Int) = (p[i].toNat : Int)) :
    Calls Trym.prog 13 #[.string s, .string p] w fun e w' => e = .returned (.bool true) ∧ ∃ n, w' = w.drewN n := by
  have H : Hid (∀ i (hi : i < p.size), (s[s.size - p.size + i].toNat : Int) = (p[i].toNat : Int)) := h0
  clear h0
  go_enter Trym.func13, Trym.ntmps13
  go_wp2
  go_loopw [6] (fun i wr => ∃ k : Nat, k ≤ p.size ∧ i = .int .i64 k ∧ ∃ n, wr = w.drewN n) (fun i _ => p.size - (intOf i).toNat)
  case atStart => exact ⟨0, Nat.zero_le _, rfl, 0, rfl⟩
  case round =>
    obtain ⟨k, hk, rfl, n, rfl⟩ := hrel
    by_cases hlt : k < p.size
    · have hls : s.size - p.size + k < s.size := by omega
      have e : ((s[s.size - p.size + k].toNat : Int) != (p[k].toNat : Int)) = false := by rw [H.out k hlt]; simp
      have i1 : (s.size : Int) - (p.size : Int) + (k : Int) < (s.size : Int) := by omega
      have i0 : 0 ≤ (s.size : Int) - (p.size : Int) + (k : Int) := by omega
      have i2 : (k : Int) < (p.size : Int) := by omega
      go_wp2
      go_quiet (fail)
      go_wp2
      go_roundw
      case rel => exact ⟨k + 1, by omega, by go_num, n + nq, rfl⟩
      case measure => simp [intOf]; omega
    · go_wp2
      go_ret
      exact ⟨rfl, n, rfl⟩
end Go.Proofs.Qxb6601886aMods
