/-
  THE WALKS of seat b6601395aM, third part: the keys, the hash tag.
-/
import Derived.Test.Qxb6601395aModsWalkA
import Derived.WalkSpells
namespace Go.Proofs.Qxb6601395aMods
open Go.RowKit

/-- A sale's key. -/
def key (s t : ByteArray) : ByteArray := { data := #[108, 105, 109, 115, 116, 111, 99, 107, 58, 123] } ++ s ++ { data := #[125, 58] } ++ t
def sfx0 : ByteArray := { data := #[115, 97, 108, 101] }
def sfx1 : ByteArray := { data := #[116, 97, 107, 101, 110] }
def sfx2 : ByteArray := { data := #[103, 114, 97, 98, 115] }

set_option maxHeartbeats 800000 in
theorem keys_any (s : ByteArray) (w : World) (hs : s.size ≤ 64) :
    Calls Trym.prog 22 #[.string s] w fun e w' => e = .returned (.slice (some ⟨w.heap.size, 0, none⟩) 3 3) ∧ w' = w.alloc (.cells #[.string (key s sfx0), .string (key s sfx1), .string (key s sfx2)] 9) := by
  go_enter Trym.func22, Trym.ntmps22
  go_wp2
  go_ret
  exact ⟨rfl, rfl⟩

theorem zz_keys (s : ByteArray) (w : World) (hs : s.size ≤ 64) :
    Calls Trym.prog 14 #[.string s] w fun e w' => e = .returned (.slice (some ⟨w.heap.size, 0, none⟩) 3 3) ∧ w' = w.alloc (.cells #[.string (key s sfx0), .string (key s sfx1), .string (key s sfx2)] 9) := by
  go_enter Trym.func14, Trym.ntmps14
  go_wp2_with (go_at_call 22; refine (keys_any s _ hs).mono ?_; rintro e w' ⟨rfl, rfl⟩)
  go_ret
  exact ⟨rfl, rfl⟩

set_option maxRecDepth 100000 in
set_option maxHeartbeats 1600000 in
theorem tag_any (k : ByteArray) (p q : Nat) (w : World) (hk : k.size ≤ 1048576) (hq : q < k.size) (hpq : p + 1 < q)
    (h1 : ∀ j (_ : j < p), (k[j].toNat : Int) ≠ 123) (hp : (k[p].toNat : Int) = 123) (h2 : ∀ j (_ : p < j) (_ : j < q), (k[j].toNat : Int) ≠ 125) (h3 : (k[q].toNat : Int) = 125) :
    Calls Trym.prog 15 #[.string k] w fun e w' => e = .returned (.string (k.extract (p + 1) q)) ∧ w' = w := by
  have H1 : Hid (∀ j (_ : j < p), (k[j].toNat : Int) ≠ 123) := h1
  have HP : Hid ((k[p].toNat : Int) = 123) := hp
  have H2 : Hid (∀ j (_ : p < j) (_ : j < q), (k[j].toNat : Int) ≠ 125) := h2
  have H3 : Hid ((k[q].toNat : Int) = 125) := h3
  clear h1 hp h2 h3
  go_enter Trym.func15, Trym.ntmps15
  go_wp2
  go_loop [3, 4] (fun o i => ∃ n : Nat, n ≤ p ∧ i = .int .i64 n ∧ o = .int .i64 (-1)) (fun _ i => k.size - (intOf i).toNat)
  case atStart => exact ⟨0, Nat.zero_le _, rfl, rfl⟩
  case round =>
    obtain ⟨n, hn, rfl, rfl⟩ := hrel
    have hnk : n < k.size := by omega
    by_cases hlt : n < p
    · have e1 : ((k[n].toNat : Int) == 123) = false := beq_eq_false_iff_ne.2 (H1.out n hlt)
      go_wp2
      go_round
      case rel => exact ⟨n + 1, by omega, by go_num, rfl⟩
      case measure => simp [intOf]; omega
    · obtain rfl : n = p := by omega
      have e1 : ((k[n].toNat : Int) == 123) = true := beq_iff_eq.2 HP.out
      go_wp2
      go_loop [5, 6] (fun o i => ∃ m : Nat, n < m ∧ m ≤ q ∧ i = .int .i64 m ∧ o = .int .i64 (-1)) (fun _ i => k.size - (intOf i).toNat)
      case atStart => exact ⟨n + 1, by omega, by omega, by go_num, rfl⟩
      case round =>
        obtain ⟨m, hm0, hm, rfl, rfl⟩ := hrel
        have hmk : m < k.size := by omega
        by_cases hlt2 : m < q
        · have e2 : ((k[m].toNat : Int) == 125) = false := beq_eq_false_iff_ne.2 (H2.out m hm0 hlt2)
          go_wp2
          go_round
          case rel => exact ⟨m + 1, by omega, by omega, by go_num, rfl⟩
          case measure => simp [intOf]; omega
        · obtain rfl : m = q := by omega
          have e2 : ((k[m].toNat : Int) == 125) = true := beq_iff_eq.2 H3.out
          have e3 : ((m : Int) == (n : Int) + 1) = false := beq_eq_false_iff_ne.2 (by omega)
          go_wp2
          go_ret
          exact ⟨rfl, rfl⟩

/-! ### the keys' bytes -/
theorem bytes_append (a b : ByteArray) : Pl.bytes (a ++ b) = Pl.bytes a ++ Pl.bytes b := by
  simp [Pl.bytes, ByteArray.data_append]
theorem bytes_key (s t : ByteArray) : Pl.bytes (key s t) = [108, 105, 109, 115, 116, 111, 99, 107, 58, 123] ++ (Pl.bytes s ++ ([125, 58] ++ Pl.bytes t)) := by
  unfold key
  rw [bytes_append, bytes_append, bytes_append]
  have e1 : Pl.bytes { data := #[108, 105, 109, 115, 116, 111, 99, 107, 58, 123] } = [108, 105, 109, 115, 116, 111, 99, 107, 58, 123] := by decide
  have e2 : Pl.bytes { data := #[125, 58] } = [125, 58] := by decide
  rw [e1, e2, List.append_assoc, List.append_assoc]
theorem key_size (s t : ByteArray) : (key s t).size = 12 + s.size + t.size := by
  have h := congrArg List.length (bytes_key s t)
  simp only [Pl.bytes_len, List.length_append, List.length_cons, List.length_nil] at h
  omega
theorem key_at (s t : ByteArray) (j : Nat) (h : j < (key s t).size) : some ((key s t)[j].toNat : Int) = ([108, 105, 109, 115, 116, 111, 99, 107, 58, 123] ++ (Pl.bytes s ++ ([125, 58] ++ Pl.bytes t)))[j]? := by
  rw [← Pl.bytes_at _ j h, ← bytes_key, List.getElem?_eq_getElem]
theorem key_head (s t : ByteArray) (j : Nat) (hj : j < 9) (h : j < (key s t).size) : ((key s t)[j].toNat : Int) ≠ 123 := by
  have e := key_at s t j h
  rw [List.getElem?_append_left (by simp; omega)] at e
  have hf : ∀ i : Fin 9, ([108, 105, 109, 115, 116, 111, 99, 107, 58, 123] : List Int)[i.val]? ≠ some 123 := by decide
  intro h1
  rw [h1] at e
  exact hf ⟨j, hj⟩ e.symm
theorem key_open (s t : ByteArray) (h : 9 < (key s t).size) : ((key s t)[9].toNat : Int) = 123 := by
  have e := key_at s t 9 h
  rw [List.getElem?_append_left (by simp)] at e
  exact Option.some.inj e
theorem key_mid (s t : ByteArray) (j : Nat) (h0 : 9 < j) (h1 : j < 10 + s.size) (h : j < (key s t).size) (hv : Pl.vld s = true) : ((key s t)[j].toNat : Int) ≠ 125 := by
  have e := key_at s t j h
  rw [List.getElem?_append_right (by simp; omega), List.getElem?_append_left (by simp [Pl.bytes_len]; omega)] at e
  have hm := List.mem_of_getElem? e.symm
  have ha : (Pl.bytes s).all Pl.okc = true := by
    unfold Pl.vld at hv
    simp only [Bool.and_eq_true] at hv
    exact hv.2
  have hc := of_decide_eq_true (List.all_eq_true.1 ha _ hm)
  omega
theorem key_shut (s t : ByteArray) (h : 10 + s.size < (key s t).size) : ((key s t)[10 + s.size].toNat : Int) = 125 := by
  have e := key_at s t (10 + s.size) h
  rw [List.getElem?_append_right (by simp), List.getElem?_append_right (by simp [Pl.bytes_len])] at e
  simp [Pl.bytes_len] at e
  exact e
theorem key_cut (s t : ByteArray) : (key s t).extract (9 + 1) (10 + s.size) = s := by
  unfold key
  apply ByteArray.ext
  apply Array.ext'
  simp [ByteArray.data_append, ByteArray.data_extract]
  exact List.take_of_length_le (by rw [Array.length_toList]; exact Nat.le_refl _)

/-- The hash tag of a valid sale's key is the sale. -/
theorem tag_key (s t : ByteArray) (w : World) (hv : Pl.vld s = true) (hs : 1 ≤ s.size) (hs2 : s.size ≤ 64) (ht : t.size ≤ 5) :
    Calls Trym.prog 15 #[.string (key s t)] w fun e w' => e = .returned (.string s) ∧ w' = w := by
  have hz := key_size s t
  have h := tag_any (key s t) 9 (10 + s.size) w (by omega) (by omega) (by omega) (fun j hj => key_head s t j hj (by omega)) (key_open s t (by omega)) (fun j h0 h1 => key_mid s t j h0 h1 (by omega) hv) (key_shut s t (by omega))
  rw [key_cut] at h
  exact h

set_option maxHeartbeats 400000 in
theorem boundk_no (s : ByteArray) (w : World) (h : 1048576 < s.size) (hm : s.size ≤ maxLen) :
    Calls Trym.prog 13 #[.string s] w fun e w' => e = .returned (.bool false) ∧ w' = w := by
  unfold maxLen at hm
  go_enter Trym.func13, Trym.ntmps13
  go_wp2
  go_ret
  exact ⟨rfl, rfl⟩

set_option maxHeartbeats 400000 in
theorem boundk_yes (s : ByteArray) (w : World) (h : s.size ≤ 1048576) :
    Calls Trym.prog 13 #[.string s] w fun e w' => e = .returned (.bool true) ∧ w' = w := by
  go_enter Trym.func13, Trym.ntmps13
  go_wp2
  go_ret
  exact ⟨rfl, rfl⟩
theorem vld_size {s : ByteArray} (h : Pl.vld s = true) : 1 ≤ s.size ∧ s.size ≤ 64 := by
  unfold Pl.vld at h
  simp only [Bool.and_eq_true, decide_eq_true_eq] at h
  exact h.1
end Go.Proofs.Qxb6601395aMods
