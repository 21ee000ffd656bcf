/-
  THE PLAIN LAW of seat b6601709aM: eight pairs of counts, sixteen numbers in a row; no Go in sight.
-/
import Derived.RowKit
namespace Go.Proofs.Qxb6601709aMods.Pl
open Go.RowKit (wrap64)

/-- Where the count stands that a kind names. -/
def slot (kd : Int) : Nat := if kd = 1 then 0 else if kd = 2 then 4 else if kd = 3 then 6 else if kd = 4 then 8 else if kd = 5 then 10 else 12
/-- One call of count. -/
def upd (L : List Int) (o : Nat) (sz : Int) : List Int := (L.set o (wrap64 (L.getD o 0 + 1))).set (o + 1) (wrap64 (L.getD (o + 1) 0 + sz))
theorem upd_len (L : List Int) (o : Nat) (sz : Int) : (upd L o sz).length = L.length := by simp [upd]

theorem slot_cases (kd : Int) : slot kd = 0 ∨ slot kd = 4 ∨ slot kd = 6 ∨ slot kd = 8 ∨ slot kd = 10 ∨ slot kd = 12 := by
  unfold slot
  repeat' split
  all_goals simp

theorem wrap_dvd (x : Int) : ∃ q : Int, wrap64 x = x + q * 18446744073709551616 := by
  unfold wrap64
  exact ⟨-((x + 9223372036854775808) / 18446744073709551616), by omega⟩
theorem wrap_cong {x y : Int} (h : ∃ q : Int, x = y + q * 18446744073709551616) : wrap64 x = wrap64 y := by
  obtain ⟨q, rfl⟩ := h
  unfold wrap64
  omega

/-- The sum of every other number, from place p on. -/
def S (p : Nat) (L : List Int) : Int := L.getD p 0 + L.getD (p + 2) 0 + L.getD (p + 4) 0 + L.getD (p + 6) 0 + L.getD (p + 8) 0 + L.getD (p + 10) 0 + L.getD (p + 12) 0 + L.getD (p + 14) 0

/-- The sum that the law's second loop reckons, wrapped at every step. -/
def sumW (L : List Int) (p : Nat) : Nat → Int
  | 0 => 0
  | k + 1 => wrap64 (sumW L p k + L.getD (2 * k + p) 0)

/-- What holds after some calls: D calls, B bytes, both wrapped. -/
structure Inv (L0 L : List Int) (D B : Int) : Prop where
  len : L.length = 16
  s0 : ∃ q : Int, S 0 L = S 0 L0 + D + q * 18446744073709551616
  s1 : ∃ q : Int, S 1 L = S 1 L0 + B + q * 18446744073709551616
  k2 : L.getD 2 0 = L0.getD 2 0
  k3 : L.getD 3 0 = L0.getD 3 0
  k14 : L.getD 14 0 = L0.getD 14 0
  k15 : L.getD 15 0 = L0.getD 15 0

theorem inv_zero (L0 : List Int) (h : L0.length = 16) : Inv L0 L0 0 0 := ⟨h, ⟨0, by omega⟩, ⟨0, by omega⟩, rfl, rfl, rfl, rfl⟩

theorem list16 (L : List Int) (h : L.length = 16) : ∃ t0 t1 t2 t3 t4 t5 t6 t7 t8 t9 t10 t11 t12 t13 t14 t15, L = [t0, t1, t2, t3, t4, t5, t6, t7, t8, t9, t10, t11, t12, t13, t14, t15] := by
  match L, h with
  | [t0, t1, t2, t3, t4, t5, t6, t7, t8, t9, t10, t11, t12, t13, t14, t15], _ => exact ⟨t0, t1, t2, t3, t4, t5, t6, t7, t8, t9, t10, t11, t12, t13, t14, t15, rfl⟩

/-- A place of L behind one call. -/
theorem upd_at (L : List Int) (o : Nat) (sz : Int) (j : Nat) (ho : o + 1 < L.length) :
    (upd L o sz).getD j 0 = if j = o then wrap64 (L.getD o 0 + 1) else if j = o + 1 then wrap64 (L.getD (o + 1) 0 + sz) else L.getD j 0 := by
  unfold upd
  by_cases h1 : j = o
  · subst h1
    rw [if_pos rfl]
    simp [List.getD, show j < L.length by omega]
  · rw [if_neg h1]
    by_cases h2 : j = o + 1
    · subst h2
      simp [List.getD, ho]
    · rw [if_neg h2]
      simp [List.getD, Ne.symm h1, Ne.symm h2]

theorem inv_step {L0 L : List Int} {D B : Int} (h : Inv L0 L D B) (kd sz : Int) : Inv L0 (upd L (slot kd) sz) (wrap64 (D + 1)) (wrap64 (B + sz)) := by
  obtain ⟨hl, ⟨q0, h0⟩, ⟨q1, h1⟩, k2, k3, k14, k15⟩ := h
  have hs := slot_cases kd
  have ho : slot kd + 1 < L.length := by omega
  obtain ⟨a, ha⟩ := wrap_dvd (D + 1)
  obtain ⟨b, hb⟩ := wrap_dvd (B + sz)
  obtain ⟨c, hc⟩ := wrap_dvd (L.getD (slot kd) 0 + 1)
  obtain ⟨d, hd⟩ := wrap_dvd (L.getD (slot kd + 1) 0 + sz)
  have g : ∀ j, (upd L (slot kd) sz).getD j 0 = if j = slot kd then L.getD (slot kd) 0 + 1 + c * 18446744073709551616 else if j = slot kd + 1 then L.getD (slot kd + 1) 0 + sz + d * 18446744073709551616 else L.getD j 0 := by
    intro j; rw [upd_at L (slot kd) sz j ho, hc, hd]
  rw [ha, hb]
  unfold S at *
  refine ⟨by rw [upd_len]; exact hl, ⟨q0 + c - a, ?_⟩, ⟨q1 + d - b, ?_⟩, ?_, ?_, ?_, ?_⟩
  all_goals
    (try unfold S)
    simp only [g]
    rcases hs with e | e | e | e | e | e <;> rw [e] <;> simp <;> simp at h0 h1 k2 k3 k14 k15 <;> omega

theorem sumW_cong (L : List Int) (p : Nat) : ∃ q : Int, sumW L p 8 = S p L + q * 18446744073709551616 := by
  obtain ⟨q1, h1⟩ := wrap_dvd (sumW L p 0 + L.getD (2 * 0 + p) 0)
  obtain ⟨q2, h2⟩ := wrap_dvd (sumW L p 1 + L.getD (2 * 1 + p) 0)
  obtain ⟨q3, h3⟩ := wrap_dvd (sumW L p 2 + L.getD (2 * 2 + p) 0)
  obtain ⟨q4, h4⟩ := wrap_dvd (sumW L p 3 + L.getD (2 * 3 + p) 0)
  obtain ⟨q5, h5⟩ := wrap_dvd (sumW L p 4 + L.getD (2 * 4 + p) 0)
  obtain ⟨q6, h6⟩ := wrap_dvd (sumW L p 5 + L.getD (2 * 5 + p) 0)
  obtain ⟨q7, h7⟩ := wrap_dvd (sumW L p 6 + L.getD (2 * 6 + p) 0)
  obtain ⟨q8, h8⟩ := wrap_dvd (sumW L p 7 + L.getD (2 * 7 + p) 0)
  have e0 : sumW L p 0 = 0 := rfl
  have e1 : sumW L p 1 = wrap64 (sumW L p 0 + L.getD (2 * 0 + p) 0) := rfl
  have e2 : sumW L p 2 = wrap64 (sumW L p 1 + L.getD (2 * 1 + p) 0) := rfl
  have e3 : sumW L p 3 = wrap64 (sumW L p 2 + L.getD (2 * 2 + p) 0) := rfl
  have e4 : sumW L p 4 = wrap64 (sumW L p 3 + L.getD (2 * 3 + p) 0) := rfl
  have e5 : sumW L p 5 = wrap64 (sumW L p 4 + L.getD (2 * 4 + p) 0) := rfl
  have e6 : sumW L p 6 = wrap64 (sumW L p 5 + L.getD (2 * 5 + p) 0) := rfl
  have e7 : sumW L p 7 = wrap64 (sumW L p 6 + L.getD (2 * 6 + p) 0) := rfl
  have e8 : sumW L p 8 = wrap64 (sumW L p 7 + L.getD (2 * 7 + p) 0) := rfl
  refine ⟨q1 + q2 + q3 + q4 + q5 + q6 + q7 + q8, ?_⟩
  unfold S
  rw [show 2 * 0 + p = p by omega] at h1 e1
  rw [show 2 * 1 + p = p + 2 by omega] at h2 e2
  rw [show 2 * 2 + p = p + 4 by omega] at h3 e3
  rw [show 2 * 3 + p = p + 6 by omega] at h4 e4
  rw [show 2 * 4 + p = p + 8 by omega] at h5 e5
  rw [show 2 * 5 + p = p + 10 by omega] at h6 e6
  rw [show 2 * 6 + p = p + 12 by omega] at h7 e7
  rw [show 2 * 7 + p = p + 14 by omega] at h8 e8
  omega
theorem sumW_wrap (L : List Int) (p : Nat) : sumW L p 8 = wrap64 (sumW L p 7 + L.getD (2 * 7 + p) 0) := rfl
theorem wrap_wrap (x : Int) : wrap64 (wrap64 x) = wrap64 x := wrap_cong (wrap_dvd x)
/-- A wrapped number that differs from another by whole turns is that one, wrapped. -/
theorem sum_law {L0 L : List Int} {p : Nat} {D : Int} (h : ∃ q : Int, S p L = S p L0 + D + q * 18446744073709551616) : sumW L p 8 = wrap64 (sumW L0 p 8 + D) := by
  have e : sumW L p 8 = wrap64 (sumW L p 8) := by rw [sumW_wrap, wrap_wrap]
  rw [e]
  obtain ⟨q, h⟩ := h
  obtain ⟨a, ha⟩ := sumW_cong L p
  obtain ⟨b, hb⟩ := sumW_cong L0 p
  exact wrap_cong ⟨a - b + q, by omega⟩
theorem sumW_step (L : List Int) (p k : Nat) (x : Int) (h : x = L.getD (k * 2 + p) 0) : wrap64 (sumW L p k + x) = sumW L p (k + 1) := by
  rw [h, Nat.mul_comm k 2]; rfl
end Go.Proofs.Qxb6601709aMods.Pl
