/-
  THE PLAIN LAW of seat b6601395aM: no Go in sight.
-/
namespace Go.Proofs.Qxb6601395aMods.Pl

/-- The bytes of a string, as numbers. -/
def bytes (s : ByteArray) : List Int := s.data.toList.map fun b => (b.toNat : Int)
theorem bytes_len (s : ByteArray) : (bytes s).length = s.size := by simp [bytes]
theorem bytes_at (s : ByteArray) (k : Nat) (h : k < s.size) : (bytes s)[k]'(by rw [bytes_len]; exact h) = (s[k].toNat : Int) := by
  simp [bytes]; rfl
theorem bytes_take (s : ByteArray) (k : Nat) (h : k < s.size) : (bytes s).take (k + 1) = (bytes s).take k ++ [(s[k].toNat : Int)] := by
  rw [List.take_succ_eq_append_getElem (by rw [bytes_len]; exact h), bytes_at s k h]

/-- May the byte c stand in a sale's id? -/
def okc (c : Int) : Bool := decide (97 ≤ c ∧ c ≤ 122 ∨ 65 ≤ c ∧ c ≤ 90 ∨ 48 ≤ c ∧ c ≤ 57 ∨ c = 95 ∨ c = 45)

def vld (s : ByteArray) : Bool := decide (1 ≤ s.size) && decide (s.size ≤ 64) && (bytes s).all okc

/-- How many good bytes stand among the first k. -/
def cnt (s : ByteArray) (k : Nat) : Nat := ((bytes s).take k).countP okc

theorem cnt_zero (s : ByteArray) : cnt s 0 = 0 := by simp [cnt]
theorem cnt_le (s : ByteArray) (k : Nat) : cnt s k ≤ k := by
  have h1 := List.countP_le_length (p := okc) (l := (bytes s).take k)
  have h2 : ((bytes s).take k).length ≤ k := List.length_take_le _ _
  unfold cnt; omega
theorem cnt_hit (s : ByteArray) (k : Nat) (h : k < s.size) (hc : okc (s[k].toNat : Int) = true) : cnt s (k + 1) = cnt s k + 1 := by
  unfold cnt; rw [bytes_take s k h, List.countP_append]; simp [hc]
theorem cnt_miss (s : ByteArray) (k : Nat) (h : k < s.size) (hc : okc (s[k].toNat : Int) = false) : cnt s (k + 1) = cnt s k := by
  unfold cnt; rw [bytes_take s k h, List.countP_append]; simp [hc]
theorem cnt_all (s : ByteArray) : (cnt s s.size = s.size) ↔ (bytes s).all okc = true := by
  unfold cnt
  rw [List.take_of_length_le (by rw [bytes_len]; omega)]
  have h := List.countP_eq_length (p := okc) (l := bytes s)
  rw [bytes_len] at h
  rw [h, List.all_eq_true]

theorem vld_empty (s : ByteArray) (h : s.size = 0) : vld s = false := by simp [vld, h]
theorem vld_long (s : ByteArray) (h : 64 < s.size) : vld s = false := by
  simp [vld, show ¬ s.size ≤ 64 by omega]
theorem vld_bad (s : ByteArray) (k : Nat) (h : k < s.size) (hc : okc (s[k].toNat : Int) = false) : vld s = false := by
  have hm : (s[k].toNat : Int) ∈ bytes s := by rw [← bytes_at s k h]; exact List.getElem_mem _
  have ha : (bytes s).all okc = false := by
    rw [List.all_eq_false]
    exact ⟨_, hm, by rw [hc]; simp⟩
  simp [vld, ha]
theorem vld_good (s : ByteArray) (h1 : 1 ≤ s.size) (h2 : s.size ≤ 64) (h : ∀ c ∈ bytes s, okc c = true) : vld s = true := by
  have ha : (bytes s).all okc = true := List.all_eq_true.2 h
  simp [vld, ha]; omega
/-- All of the first k are good. -/
def goodTo (s : ByteArray) (k : Nat) : Prop := ∀ c ∈ (bytes s).take k, okc c = true
theorem good_zero (s : ByteArray) : goodTo s 0 := by intro c hc; simp at hc
theorem good_succ {s : ByteArray} {k : Nat} (h : goodTo s k) (hk : k < s.size) (hc : okc (s[k].toNat : Int) = true) : goodTo s (k + 1) := by
  intro c hm
  rw [bytes_take s k hk] at hm
  rcases List.mem_append.1 hm with h1 | h1
  · exact h c h1
  · simp at h1; rw [h1]; exact hc
theorem good_all {s : ByteArray} {k : Nat} (h : goodTo s k) (hk : s.size ≤ k) (h1 : 1 ≤ s.size) (h2 : s.size ≤ 64) : vld s = true := by
  refine vld_good s h1 h2 ?_
  intro c hc
  refine h c ?_
  rw [List.take_of_length_le (by rw [bytes_len]; exact hk)]; exact hc
/-- The model's answer. -/
theorem vld_cnt (s : ByteArray) (h1 : 1 ≤ s.size) (h2 : s.size ≤ 64) : vld s = (decide (cnt s s.size = s.size)) := by
  have := cnt_all s
  unfold vld
  rw [decide_eq_true h1, decide_eq_true h2]
  by_cases h : cnt s s.size = s.size
  · rw [decide_eq_true h, (this.1 h)]; rfl
  · rw [decide_eq_false h]
    cases ha : (bytes s).all okc
    · rfl
    · exact absurd (this.2 ha) h

/-- The alphabet. -/
def alpha : List Int := [65, 66, 67, 68, 69, 70, 71, 72, 73, 74, 75, 76, 77, 78, 79, 80, 81, 82, 83, 84, 85, 86, 87, 88, 89, 90, 97, 98, 99, 100, 101, 102, 103, 104, 105, 106, 107, 108, 109, 110, 111, 112, 113, 114, 115, 116, 117, 118, 119, 120, 121, 122, 48, 49, 50, 51, 52, 53, 54, 55, 56, 57, 95, 45]
def alphaAt (k : Nat) : Int := alpha.getD k 0
theorem alpha_ok (k : Nat) (h : k < 64) : okc (alphaAt k) = true := by
  have : ∀ k : Fin 64, okc (alphaAt k.val) = true := by decide
  exact this ⟨k, h⟩
theorem alpha_all (c : Int) (h : ∀ k, k < 64 → ¬ alphaAt k = c) : okc c = false := by
  have e : ∀ k, k < 64 → alphaAt k ≠ c := h
  by_cases hc : okc c = true
  · have hc' := of_decide_eq_true hc
    rcases hc' with ⟨a, b⟩ | ⟨a, b⟩ | ⟨a, b⟩ | a | a
    · have h1 : ∀ i : Fin 26, alphaAt (26 + i.val) = 97 + (i.val : Int) := by decide
      have := h1 ⟨(c - 97).toNat, by omega⟩
      exact absurd (this.trans (by show 97 + (((c - 97).toNat : Nat) : Int) = c; omega)) (e _ (by omega))
    · have h1 : ∀ i : Fin 26, alphaAt i.val = 65 + (i.val : Int) := by decide
      have := h1 ⟨(c - 65).toNat, by omega⟩
      exact absurd (this.trans (by show 65 + (((c - 65).toNat : Nat) : Int) = c; omega)) (e _ (by omega))
    · have h1 : ∀ i : Fin 10, alphaAt (52 + i.val) = 48 + (i.val : Int) := by decide
      have := h1 ⟨(c - 48).toNat, by omega⟩
      exact absurd (this.trans (by show 48 + (((c - 48).toNat : Nat) : Int) = c; omega)) (e _ (by omega))
    · exact absurd (show alphaAt 62 = c by rw [a]; rfl) (e 62 (by omega))
    · exact absurd (show alphaAt 63 = c by rw [a]; rfl) (e 63 (by omega))
  · simpa using hc
end Go.Proofs.Qxb6601395aMods.Pl
