/-
  THE PLAIN LAW of seat b6601886aM: brackets and quotes of a text; no Go in sight.
-/
namespace Go.Proofs.Qxb6601886aMods.Pl

/-- The bytes of a string, as numbers. -/
def bytes (s : ByteArray) : List Int := s.data.toList.map fun b => (b.toNat : Int)
theorem bytes_len (s : ByteArray) : (bytes s).length = s.size := by simp [bytes]
theorem bytes_at (s : ByteArray) (k : Nat) (h : k < s.size) : (bytes s)[k]'(by rw [bytes_len]; exact h) = (s[k].toNat : Int) := by
  simp [bytes]; rfl
theorem bytes_take (s : ByteArray) (k : Nat) (h : k < s.size) : (bytes s).take (k + 1) = (bytes s).take k ++ [(s[k].toNat : Int)] := by
  rw [List.take_succ_eq_append_getElem (by rw [bytes_len]; exact h), bytes_at s k h]
theorem bytes_append (a b : ByteArray) : bytes (a ++ b) = bytes a ++ bytes b := by
  simp [bytes, ByteArray.data_append]

/-- What a byte does to the depth. -/
def dl (c : Int) : Int := if c = 40 then 1 else if c = 41 then -1 else 0
/-- The depth behind a text. -/
def D : List Int → Int
  | [] => 0
  | c :: r => dl c + D r
/-- The lowest depth on the way (0 at its head). -/
def M : List Int → Int
  | [] => 0
  | c :: r => min 0 (dl c + M r)
/-- How many single quotes. -/
def Q : List Int → Int
  | [] => 0
  | c :: r => (if c = 39 then 1 else 0) + Q r

theorem dl_bd (c : Int) : -1 ≤ dl c ∧ dl c ≤ 1 := by
  unfold dl
  split
  · omega
  · split <;> omega
theorem D_append (xs ys : List Int) : D (xs ++ ys) = D xs + D ys := by
  induction xs with
  | nil => simp [D]
  | cons c r ih => simp only [List.cons_append, D, ih]; omega
theorem M_le (xs : List Int) : M xs ≤ 0 := by
  cases xs with
  | nil => simp [M]
  | cons c r => simp only [M]; omega
theorem M_append (xs ys : List Int) : M (xs ++ ys) = min (M xs) (D xs + M ys) := by
  induction xs with
  | nil => have := M_le ys; simp [M, D]; omega
  | cons c r ih => simp only [List.cons_append, M, D, ih]; omega
theorem Q_append (xs ys : List Int) : Q (xs ++ ys) = Q xs + Q ys := by
  induction xs with
  | nil => simp [Q]
  | cons c r ih => simp only [List.cons_append, Q, ih]; omega
theorem M_le_D (xs : List Int) : M xs ≤ D xs := by
  induction xs with
  | nil => simp [M, D]
  | cons c r ih => simp only [M, D]; omega
theorem D_bd (xs : List Int) : -(xs.length : Int) ≤ D xs ∧ D xs ≤ xs.length := by
  induction xs with
  | nil => simp [D]
  | cons c r ih => have := dl_bd c; simp only [D, List.length_cons]; omega
theorem M_bd (xs : List Int) : -(xs.length : Int) ≤ M xs := by
  induction xs with
  | nil => simp [M]
  | cons c r ih => have := dl_bd c; simp only [M, List.length_cons]; omega
theorem Q_bd (xs : List Int) : 0 ≤ Q xs ∧ Q xs ≤ xs.length := by
  induction xs with
  | nil => simp [Q]
  | cons c r ih => simp only [Q, List.length_cons]; split <;> omega
/-- Every prefix lies no lower than M. -/
theorem M_take (xs : List Int) (n : Nat) : M xs ≤ D (xs.take n) := by
  have h := M_append (xs.take n) (xs.drop n)
  rw [List.take_append_drop] at h
  have h1 := M_le_D (xs.take n)
  omega

/-! one byte more -/
theorem D_snoc (xs : List Int) (c : Int) : D (xs ++ [c]) = D xs + dl c := by rw [D_append]; simp [D]
theorem M_snoc (xs : List Int) (c : Int) : M (xs ++ [c]) = min (M xs) (D xs + dl c) := by
  rw [M_append]
  have := M_le_D xs
  simp only [M]; omega
theorem Q_snoc (xs : List Int) (c : Int) : Q (xs ++ [c]) = Q xs + (if c = 39 then 1 else 0) := by rw [Q_append]; simp [Q]
theorem dl_open : dl 40 = 1 := rfl
theorem dl_shut : dl 41 = -1 := rfl
theorem dl_other (c : Int) (h1 : ¬ c = 40) (h2 : ¬ c = 41) : dl c = 0 := by simp [dl, h1, h2]

/-! ### the text -/
def T1 : List Int := [99, 111, 97, 108, 101, 115, 99, 101, 40, 40, 83, 69, 76, 69, 67, 84, 32, 98, 101, 103, 117, 110, 46, 115, 116, 101, 112, 45, 62, 62, 39, 112, 104, 97, 115, 101, 39, 32, 70, 82, 79, 77, 32, 40, 83, 69, 76, 69, 67, 84, 32, 115, 116, 101, 112, 44, 32, 110, 32, 70, 82, 79, 77, 32, 106, 115, 111, 110, 98, 95, 97, 114, 114, 97, 121, 95, 101, 108, 101, 109, 101, 110, 116, 115, 40]
def T2 : List Int := [41, 32, 87, 73, 84, 72, 32, 79, 82, 68, 73, 78, 65, 76, 73, 84, 89, 32, 65, 83, 32, 115, 40, 115, 116, 101, 112, 44, 32, 110, 41, 32, 87, 72, 69, 82, 69, 32, 115, 116, 101, 112, 45, 62, 62, 39, 99, 97, 108, 108, 39, 32, 61, 32, 39, 98, 101, 103, 117, 110, 39, 32, 79, 82, 68, 69, 82, 32, 66, 89, 32, 110, 32, 68, 69, 83, 67, 32, 76, 73, 77, 73, 84, 32, 49, 41, 32, 65, 83, 32, 98, 101, 103, 117, 110, 32, 87, 72, 69, 82, 69, 32, 78, 79, 84, 32, 69, 88, 73, 83, 84, 83, 32, 40, 83, 69, 76, 69, 67, 84, 32, 70, 82, 79, 77, 32, 106, 115, 111, 110, 98, 95, 97, 114, 114, 97, 121, 95, 101, 108, 101, 109, 101, 110, 116, 115, 40]
def T3 : List Int := [41, 32, 87, 73, 84, 72, 32, 79, 82, 68, 73, 78, 65, 76, 73, 84, 89, 32, 65, 83, 32, 108, 97, 116, 101, 114, 40, 115, 116, 101, 112, 44, 32, 110, 41, 32, 87, 72, 69, 82, 69, 32, 108, 97, 116, 101, 114, 46, 110, 32, 62, 32, 98, 101, 103, 117, 110, 46, 110, 32, 65, 78, 68, 32, 108, 97, 116, 101, 114, 46, 115, 116, 101, 112, 45, 62, 62, 39, 112, 104, 97, 115, 101, 39, 32, 61, 32, 98, 101, 103, 117, 110, 46, 115, 116, 101, 112, 45, 62, 62, 39, 112, 104, 97, 115, 101, 39, 41, 41, 44, 32, 39, 39, 41]
/-- The text around j. -/
def txt (j : List Int) : List Int := T1 ++ (j ++ (T2 ++ (j ++ T3)))
/-- T3 without its last byte. -/
def T3i : List Int := [41, 32, 87, 73, 84, 72, 32, 79, 82, 68, 73, 78, 65, 76, 73, 84, 89, 32, 65, 83, 32, 108, 97, 116, 101, 114, 40, 115, 116, 101, 112, 44, 32, 110, 41, 32, 87, 72, 69, 82, 69, 32, 108, 97, 116, 101, 114, 46, 110, 32, 62, 32, 98, 101, 103, 117, 110, 46, 110, 32, 65, 78, 68, 32, 108, 97, 116, 101, 114, 46, 115, 116, 101, 112, 45, 62, 62, 39, 112, 104, 97, 115, 101, 39, 32, 61, 32, 98, 101, 103, 117, 110, 46, 115, 116, 101, 112, 45, 62, 62, 39, 112, 104, 97, 115, 101, 39, 41, 41, 44, 32, 39, 39]
/-- T1 behind 'coalesce('. -/
def T1r : List Int := [40, 83, 69, 76, 69, 67, 84, 32, 98, 101, 103, 117, 110, 46, 115, 116, 101, 112, 45, 62, 62, 39, 112, 104, 97, 115, 101, 39, 32, 70, 82, 79, 77, 32, 40, 83, 69, 76, 69, 67, 84, 32, 115, 116, 101, 112, 44, 32, 110, 32, 70, 82, 79, 77, 32, 106, 115, 111, 110, 98, 95, 97, 114, 114, 97, 121, 95, 101, 108, 101, 109, 101, 110, 116, 115, 40]
def T1h : List Int := [99, 111, 97, 108, 101, 115, 99, 101, 40]
theorem T1_eq : T1 = T1h ++ T1r := rfl
theorem T3_eq : T3 = T3i ++ [41] := rfl

theorem D_T1 : D T1 = 4 := by decide +kernel
theorem D_T2 : D T2 = 0 := by decide +kernel
theorem D_T3 : D T3 = -4 := by decide +kernel
theorem M_T1 : M T1 = 0 := by decide +kernel
theorem M_T2 : M T2 = -2 := by decide +kernel
theorem M_T3 : M T3 = -4 := by decide +kernel
theorem D_T1r : D T1r = 3 := by decide +kernel
theorem M_T1r : M T1r = 0 := by decide +kernel
theorem M_T3i : M T3i = -3 := by decide +kernel
theorem D_T1h : D T1h = 1 := by decide +kernel
theorem Q_T1 : Q T1 = 2 := by decide +kernel
theorem Q_T2 : Q T2 = 4 := by decide +kernel
theorem Q_T3 : Q T3 = 6 := by decide +kernel
theorem len_T1 : T1.length = 85 := by decide +kernel
theorem len_T2 : T2.length = 147 := by decide +kernel
theorem len_T3 : T3.length = 114 := by decide +kernel
theorem len_T1h : T1h.length = 9 := by decide +kernel

theorem txt_D (j : List Int) (h : D j = 0) : D (txt j) = 0 := by
  unfold txt
  simp only [D_append, h, D_T1, D_T2, D_T3]
  omega
theorem txt_M (j : List Int) (h : D j = 0) (hm : 0 ≤ M j) : 0 ≤ M (txt j) := by
  have hm0 := M_le j
  unfold txt
  simp only [M_append, h, M_T1, M_T2, M_T3, D_T1, D_T2]
  omega
theorem txt_Q (j : List Int) : Q (txt j) = 2 * Q j + 12 := by
  unfold txt
  simp only [Q_append, Q_T1, Q_T2, Q_T3]
  omega
theorem txt_len (j : List Int) : (txt j).length = 346 + 2 * j.length := by
  unfold txt
  simp only [List.length_append]
  rw [len_T1, len_T2, len_T3]
  omega
theorem txt_head (j : List Int) (i : Nat) (hi : i < 9) : (txt j)[i]? = T1h[i]? := by
  unfold txt
  rw [T1_eq, List.append_assoc, List.getElem?_append_left (by show i < 9; exact hi)]
theorem txt_tail (j : List Int) (i : Nat) (hi : i < 5) : (txt j)[(txt j).length - 5 + i]? = ([44, 32, 39, 39, 41] : List Int)[i]? := by
  have e : txt j = (T1 ++ (j ++ (T2 ++ (j ++ [41, 32, 87, 73, 84, 72, 32, 79, 82, 68, 73, 78, 65, 76, 73, 84, 89, 32, 65, 83, 32, 108, 97, 116, 101, 114, 40, 115, 116, 101, 112, 44, 32, 110, 41, 32, 87, 72, 69, 82, 69, 32, 108, 97, 116, 101, 114, 46, 110, 32, 62, 32, 98, 101, 103, 117, 110, 46, 110, 32, 65, 78, 68, 32, 108, 97, 116, 101, 114, 46, 115, 116, 101, 112, 45, 62, 62, 39, 112, 104, 97, 115, 101, 39, 32, 61, 32, 98, 101, 103, 117, 110, 46, 115, 116, 101, 112, 45, 62, 62, 39, 112, 104, 97, 115, 101, 39, 41, 41])))) ++ [44, 32, 39, 39, 41] := by
    unfold txt
    simp only [List.append_assoc]
    rfl
  rw [e]
  generalize T1 ++ (j ++ (T2 ++ (j ++ [41, 32, 87, 73, 84, 72, 32, 79, 82, 68, 73, 78, 65, 76, 73, 84, 89, 32, 65, 83, 32, 108, 97, 116, 101, 114, 40, 115, 116, 101, 112, 44, 32, 110, 41, 32, 87, 72, 69, 82, 69, 32, 108, 97, 116, 101, 114, 46, 110, 32, 62, 32, 98, 101, 103, 117, 110, 46, 110, 32, 65, 78, 68, 32, 108, 97, 116, 101, 114, 46, 115, 116, 101, 112, 45, 62, 62, 39, 112, 104, 97, 115, 101, 39, 32, 61, 32, 98, 101, 103, 117, 110, 46, 115, 116, 101, 112, 45, 62, 62, 39, 112, 104, 97, 115, 101, 39, 41, 41]))) = X
  have e5 : (X ++ [44, 32, 39, 39, 41]).length - 5 + i = X.length + i := by simp
  rw [e5, List.getElem?_append_right (by omega), Nat.add_sub_cancel_left]
/-- No bracket opens among the first eight bytes. -/
theorem txt_first (j : List Int) (k : Nat) (hk : k < 8) : (txt j)[k]? ≠ some 40 := by
  rw [txt_head j k (by omega)]
  have : ∀ i : Fin 8, T1h[i.val]? ≠ some 40 := by decide
  exact this ⟨k, hk⟩
/-- From the first bracket on the depth is at least 1 till the last byte. -/
theorem txt_inner (j : List Int) (h : D j = 0) (hm : 0 ≤ M j) (n : Nat) (h9 : 9 ≤ n) (hn : n < (txt j).length) : 1 ≤ D ((txt j).take n) := by
  have hm0 := M_le j
  have e2 : txt j = T1h ++ ((T1r ++ (j ++ (T2 ++ (j ++ T3i)))) ++ [41]) := by
    unfold txt
    rw [T1_eq, T3_eq]
    simp only [List.append_assoc]
  have hl := len_T1h
  rw [e2] at hn ⊢
  simp only [List.length_append, List.length_cons, List.length_nil] at hn
  rw [List.take_append, D_append, List.take_of_length_le (by omega), List.take_append_of_le_length (by simp only [List.length_append]; omega)]
  have h1 := M_take (T1r ++ (j ++ (T2 ++ (j ++ T3i)))) (n - T1h.length)
  have h2 : M (T1r ++ (j ++ (T2 ++ (j ++ T3i)))) = 0 := by
    simp only [M_append, h, M_T1r, M_T2, M_T3i, D_T1r, D_T2]
    omega
  have h3 := D_T1h
  omega
end Go.Proofs.Qxb6601886aMods.Pl
