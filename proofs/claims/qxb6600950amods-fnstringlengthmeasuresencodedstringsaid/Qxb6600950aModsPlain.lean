/-
  THE PLAIN LAW of seat b6600950aM: no Go in sight. The place of the first quote that no backslash covers.
-/
namespace Go.Proofs.Qxb6600950aMods.Pl

/-- Where the first uncovered 34 stands; the Bool: is the head covered by a 92 ahead of it? -/
def fnd : Bool → List Int → Option Nat
  | _, [] => none
  | true, _ :: r => (fnd false r).map (· + 1)
  | false, x :: r => if x = 34 then some 0 else (fnd (decide (x = 92)) r).map (· + 1)

def ans (o : Option Nat) (len : Nat) : Nat :=
  match o with
  | some p => p + 2
  | none => len

/-- The length of the quoted string at the head of zs. -/
def slen (zs : List Int) : Nat := ans (fnd false (zs.drop 1)) zs.length

/-- How many 92 stand in a row right before place k, no further back than place 1. -/
def run (zs : List Int) : Nat → Nat
  | 0 => 0
  | k + 1 => if k = 0 then 0 else if zs.getD k 0 = 92 then run zs k + 1 else 0

theorem run_one (zs : List Int) : run zs 1 = 0 := by simp [run]
theorem run_hit (zs : List Int) (k : Nat) (h : 1 ≤ k) (hz : zs.getD k 0 = 92) : run zs (k + 1) = run zs k + 1 := by
  rw [run, if_neg (by omega), if_pos hz]
theorem run_miss (zs : List Int) (k : Nat) (hz : ¬ zs.getD k 0 = 92) : run zs (k + 1) = 0 := by
  rw [run, if_neg hz]
  split <;> rfl
theorem run_le (zs : List Int) (k : Nat) : run zs k ≤ k := by
  induction k with
  | zero => simp [run]
  | succ k ih =>
    rw [run]
    split
    · omega
    · split <;> omega

/-- At place k: what is to be found from the head is what is to be found from k on. -/
def At (zs : List Int) (e : Bool) (k : Nat) : Prop := 1 ≤ k ∧ fnd false (zs.drop 1) = (fnd e (zs.drop k)).map (· + (k - 1))

theorem at_one (zs : List Int) : At zs false 1 := ⟨Nat.le_refl _, by simp⟩

theorem drop_cons (zs : List Int) (k : Nat) (h : k < zs.length) : zs.drop k = zs.getD k 0 :: zs.drop (k + 1) := by
  rw [List.drop_eq_getElem_cons h]; simp [List.getD, h]

theorem map_map_succ (o : Option Nat) (k : Nat) (h : 1 ≤ k) : (o.map (· + 1)).map (· + (k - 1)) = o.map (· + (k + 1 - 1)) := by
  cases o with
  | none => rfl
  | some p => simp; omega

theorem at_covered {zs : List Int} {k : Nat} (h : At zs true k) (hk : k < zs.length) : At zs false (k + 1) := by
  refine ⟨by omega, ?_⟩
  rw [h.2, drop_cons zs k hk, fnd, map_map_succ _ _ h.1]

theorem at_next {zs : List Int} {k : Nat} (h : At zs false k) (hk : k < zs.length) (hq : ¬ zs.getD k 0 = 34) : At zs (decide (zs.getD k 0 = 92)) (k + 1) := by
  refine ⟨by omega, ?_⟩
  rw [h.2, drop_cons zs k hk, fnd, if_neg hq, map_map_succ _ _ h.1]

theorem at_end {zs : List Int} {k : Nat} {e : Bool} (h : At zs e k) (hk : zs.length ≤ k) : slen zs = zs.length := by
  unfold slen
  rw [h.2, List.drop_eq_nil_of_le hk]
  cases e <;> rfl

theorem at_past {zs : List Int} {k : Nat} (h : At zs true k) : At zs false (k + 1) := by
  by_cases hk : k < zs.length
  · exact at_covered h hk
  · refine ⟨by omega, ?_⟩
    rw [h.2, List.drop_eq_nil_of_le (by omega), List.drop_eq_nil_of_le (by omega)]
    rfl

theorem at_hit {zs : List Int} {k : Nat} (h : At zs false k) (hk : k < zs.length) (hq : zs.getD k 0 = 34) : slen zs = k + 1 := by
  unfold slen
  have := h.1
  rw [h.2, drop_cons zs k hk, fnd, if_pos hq]
  simp [ans]; omega

/-! the scan's own steps -/
theorem scan_esc {zs : List Int} {k : Nat} (h : At zs false k) (hk : k < zs.length) (hz : zs.getD k 0 = 92) : At zs false (k + 2) := by
  have h1 := at_next h hk (by omega)
  rw [decide_eq_true hz] at h1
  exact at_past h1
theorem scan_step {zs : List Int} {k : Nat} (h : At zs false k) (hk : k < zs.length) (hz : ¬ zs.getD k 0 = 92) (hq : ¬ zs.getD k 0 = 34) : At zs false (k + 1) := by
  have h1 := at_next h hk hq
  rwa [decide_eq_false hz] at h1

/-! the parity model's steps -/
def odd (n : Nat) : Bool := decide (n % 2 = 1)
theorem par_one (zs : List Int) : At zs (odd (run zs 1)) 1 := by rw [run_one]; exact at_one zs
theorem par_step {zs : List Int} {k : Nat} (h : At zs (odd (run zs k)) k) (hk : k < zs.length) (hz : ¬ (zs.getD k 0 = 34 ∧ run zs k % 2 = 0)) : At zs (odd (run zs (k + 1))) (k + 1) := by
  by_cases ho : run zs k % 2 = 1
  · have e : odd (run zs k) = true := by simp [odd, ho]
    rw [e] at h
    have h1 := at_covered h hk
    by_cases h92 : zs.getD k 0 = 92
    · rw [run_hit zs k h.1 h92]
      have e2 : odd (run zs k + 1) = false := by simp [odd]; omega
      rwa [e2]
    · rw [run_miss zs k h92]; exact h1
  · have e : odd (run zs k) = false := by simp [odd]; omega
    rw [e] at h
    have h1 := at_next h hk (fun hq => hz ⟨hq, by omega⟩)
    by_cases h92 : zs.getD k 0 = 92
    · rw [run_hit zs k h.1 h92]
      have e2 : odd (run zs k + 1) = true := by simp [odd]; omega
      rw [e2]; rwa [decide_eq_true h92] at h1
    · rw [run_miss zs k h92]; rwa [decide_eq_false h92] at h1
theorem par_hit {zs : List Int} {k : Nat} (h : At zs (odd (run zs k)) k) (hk : k < zs.length) (hq : zs.getD k 0 = 34) (hr : run zs k % 2 = 0) : slen zs = k + 1 := by
  have e : odd (run zs k) = false := by simp [odd]; omega
  rw [e] at h
  exact at_hit h hk hq

/-! ### the encoder -/
/-- A byte's digit. -/
def hex (n : Int) : Int := if n < 10 then 48 + n else 97 + n - 10
/-- What the encoder writes for one byte. -/
def chunk (c : Int) : List Int :=
  if c = 34 ∨ c = 92 then [92, c] else if c < 32 ∨ 127 ≤ c then [92, 117, 48, 48, hex (c / 16), hex (c % 16)] else [c]
def body (cs : List Int) : List Int := cs.flatMap chunk
def enc (cs : List Int) : List Int := 34 :: (body cs ++ [34])

theorem fnd_chunk (c : Int) (h0 : 0 ≤ c) (h1 : c ≤ 255) (r : List Int) : fnd false (chunk c ++ r) = (fnd false r).map (· + (chunk c).length) := by
  have hx : ∀ n : Int, 0 ≤ n → n < 16 → hex n ≠ 34 ∧ hex n ≠ 92 := by
    intro n a b
    unfold hex
    split <;> constructor <;> omega
  have f1 : ∀ (x : Int) (l : List Int), fnd true (x :: l) = (fnd false l).map (· + 1) := fun _ _ => rfl
  have f2 : ∀ l : List Int, fnd false (92 :: l) = (fnd true l).map (· + 1) := fun _ => rfl
  have f3 : ∀ (x : Int) (l : List Int), x ≠ 34 → x ≠ 92 → fnd false (x :: l) = (fnd false l).map (· + 1) := by
    intro x l a b
    rw [fnd, if_neg a, decide_eq_false b]
  unfold chunk
  split
  · simp only [List.cons_append, List.nil_append, f1, f2]
    cases fnd false r <;> simp
  · split
    · obtain ⟨a1, a2⟩ := hx (c / 16) (by omega) (by omega)
      obtain ⟨b1, b2⟩ := hx (c % 16) (by omega) (by omega)
      simp only [List.cons_append, List.nil_append, f1, f2]
      rw [f3 48 _ (by decide) (by decide), f3 48 _ (by decide) (by decide), f3 _ _ a1 a2, f3 _ _ b1 b2]
      cases fnd false r <;> simp
    · rename_i h2 h3
      rw [List.cons_append, List.nil_append, f3 c r (by omega) (by omega)]
      simp

theorem fnd_body (cs : List Int) (h : ∀ c ∈ cs, 0 ≤ c ∧ c ≤ 255) (r : List Int) : fnd false (body cs ++ r) = (fnd false r).map (· + (body cs).length) := by
  induction cs with
  | nil => simp [body]
  | cons c cs ih =>
    have hc := h c (by simp)
    have e : body (c :: cs) = chunk c ++ body cs := rfl
    rw [e, List.append_assoc, fnd_chunk c hc.1 hc.2, ih (fun d hd => h d (by simp [hd]))]
    cases fnd false r <;> simp; omega

theorem slen_enc (cs tail : List Int) (h : ∀ c ∈ cs, 0 ≤ c ∧ c ≤ 255) : slen (enc cs ++ tail) = (enc cs).length := by
  unfold slen
  have e : (enc cs ++ tail).drop 1 = body cs ++ (34 :: tail) := by simp [enc]
  rw [e, fnd_body cs h]
  simp [fnd, ans, enc]

theorem chunk_len (c : Int) : 1 ≤ (chunk c).length ∧ (chunk c).length ≤ 6 := by
  unfold chunk
  split
  · simp
  · split <;> simp
theorem body_len (cs : List Int) : (body cs).length ≤ 6 * cs.length := by
  induction cs with
  | nil => simp [body]
  | cons c cs ih =>
    have e : body (c :: cs) = chunk c ++ body cs := rfl
    have := chunk_len c
    rw [e, List.length_append, List.length_cons]; omega
theorem body_snoc (cs : List Int) (c : Int) : body (cs ++ [c]) = body cs ++ chunk c := by simp [body]
theorem enc_len (cs : List Int) : (enc cs).length = (body cs).length + 2 := by simp [enc]
end Go.Proofs.Qxb6600950aMods.Pl
