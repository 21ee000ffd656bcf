/-
  THE WALKS of seat b6601886aM: unknownCallOf and its shim.
-/
import Derived.Test.Qxb6601886aModsWalkA
namespace Go.Proofs.Qxb6601886aMods
open Go.RowKit

theorem unk_bytes (a1 b1 b2 b3 b4 b5 c1 c2 j : ByteArray) (h1 : Pl.bytes a1 = Pl.T1) (h2 : Pl.bytes b1 ++ (Pl.bytes b2 ++ (Pl.bytes b3 ++ (Pl.bytes b4 ++ Pl.bytes b5))) = Pl.T2) (h3 : Pl.bytes c1 ++ Pl.bytes c2 = Pl.T3) :
    Pl.bytes (a1 ++ j ++ b1 ++ b2 ++ b3 ++ b4 ++ b5 ++ j ++ c1 ++ c2) = Pl.txt (Pl.bytes j) := by
  unfold Pl.txt
  rw [← h1, ← h2, ← h3]
  simp only [Pl.bytes_append, List.append_assoc]

set_option maxRecDepth 100000 in
set_option maxHeartbeats 1600000 in
theorem unk_any (j : ByteArray) (w : World) (hs : j.size ≤ 1048576) :
    Calls Trym.prog 15 #[.string j] w fun e w' => (∃ r, e = .returned (.string r) ∧ Pl.bytes r = Pl.txt (Pl.bytes j)) ∧ w' = w := by
  go_enter Trym.func15, Trym.ntmps15
  go_wp2
  go_ret
  refine ⟨⟨_, rfl, ?_⟩, rfl⟩
  exact unk_bytes _ _ _ _ _ _ _ _ j (by decide +kernel) (by decide +kernel) (by decide +kernel)

theorem zz_unk (j : ByteArray) (w : World) (hs : j.size ≤ 1048576) :
    Calls Trym.prog 9 #[.string j] w fun e w' => (∃ r, e = .returned (.string r) ∧ Pl.bytes r = Pl.txt (Pl.bytes j)) ∧ w' = w := by
  go_enter Trym.func9, Trym.ntmps9
  go_wp2_with fail
  refine (unk_any j _ hs).mono ?_
  rintro e w' ⟨⟨r, rfl, hr⟩, rfl⟩
  have HR : Hid (Pl.bytes r = Pl.txt (Pl.bytes j)) := hr
  clear hr
  go_wp2_with fail
  go_ret
  exact ⟨⟨r, rfl, HR.out⟩, rfl⟩

/-! ### the text's bytes, one by one -/
theorem txt_at {r : ByteArray} {t : List Int} (h : Pl.bytes r = t) (k : Nat) (hk : k < r.size) : some (r[k].toNat : Int) = t[k]? := by
  rw [← Pl.bytes_at r k hk, ← h, List.getElem?_eq_getElem]
theorem lit_at (p : ByteArray) (k : Nat) (hk : k < p.size) : some (p[k].toNat : Int) = (Pl.bytes p)[k]? := by
  rw [← Pl.bytes_at p k hk, List.getElem?_eq_getElem]

def preL : ByteArray := { data := #[99, 111, 97, 108, 101, 115, 99, 101, 40] }
def sufL : ByteArray := { data := #[44, 32, 39, 39, 41] }
theorem preL_bytes : Pl.bytes preL = Pl.T1h := by decide +kernel
theorem sufL_bytes : Pl.bytes sufL = [44, 32, 39, 39, 41] := by decide +kernel

theorem pre_txt (r : ByteArray) (j : List Int) (h : Pl.bytes r = Pl.txt j) (hz : 9 ≤ r.size) : ∀ i (hi : i < preL.size), (r[i]'(Nat.lt_of_lt_of_le hi hz)).toNat = (preL[i].toNat : Int) := by
  intro i hi
  have h1 := txt_at h i (Nat.lt_of_lt_of_le hi hz)
  have h2 := lit_at preL i hi
  rw [Pl.txt_head j i hi] at h1
  rw [preL_bytes] at h2
  exact Option.some.inj (h1.trans h2.symm)
theorem suf_txt (r : ByteArray) (j : List Int) (h : Pl.bytes r = Pl.txt j) (hz : 5 ≤ r.size) : ∀ i (hi : i < sufL.size), (r[r.size - sufL.size + i]'(by have : sufL.size = 5 := rfl; omega)).toNat = (sufL[i].toNat : Int) := by
  intro i hi
  have hs : sufL.size = 5 := rfl
  have h1 := txt_at h (r.size - sufL.size + i) (by omega)
  have h2 := lit_at sufL i hi
  have hl : (Pl.txt j).length = r.size := by rw [← h, Pl.bytes_len]
  have h3 := Pl.txt_tail j i (by omega)
  rw [hl] at h3
  rw [sufL_bytes] at h2
  rw [← hs] at h3
  exact Option.some.inj (h1.trans (h3.trans h2.symm))

/-! ### the law's loop: the depth, and whether a bracket has opened -/
def Dep (r : ByteArray) (k : Nat) (x : Int) : Prop := x = Pl.D ((Pl.bytes r).take k)
theorem dep_zero (r : ByteArray) : Dep r 0 0 := by simp [Dep, Pl.D]
theorem dep_bd {r : ByteArray} {k : Nat} {x : Int} (h : Dep r k x) : -(k : Int) ≤ x ∧ x ≤ k := by
  unfold Dep at h
  have h0 : ((Pl.bytes r).take k).length ≤ k := List.length_take_le _ _
  have h1 := Pl.D_bd ((Pl.bytes r).take k)
  omega
theorem dep_open {r : ByteArray} {k : Nat} {x : Int} (h : Dep r k x) (hk : k < r.size) (hc : (r[k].toNat : Int) = 40) : Dep r (k + 1) (x + 1) := by
  unfold Dep at *
  rw [Pl.bytes_take r k hk, Pl.D_snoc, hc, Pl.dl_open, ← h]
theorem dep_shut {r : ByteArray} {k : Nat} {x : Int} (h : Dep r k x) (hk : k < r.size) (hc : (r[k].toNat : Int) = 41) : Dep r (k + 1) (x - 1) := by
  unfold Dep at *
  rw [Pl.bytes_take r k hk, Pl.D_snoc, hc, Pl.dl_shut, ← h]; omega
theorem dep_other {r : ByteArray} {k : Nat} {x : Int} (h : Dep r k x) (hk : k < r.size) (h0 : ¬ (r[k].toNat : Int) = 40) (h1 : ¬ (r[k].toNat : Int) = 41) : Dep r (k + 1) x := by
  unfold Dep at *
  rw [Pl.bytes_take r k hk, Pl.D_snoc, Pl.dl_other _ h0 h1, ← h]; omega
/-- Inside the text the depth is not 0; at its end it is. -/
theorem dep_in {r : ByteArray} {j : List Int} {k : Nat} {x : Int} (hr : Pl.bytes r = Pl.txt j) (hd : Pl.D j = 0) (hm : 0 ≤ Pl.M j) (h : Dep r k x) (h9 : 9 ≤ k) (hk : k < r.size) : (x == 0) = false := by
  unfold Dep at h
  have hl : (Pl.txt j).length = r.size := by rw [← hr, Pl.bytes_len]
  have h1 := Pl.txt_inner j hd hm k h9 (by omega)
  rw [← hr, ← h] at h1
  exact beq_eq_false_iff_ne.2 (by omega)
theorem dep_end {r : ByteArray} {j : List Int} {k : Nat} {x : Int} (hr : Pl.bytes r = Pl.txt j) (hd : Pl.D j = 0) (h : Dep r k x) (hk : k = r.size) : (x == 0) = true := by
  unfold Dep at h
  rw [List.take_of_length_le (by rw [Pl.bytes_len]; omega), hr, Pl.txt_D j hd] at h
  exact beq_iff_eq.2 h
theorem txt_no {r : ByteArray} {j : List Int} (hr : Pl.bytes r = Pl.txt j) (k : Nat) (hk : k < r.size) (h8 : k < 8) : ¬ (r[k].toNat : Int) = 40 := by
  intro h
  have h1 := txt_at hr k hk
  rw [h] at h1
  exact Pl.txt_first j k h8 h1.symm
theorem txt_eight {r : ByteArray} {j : List Int} (hr : Pl.bytes r = Pl.txt j) (hk : 8 < r.size) : (r[8].toNat : Int) = 40 := by
  have h1 := txt_at hr 8 hk
  rw [Pl.txt_head j 8 (by omega)] at h1
  exact Option.some.inj h1
end Go.Proofs.Qxb6601886aMods
