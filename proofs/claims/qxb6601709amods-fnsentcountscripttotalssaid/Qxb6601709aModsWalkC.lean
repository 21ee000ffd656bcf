/-
  THE WALKS of seat b6601709aM: (*Sent).count and its shim.
-/
import Derived.Test.Qxb6601709aModsWalkA
import Derived.Test.Qxb6601709aModsPlain
namespace Go.Proofs.Qxb6601709aMods
open Go.RowKit

set_option maxHeartbeats 1600000 in
theorem count_at (g : Nat) (kd sz d b : Int) (o : Nat) (w : World) (ho : Pl.slot kd = o) (h0 : w.cell? ⟨g, o, none⟩ = some (.int .i64 d)) (h1 : w.cell? ⟨g, o + 1, none⟩ = some (.int .i64 b))
    (f0 : w.frozen? ⟨g, o, none⟩ = false) (f1 : w.frozen? ⟨g, o + 1, none⟩ = false) :
    Calls Trym.prog 14 #[.pointer (some ⟨g, 0, none⟩), .int .i64 kd, .int .i64 sz] w fun e w' => e = .returned (.tuple #[]) ∧ w' = (w.setCell ⟨g, o, none⟩ (.int .i64 (wrap64 (d + 1)))).setCell ⟨g, o + 1, none⟩ (.int .i64 (wrap64 (b + sz))) := by
  have T := tcount_any g o d b sz w h0 h1 f0 f1
  clear h0 h1 f0 f1
  have HT : Hid (Calls Trym.prog 16 #[.pointer (some ⟨g, o, none⟩), .int .i64 sz] w fun e w' => e = .returned (.tuple #[]) ∧ w' = (w.setCell ⟨g, o, none⟩ (.int .i64 (wrap64 (d + 1)))).setCell ⟨g, o + 1, none⟩ (.int .i64 (wrap64 (b + sz)))) := T
  clear T
  unfold Pl.slot at ho
  by_cases e1 : kd = 1
  · rw [if_pos e1] at ho
    subst e1; subst ho
    go_enter Trym.func14, Trym.ntmps14
    go_wp2_with fail
    refine HT.out.mono ?_
    rintro e w' ⟨rfl, rfl⟩
    go_wp2_with fail
    go_end0
    exact ⟨rfl, rfl⟩
  rw [if_neg e1] at ho
  have b1 : (kd == 1) = false := beq_eq_false_iff_ne.2 e1
  by_cases e2 : kd = 2
  · rw [if_pos e2] at ho
    subst e2; subst ho
    go_enter Trym.func14, Trym.ntmps14
    go_wp2_with fail
    refine HT.out.mono ?_
    rintro e w' ⟨rfl, rfl⟩
    go_wp2_with fail
    go_end0
    exact ⟨rfl, rfl⟩
  rw [if_neg e2] at ho
  have b2 : (kd == 2) = false := beq_eq_false_iff_ne.2 e2
  by_cases e3 : kd = 3
  · rw [if_pos e3] at ho
    subst e3; subst ho
    go_enter Trym.func14, Trym.ntmps14
    go_wp2_with fail
    refine HT.out.mono ?_
    rintro e w' ⟨rfl, rfl⟩
    go_wp2_with fail
    go_end0
    exact ⟨rfl, rfl⟩
  rw [if_neg e3] at ho
  have b3 : (kd == 3) = false := beq_eq_false_iff_ne.2 e3
  by_cases e4 : kd = 4
  · rw [if_pos e4] at ho
    subst e4; subst ho
    go_enter Trym.func14, Trym.ntmps14
    go_wp2_with fail
    refine HT.out.mono ?_
    rintro e w' ⟨rfl, rfl⟩
    go_wp2_with fail
    go_end0
    exact ⟨rfl, rfl⟩
  rw [if_neg e4] at ho
  have b4 : (kd == 4) = false := beq_eq_false_iff_ne.2 e4
  by_cases e5 : kd = 5
  · rw [if_pos e5] at ho
    subst e5; subst ho
    go_enter Trym.func14, Trym.ntmps14
    go_wp2_with fail
    refine HT.out.mono ?_
    rintro e w' ⟨rfl, rfl⟩
    go_wp2_with fail
    go_end0
    exact ⟨rfl, rfl⟩
  rw [if_neg e5] at ho
  have b5 : (kd == 5) = false := beq_eq_false_iff_ne.2 e5
  clear e1 e2 e3 e4 e5
  subst ho
  go_enter Trym.func14, Trym.ntmps14
  go_wp2_with fail
  refine HT.out.mono ?_
  rintro e w' ⟨rfl, rfl⟩
  go_wp2_with fail
  go_end0
  exact ⟨rfl, rfl⟩

/-- Block g holds the sixteen numbers L, and may be written. -/
def SentAt (w : World) (g : Nat) (L : List Int) : Prop := w.heap[g]? = some (.cells (L.map (Value.int .i64)).toArray 31 (0, 0))

theorem sent_cell {w : World} {g : Nat} {L : List Int} (h : SentAt w g L) (j : Nat) (hj : j < L.length) : w.cell? ⟨g, j, none⟩ = some (.int .i64 (L.getD j 0)) := by
  rw [cell_of_row w g j _ 31 _ h]
  simp [List.getD, hj]

theorem sent_upd {w : World} {g : Nat} {L : List Int} (h : SentAt w g L) (o : Nat) (sz : Int) :
    SentAt ((w.setCell ⟨g, o, none⟩ (.int .i64 (wrap64 (L.getD o 0 + 1)))).setCell ⟨g, o + 1, none⟩ (.int .i64 (wrap64 (L.getD (o + 1) 0 + sz)))) g (Pl.upd L o sz) := by
  have h1 := heap_setCell_same w g o _ 31 (.int .i64 (wrap64 (L.getD o 0 + 1))) h
  have h2 := heap_setCell_same _ g (o + 1) _ 31 (.int .i64 (wrap64 (L.getD (o + 1) 0 + sz))) h1
  unfold SentAt
  rw [h2]
  simp [Pl.upd, List.map_set]

theorem count_any (g : Nat) (L : List Int) (kd sz : Int) (w : World) (h : SentAt w g L) (hl : L.length = 16) :
    Calls Trym.prog 14 #[.pointer (some ⟨g, 0, none⟩), .int .i64 kd, .int .i64 sz] w fun e w' => e = .returned (.tuple #[]) ∧ SentAt w' g (Pl.upd L (Pl.slot kd) sz) ∧ Below g w w' := by
  have hs : Pl.slot kd + 1 < L.length := by have := Pl.slot_cases kd; omega
  refine (count_at g kd sz _ _ _ w rfl (sent_cell h _ (by omega)) (sent_cell h _ hs) (frozen_of_row w g _ _ 31 h) (frozen_of_row w g _ _ 31 h)).mono ?_
  rintro e w' ⟨rfl, rfl⟩
  refine ⟨rfl, sent_upd h _ sz, Below.setCell (Below.setCell (Below.refl _ _) ?_ _) ?_ _⟩
  · exact Nat.le_refl _
  · exact Nat.le_refl _

theorem zz_count (g : Nat) (L : List Int) (kd sz : Int) (w : World) (h : SentAt w g L) (hl : L.length = 16) :
    Calls Trym.prog 8 #[.pointer (some ⟨g, 0, none⟩), .int .i64 kd, .int .i64 sz] w fun e w' => e = .returned (.tuple #[]) ∧ SentAt w' g (Pl.upd L (Pl.slot kd) sz) ∧ Below g w w' := by
  have H : Hid (SentAt w g L) := h
  clear h
  go_enter Trym.func8, Trym.ntmps8
  go_wp2_with fail
  refine (count_any g L kd sz _ H.out hl).mono ?_
  rintro e w' ⟨rfl, h1, h2⟩
  have H1 : Hid (SentAt w' g (Pl.upd L (Pl.slot kd) sz)) := h1
  have H2 : Hid (Below g w w') := h2
  clear h1 h2
  go_wp2_with fail
  go_end0
  exact ⟨rfl, H1.out, H2.out⟩
end Go.Proofs.Qxb6601709aMods
