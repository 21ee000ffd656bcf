/-
  'Rows.FnStringLengthMeasuresEncodedStringSaid' PROVED, in the frame of the seat's own shell (laid by program); the walk is filled in.
-/
import Derived.Test.Qxb6600950aModsRows
import Derived.Test.Qxb6600950aModsWalkE
import Derived.WalkKit
import Derived.ProofKit
import Derived.OpenShut
import Derived.ShutString
import Derived.ChangeOld
import Derived.Below
namespace Go.Proofs.Qxb6600950aMods.fnStringLengthMeasuresEncodedString
open Go.ChangeShapes Go.WideShapes Go.ChangeAt Go.RowKit
open Go.ChangeMaps (open_string shut_string)
set_option linter.unusedVariables false

theorem own : ownKnob Trym.prog.godebug = none := by kernel_rfl
theorem laidOut : laidOutB Trym.prog = true := by kernel_rfl

/-- WHAT THE WALK IS TOLD OF A SLICE OF INTEGERS THAT CAME IN: it is nil; or it leads to a row of 'cap' cells, the numbers 'zs' (the first 'len' are its elements, the rest its spare room), each fitting its kind. -/
def IsRow (k : IntKind) (w : World) (a : Option Addr) (len cap : Nat) (zs : List Int) : Prop :=
  (a = none ∧ len = 0 ∧ cap = 0 ∧ zs = []) ∨
  ∃ x, a = some x ∧ len ≤ cap ∧ cap ≤ maxLen ∧ zs.length = cap ∧ (∀ i, i < zs.length → w.cell? (x.add i) = some (.int k (zs.getD i 0))) ∧ ∀ n ∈ zs, (Lit.int k n).wf = true

/-! ### STEP 1: THE WALK: the Go text returns true, AND WRITES NOTHING THAT WAS THERE: 'Below w.heap.size w w'' (Derived/Below.lean: '.refl', '.alloc', '.drew', '.setCell' at a new block, '.trans'). Open each 'IsRow' by 'rcases' AHEAD of 'go_enter'; part every test ahead of the walk. -/
theorem walk (a0 : ByteArray) (a1 : Option Addr) (len1 cap1 : Nat) (z1 : List Int) (w : World) (w0 : a0.size ≤ maxLen) (w1 : IsRow .u8 w a1 len1 cap1 z1) :
    Calls Trym.prog 4 #[.string a0, .slice a1 len1 cap1] w fun e w' => e = .returned (.bool true) ∧ Below w.heap.size w w' := by
  obtain ⟨hnil, hm, hzl, hc⟩ : (a1 = none → len1 = 0 ∧ cap1 = 0) ∧ len1 ≤ maxLen ∧ len1 ≤ z1.length ∧ (∀ x, a1 = some x → ∀ i, i < z1.length → w.cell? (x.add i) = some (.int .u8 (z1.getD i 0))) := by
    rcases w1 with ⟨rfl, rfl, rfl, rfl⟩ | ⟨x, rfl, h1, h2, h3, h4, _⟩
    · exact ⟨fun _ => ⟨rfl, rfl⟩, Nat.zero_le _, Nat.zero_le _, fun x hx => by cases hx⟩
    · exact ⟨fun h => (by cases h), by omega, by omega, fun y hy => by cases hy; exact h4⟩
  clear w1
  have HN : Hid (a1 = none → len1 = 0 ∧ cap1 = 0) := hnil
  have HL : Hid (len1 ≤ z1.length) := hzl
  have HC : Hid (∀ x, a1 = some x → ∀ i, i < z1.length → w.cell? (x.add i) = some (.int .u8 (z1.getD i 0))) := hc
  clear hnil hzl hc
  by_cases hb : a0.size + len1 ≤ 1048576
  · by_cases hbb : 6 * a0.size + 2 + len1 ≤ 1048576
    · go_enter Trym.func4, Trym.ntmps4
      go_wp2_with fail
      refine (bound2_yes a0 a1 len1 cap1 _ hb).mono ?_
      rintro e w' ⟨rfl, rfl⟩
      go_wp2_with fail
      refine (clone_any a1 len1 cap1 z1 _ (by omega) HN.out HL.out HC.out).mono ?_
      rintro e w2 ⟨⟨v, rfl, hv⟩, hbel⟩
      have HV : Hid (Has w2 v (z1.take len1)) := hv
      have HBEL : Hid (Below w'.heap.size w' w2) := hbel
      clear hv hbel
      go_wp2_with fail
      refine (enc_any w2.heap.size _ a0 w2 _ (by omega) (own_lit w2)).mono ?_
      rintro e w3 ⟨v3, rfl, hO3⟩
      have HV3 : Hid (Has w3 v (z1.take len1)) := has_below HV.out hO3.2.1
      have HE3 : Hid (Has w3 v3 (Pl.enc (bytes a0))) := own_has hO3
      have HB3 : Hid (Below w'.heap.size w' w3) := HBEL.out.trans (hO3.2.1.mono HBEL.out.size)
      have HS3 : Hid (w'.heap.size ≤ w3.heap.size) := Nat.le_trans HBEL.out.size hO3.2.1.size
      clear hO3 HV HBEL
      obtain ⟨ao, c3, rfl, _, _⟩ := has_open HE3.out
      obtain ⟨n3, hn3⟩ : ∃ n3, n3 = (Pl.enc (bytes a0)).length := ⟨_, rfl⟩
      rw [← hn3] at HE3 ⊢
      have HN3 : Hid (n3 = (Pl.enc (bytes a0)).length) := hn3
      clear hn3
      have hl4 : (Pl.enc (bytes a0)).length + (z1.take len1).length ≤ 1048576 := by
        have h1 := enc_bd a0
        have h2 : (z1.take len1).length ≤ len1 := List.length_take_le _ _
        omega
      have HL4 : Hid ((Pl.enc (bytes a0)).length + (z1.take len1).length ≤ 1048576) := hl4
      clear hl4
      go_wp2_with fail
      refine (concat_any _ v (Pl.enc (bytes a0)) (z1.take len1) _ (by have := HL4.out; omega) HE3.out HV3.out).mono ?_
      rintro e w4 ⟨v4, rfl, hO4⟩
      have HV4 : Hid (Has w4 v4 (Pl.enc (bytes a0) ++ z1.take len1)) := own_has hO4
      have HB4 : Hid (Below w'.heap.size w' w4) := HB3.out.trans (hO4.2.1.mono HS3.out)
      clear hO4
      go_wp2_with fail
      refine (zz_has v4 (Pl.enc (bytes a0) ++ z1.take len1) _ HV4.out (by rw [List.length_append]; exact HL4.out)).mono ?_
      rintro e w5 ⟨rfl, rfl⟩
      rw [Pl.slen_enc _ _ (bytes_bd a0), ← HN3.out]
      go_wp2_with fail
      go_ret
      exact ⟨by simp, HB4.out⟩
    · go_enter Trym.func4, Trym.ntmps4
      go_wp2_with fail
      refine (bound2_yes a0 a1 len1 cap1 _ hb).mono ?_
      rintro e w' ⟨rfl, rfl⟩
      go_wp2_with fail
      go_ret
      exact ⟨rfl, Below.refl _ _⟩
  · go_enter Trym.func4, Trym.ntmps4
    go_wp2_with fail
    refine (bound2_no a0 a1 len1 cap1 _ (by omega) w0 hm).mono ?_
    rintro e w' ⟨rfl, rfl⟩
    go_wp2_with fail
    go_ret
    exact ⟨rfl, Below.refl _ _⟩

/-! ### THE ROW's STEP: WRITTEN OUT: LEAVE IT -/
set_option maxRecDepth 100000 in
theorem lifted (os : Os) (started : os.Started) (H : Type) (enc : TypeId × Value → H) :
    ReturnsInHanded {} Trym.checked os 4 .any (Rows.fnStringLengthMeasuresEncodedStringSpec.pre6 enc Trym.prog Trym.f4 Rows.fnStringLengthMeasuresEncodedStringRow.domain false) (Rows.fnStringLengthMeasuresEncodedStringSpec.post enc Trym.prog Trym.f4 false true false false) := by
  refine returnsInHanded_of_change (C := Trym.checked) own started (by kernel_rfl) Trym.func4
    (ChangeSpec.witness6 (enc := enc) (C := Trym.checked) false ⟨#[], #[.string ByteArray.empty, .slice none 0 0], []⟩ 8 (by kernel_rfl) (by kernel_rfl) (by kernel_rfl) (by kernel_rfl)) ?_
  intro W base args ds gs before hval0 hW hcnd _
  have hval : ∀ (j : Nat) t v, Trym.f4.params[j]? = some t → args[j]? = some v → Value.okWide Trym.prog W .any base t v := hval0
  have hW' := hW
  obtain ⟨p, q, hA0, hV, rfl, hfz, hnd⟩ := hW
  have hA : DataW.TrodAll enc Trym.prog W 0 (fun _ => true) true Trym.f4.params.toList args.toList ds p := hA0
  rw [Trym.params4] at hA hval
  obtain ⟨v0, vs0, d0, ds0, p0, q0, hargs, rfl, rfl, h0, r0⟩ := trodAll_cons hA
  obtain ⟨v1, vs1, d1, ds1, p1, q1, rfl, rfl, rfl, h1, r1⟩ := trodAll_cons r0
  obtain ⟨rfl, rfl, rfl⟩ := trodAll_nil r1
  obtain rfl : args = #[v0, v1] := by cases args; simp_all
  obtain ⟨rfl, rfl⟩ := trodVars_none hV
  obtain ⟨a0, rfl, rfl, rfl, w0⟩ := open_string Trym.underlying9 (hval 0 9 v0 rfl rfl) h0
  obtain ⟨a1, len1, cap1, rfl⟩ := okWide_slice Trym.underlying22 (hval 1 22 v1 rfl rfl)
  have k1 := h1
  have lt1 : ∀ x ∈ p1, x.block < W.heap.size := by obtain ⟨m, hm⟩ := k1; exact DataW.trod_lt m _ _ _ hm
  obtain ⟨z1, w1⟩ : ∃ zs, IsRow .u8 W a1 len1 cap1 zs := by
    obtain ⟨fuel, hf⟩ := h1
    rcases open_ints Trym.underlying22 Trym.underlying5 (by kernel_rfl) hf with ⟨hcs, _⟩ | ⟨x, l, c, zs, hcs, _, hl, hm, hz, _, hcell, hwz⟩
    · simp [Value.cells] at hcs
      obtain ⟨rfl, rfl, rfl⟩ := hcs
      exact ⟨[], .inl ⟨rfl, rfl, rfl, rfl⟩⟩
    · simp [Value.cells] at hcs
      obtain ⟨rfl, rfl, rfl⟩ := hcs
      exact ⟨zs, .inr ⟨_, rfl, hl, hm, by simpa using hz, hcell, hwz⟩⟩
  clear hA0 hval0
  refine (walk a0 a1 len1 cap1 z1 W w0 w1).mono fun e W' ⟨he, bel⟩ => ?_
  subst he
  exact ⟨_, rfl, _, _, _, [], _, [], hW', trodAll_mk1 (shut_bool Trym.underlying4 _), (trodAll_cons_mk (shut_string Trym.underlying9 w0) (trodAll_cons_mk (Below.trod laidOut (by kernel_rfl) (of_decide_eq_true (by kernel_rfl)) k1 bel lt1) trodAll_mk0)), rfl, bel.frame _, fun h => by cases h⟩

theorem over : Rows.fnStringLengthMeasuresEncodedStringRow.holds Trym.pinned (OpenSpec.ofChange Rows.fnStringLengthMeasuresEncodedStringSpec) :=
  OpenClaim.holds_of_wide 4 Trym.f4 rfl rfl rfl rfl rfl rfl rfl ⟨rfl, rfl, rfl, rfl, rfl⟩ rfl rfl rfl rfl rfl (by kernel_rfl) Trym.func4 (by kernel_rfl)
    (of_decide_eq_true (by kernel_rfl)) (by unfold Func.isWrapper; first | (rw [if_pos (by decide +kernel)]; kernel_rfl) | (rw [if_neg (by decide +kernel)]; exact ⟨rfl, rfl⟩))
    (fun os started H enc _ => lifted os started H enc)

/-- ████ THE STATEMENT ████ -/
theorem proved : Rows.FnStringLengthMeasuresEncodedStringSaid := over
end Go.Proofs.Qxb6600950aMods.fnStringLengthMeasuresEncodedString
