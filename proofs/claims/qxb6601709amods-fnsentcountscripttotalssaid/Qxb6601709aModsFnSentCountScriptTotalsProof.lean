/-
  'Rows.FnSentCountScriptTotalsSaid' PROVED. The frame is the guide's (proof-skeleton.mjs's make at a slice; here typed by hand for a struct by value and a slice of structs).
-/
import Derived.Test.Qxb6601709aModsRows
import Derived.Test.Qxb6601709aModsWalkD
import Derived.WalkKit
import Derived.ProofKit
import Derived.OpenShut
import Derived.ChangeOld
import Derived.Below
import Derived.Deep.Slices
namespace Go.Proofs.Qxb6601709aMods.fnSentCountScriptTotals
open Go.ChangeShapes Go.WideShapes Go.ChangeAt Go.RowKit
set_option linter.unusedVariables false

theorem own : ownKnob Trym.prog.godebug = none := by kernel_rfl
theorem laidOut : laidOutB Trym.prog = true := by kernel_rfl
theorem cells2 : Trym.prog.cellsOf 2 = 1 := by kernel_rfl
theorem cells3 : Trym.prog.cellsOf 3 = 1 := by kernel_rfl
theorem cells23 : Trym.prog.cellsOf 23 = 2 := by kernel_rfl
theorem cells36 : Trym.prog.cellsOf 36 = 2 := by kernel_rfl
theorem cells25 : Trym.prog.cellsOf 25 = 16 := by kernel_rfl

section
variable {H : Type} {enc : TypeId × Value → H} {w : World} {base : Nat} {spare : Nat → Bool} {held : Bool}

/-- Two cells that read as a ZTraffic are two integers. -/
theorem pair23 {n : Nat} {cs : List Value} {y : DataW H × List MemPlace} (h : DataW.trod enc Trym.prog w base spare held n 23 cs = some y) : ∃ p q, cs = [.int .i64 p, .int .i64 q] := by
  obtain ⟨y0, y1, m, _, hl, h0, h1⟩ := trod_struct2 Trym.underlying23 h
  rw [cells23] at hl
  match cs, hl with
  | [c0, c1], _ =>
    simp [cells2] at h0 h1
    obtain ⟨p, e0, _⟩ := DataW.trod_int Trym.underlying2 h0
    obtain ⟨q, e1, _⟩ := DataW.trod_int Trym.underlying2 h1
    simp at e0 e1
    exact ⟨p, q, by rw [e0, e1]⟩
/-- Two cells that read as a ZOp are two integers. -/
theorem pair36 {n : Nat} {cs : List Value} {y : DataW H × List MemPlace} (h : DataW.trod enc Trym.prog w base spare held n 36 cs = some y) : ∃ p q, cs = [.int .i64 p, .int .i64 q] := by
  obtain ⟨y0, y1, m, _, hl, h0, h1⟩ := trod_struct2 Trym.underlying36 h
  rw [cells36] at hl
  match cs, hl with
  | [c0, c1], _ =>
    simp [cells3] at h0 h1
    obtain ⟨p, e0, _⟩ := DataW.trod_int Trym.underlying3 h0
    obtain ⟨q, e1, _⟩ := DataW.trod_int Trym.underlying3 h1
    simp at e0 e1
    exact ⟨p, q, by rw [e0, e1]⟩

/-- Sixteen cells that read as a ZSent are sixteen integers. -/
theorem open25 {n : Nat} {cs : List Value} {y : DataW H × List MemPlace} (h : DataW.trod enc Trym.prog w base spare held n 25 cs = some y) : ∃ L : List Int, L.length = 16 ∧ cs = L.map (Value.int .i64) := by
  obtain ⟨xs, m, _, _, hl, hx, hf⟩ := DataW.trod_struct Trym.underlying25 h
  rw [cells25] at hl
  match cs, hl with
  | [c0, c1, c2, c3, c4, c5, c6, c7, c8, c9, c10, c11, c12, c13, c14, c15], _ =>
    match xs, hx with
    | [y0, y1, y2, y3, y4, y5, y6, y7], _ =>
      have f0 := hf 0 _ rfl
      have f1 := hf 1 _ rfl
      have f2 := hf 2 _ rfl
      have f3 := hf 3 _ rfl
      have f4 := hf 4 _ rfl
      have f5 := hf 5 _ rfl
      have f6 := hf 6 _ rfl
      have f7 := hf 7 _ rfl
      simp [cells23] at f0 f1 f2 f3 f4 f5 f6 f7
      obtain ⟨p0, q0, e0⟩ := pair23 f0
      obtain ⟨p1, q1, e1⟩ := pair23 f1
      obtain ⟨p2, q2, e2⟩ := pair23 f2
      obtain ⟨p3, q3, e3⟩ := pair23 f3
      obtain ⟨p4, q4, e4⟩ := pair23 f4
      obtain ⟨p5, q5, e5⟩ := pair23 f5
      obtain ⟨p6, q6, e6⟩ := pair23 f6
      obtain ⟨p7, q7, e7⟩ := pair23 f7
      simp at e0 e1 e2 e3 e4 e5 e6 e7
      refine ⟨[p0, q0, p1, q1, p2, q2, p3, q3, p4, q4, p5, q5, p6, q6, p7, q7], rfl, ?_⟩
      simp [e0, e1, e2, e3, e4, e5, e6, e7]

/-- A slice that reads as a []ZOp: what the walk is told of it. -/
theorem open26 {n : Nat} {a : Option Addr} {len cap : Nat} {y : DataW H × List MemPlace} (h : DataW.trod enc Trym.prog w base (fun _ => true) held n 26 [.slice a len cap] = some y) :
    (a = none → len = 0 ∧ cap = 0) ∧ len ≤ maxLen ∧ ∃ ks : List (Int × Int), ks.length = len ∧ Has w (.slice a len cap) ks := by
  rcases Deep.open_slice Trym.underlying26 h with ⟨hcs, _⟩ | ⟨x, l, c, m, f, D, Pl, hcs, _, hl, hm, hmm, _, hel⟩
  · simp at hcs
    obtain ⟨rfl, rfl, rfl⟩ := hcs
    exact ⟨fun _ => ⟨rfl, rfl⟩, Nat.zero_le _, [], rfl, none, 0, rfl, fun h => by simp at h⟩
  · simp at hcs
    obtain ⟨rfl, rfl, rfl⟩ := hcs
    simp only [if_true] at hmm
    refine ⟨fun h => (by cases h), by omega, ?_⟩
    have hp : ∀ i, i < len → ∃ pq : Int × Int, w.cell? (x.add (i * 2)) = some (.int .i64 pq.1) ∧ w.cell? (x.add (i * 2 + 1)) = some (.int .i64 pq.2) := by
      intro i hi
      obtain ⟨cs', hc, ht⟩ := hel i (by omega)
      obtain ⟨p, q, rfl⟩ := pair36 ht
      rw [cells36] at hc
      obtain ⟨_, _, hj⟩ := World.cells?_some hc
      have h0 := hj 0 (by omega)
      have h1 := hj 1 (by omega)
      rw [Deep.add_add] at h0 h1
      exact ⟨(p, q), by simpa using h0, by simpa using h1⟩
    obtain ⟨f, hf⟩ := Deep.choose_lt hp
    refine ⟨(List.range len).map f, by simp, some x, cap, by simp, fun h0 => ?_⟩
    have hlen : ((List.range len).map f).length = len := by simp
    rw [hlen] at h0
    obtain ⟨b, off, spot⟩ := x
    have hspot : spot = none := by simpa [Addr.add] using World.cell?_spot (hf 0 h0).1
    subst hspot
    refine ⟨b, off, rfl, fun i hi => ?_⟩
    rw [hlen] at hi
    have h1 := hf i hi
    rw [Addr.add_lit, Addr.add_lit] at h1
    have e : ((List.range len).map f).getD i (0, 0) = f i := by simp [List.getD, hi]
    rw [e]
    exact h1
end

set_option maxRecDepth 100000 in
set_option maxHeartbeats 1600000 in
theorem walk (L0 : List Int) (hL0 : L0.length = 16) (a1 : Option Addr) (len1 cap1 : Nat) (ks : List (Int × Int)) (w : World) (hk : ks.length = len1) (hm : len1 ≤ maxLen) (hnil : a1 = none → len1 = 0 ∧ cap1 = 0) (hv : Has w (.slice a1 len1 cap1) ks) :
    Calls Trym.prog 3 #[.agg (cel L0), .slice a1 len1 cap1] w fun e w' => e = .returned (.bool true) ∧ Below w.heap.size w w' := by
  by_cases h1 : len1 ≤ 65536
  · exact law_main L0 hL0 a1 len1 cap1 ks w hk h1 hv hnil
  · have HS25 : Hid ((Trym.prog.info? 25).map (·.size) = some (cel L0).size) := by rw [cel_size, hL0]; exact Trym.size25
    clear hv hnil hk hL0
    by_cases h2 : len1 ≤ 1048576
    · go_enter Trym.func3, Trym.ntmps3
      go_wp2_with (refine wpList_load_row rfl 25 (.tmp 2) rfl w.heap.size rfl 25 (cel L0) (0, 0) _ (heap_alloc_last w _) Trym.underlying25 rfl HS25.out ?_)
      refine (bound_yes _ a1 len1 cap1 _ h2).mono ?_
      rintro e w1 ⟨rfl, rfl⟩
      go_wp2_with fail
      go_ret
      exact ⟨rfl, below_new (below_new (Below.refl _ _) _) _⟩
    · go_enter Trym.func3, Trym.ntmps3
      go_wp2_with (refine wpList_load_row rfl 25 (.tmp 2) rfl w.heap.size rfl 25 (cel L0) (0, 0) _ (heap_alloc_last w _) Trym.underlying25 rfl HS25.out ?_)
      refine (bound_no _ a1 len1 cap1 _ (by omega) hm).mono ?_
      rintro e w1 ⟨rfl, rfl⟩
      go_wp2_with fail
      go_ret
      exact ⟨rfl, below_new (below_new (Below.refl _ _) _) _⟩

/-! ### THE ROW's STEP -/
set_option maxRecDepth 100000 in
theorem lifted (os : Os) (started : os.Started) (H : Type) (enc : TypeId × Value → H) :
    ReturnsInHanded {} Trym.checked os 3 .any (Rows.fnSentCountScriptTotalsSpec.pre6 enc Trym.prog Trym.f3 Rows.fnSentCountScriptTotalsRow.domain false) (Rows.fnSentCountScriptTotalsSpec.post enc Trym.prog Trym.f3 false true false false) := by
  refine returnsInHanded_of_change (C := Trym.checked) own started (by kernel_rfl) Trym.func3
    (ChangeSpec.witness6 (enc := enc) (C := Trym.checked) false ⟨#[], #[.agg #[.int .i64 0, .int .i64 0, .int .i64 0, .int .i64 0, .int .i64 0, .int .i64 0, .int .i64 0, .int .i64 0, .int .i64 0, .int .i64 0, .int .i64 0, .int .i64 0, .int .i64 0, .int .i64 0, .int .i64 0, .int .i64 0], .slice none 0 0], []⟩ 8 (by kernel_rfl) (by kernel_rfl) (by kernel_rfl) (by kernel_rfl)) ?_
  intro W base args ds gs before hval0 hW hcnd _
  have hval : ∀ (j : Nat) t v, Trym.f3.params[j]? = some t → args[j]? = some v → Value.okWide Trym.prog W .any base t v := hval0
  have hW' := hW
  obtain ⟨p, q, hA0, hV, rfl, hfz, hnd⟩ := hW
  have hA : DataW.TrodAll enc Trym.prog W 0 (fun _ => true) true Trym.f3.params.toList args.toList ds p := hA0
  rw [Trym.params3] at hA hval
  obtain ⟨v0, vs0, d0, ds0, p0, q0, hargs, rfl, rfl, h0, r0⟩ := trodAll_cons hA
  obtain ⟨v1, vs1, d1, ds1, p1, q1, rfl, rfl, rfl, h1, r1⟩ := trodAll_cons r0
  obtain ⟨rfl, rfl, rfl⟩ := trodAll_nil r1
  obtain rfl : args = #[v0, v1] := by cases args; simp_all
  obtain ⟨rfl, rfl⟩ := trodVars_none hV
  obtain ⟨cs, rfl, hsz⟩ := okWide_struct Trym.underlying25 (hval 0 25 v0 rfl rfl)
  have k0 := h0
  have lt0 : ∀ x ∈ p0, x.block < W.heap.size := by obtain ⟨m, hm⟩ := k0; exact DataW.trod_lt m _ _ _ hm
  obtain ⟨L0, hL0, hcs⟩ : ∃ L : List Int, L.length = 16 ∧ cs = cel L := by
    obtain ⟨fuel, hf⟩ := h0
    obtain ⟨L, hL, e⟩ := open25 hf
    refine ⟨L, hL, ?_⟩
    simp [Value.cells] at e
    unfold cel
    rw [← e]
  subst hcs
  obtain ⟨a1, len1, cap1, rfl⟩ := okWide_slice Trym.underlying26 (hval 1 26 v1 rfl rfl)
  have k1 := h1
  have lt1 : ∀ x ∈ p1, x.block < W.heap.size := by obtain ⟨m, hm⟩ := k1; exact DataW.trod_lt m _ _ _ hm
  obtain ⟨hnil, hm, ks, hk, hv⟩ : (a1 = none → len1 = 0 ∧ cap1 = 0) ∧ len1 ≤ maxLen ∧ ∃ ks : List (Int × Int), ks.length = len1 ∧ Has W (.slice a1 len1 cap1) ks := by
    obtain ⟨fuel, hf⟩ := h1
    exact open26 (by simpa [Value.cells] using hf)
  clear hA0 hval0
  refine (walk L0 hL0 a1 len1 cap1 ks W hk hm hnil hv).mono fun e W' ⟨he, bel⟩ => ?_
  subst he
  exact ⟨_, rfl, _, _, _, [], _, [], hW', trodAll_mk1 (shut_bool Trym.underlying4 _), (trodAll_cons_mk (Below.trod laidOut (by kernel_rfl) (of_decide_eq_true (by kernel_rfl)) k0 bel lt0) (trodAll_cons_mk (Below.trod laidOut (by kernel_rfl) (of_decide_eq_true (by kernel_rfl)) k1 bel lt1) trodAll_mk0)), rfl, bel.frame _, fun h => by cases h⟩

theorem over : Rows.fnSentCountScriptTotalsRow.holds Trym.pinned (OpenSpec.ofChange Rows.fnSentCountScriptTotalsSpec) :=
  OpenClaim.holds_of_wide 3 Trym.f3 rfl rfl rfl rfl rfl rfl rfl ⟨rfl, rfl, rfl, rfl, rfl⟩ rfl rfl rfl rfl rfl (by kernel_rfl) Trym.func3 (by kernel_rfl)
    (of_decide_eq_true (by kernel_rfl)) (by unfold Func.isWrapper; first | (rw [if_pos (by decide +kernel)]; kernel_rfl) | (rw [if_neg (by decide +kernel)]; exact ⟨rfl, rfl⟩))
    (fun os started H enc _ => lifted os started H enc)

/-- ████ THE STATEMENT ████ -/
theorem proved : Rows.FnSentCountScriptTotalsSaid := over
end Go.Proofs.Qxb6601709aMods.fnSentCountScriptTotals
