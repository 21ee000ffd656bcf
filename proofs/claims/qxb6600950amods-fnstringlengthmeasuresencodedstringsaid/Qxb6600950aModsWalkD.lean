/-
  THE WALKS of seat b6600950aM, fourth part: hexDigit, appendJSONString.
-/
import Derived.Test.Qxb6600950aModsWalkC
namespace Go.Proofs.Qxb6600950aMods
open Go.RowKit

set_option maxHeartbeats 400000 in
theorem hex_any (n : Int) (w : World) (h0 : 0 ≤ n) (h1 : n < 16) :
    Calls Trym.prog 15 #[.int .u8 n] w fun e w' => e = .returned (.int .u8 (Pl.hex n)) ∧ w' = w := by
  unfold Pl.hex
  by_cases h : n < 10
  · rw [if_pos h]
    go_enter Trym.func15, Trym.ntmps15
    go_wp2
    go_ret
    exact ⟨ret_int (by omega), rfl⟩
  · rw [if_neg h]
    go_enter Trym.func15, Trym.ntmps15
    go_wp2
    go_ret
    exact ⟨ret_int (by omega), rfl⟩

def bytes (s : ByteArray) : List Int := s.data.toList.map fun b => (b.toNat : Int)
/-- What has been written when the first k bytes are done. -/
def pre (s : ByteArray) (k : Nat) : List Int := 34 :: Pl.body ((bytes s).take k)
def ib (zs : List Int) : List Value := zs.map (Value.int .u8)

theorem pre_succ (s : ByteArray) (k : Nat) (h : k < s.size) (c : Int) (hc : c = (s[k].toNat : Int)) : pre s (k + 1) = pre s k ++ Pl.chunk c := by
  have e : (bytes s).take (k + 1) = (bytes s).take k ++ [c] := by
    have hl : k < (bytes s).length := by simpa [bytes] using h
    rw [List.take_succ_eq_append_getElem hl, hc]
    simp [bytes]
    rfl
  unfold pre
  rw [e, Pl.body_snoc]
  rfl
theorem pre_len (s : ByteArray) (k : Nat) : (pre s k).length ≤ 6 * k + 1 := by
  have := Pl.body_len ((bytes s).take k)
  have h2 : ((bytes s).take k).length ≤ k := List.length_take_le _ _
  simp [pre]; omega
theorem ib_len (zs : List Int) : (ib zs).length = zs.length := by simp [ib]
theorem ib_append (a b : List Int) : ib (a ++ b) = ib a ++ ib b := by simp [ib]

/-- v is a row of the call's own, from block B on, that holds zs; below B nothing has turned. -/
def Own (B : Nat) (w0 w : World) (v : Value) (zs : List Int) : Prop :=
  w.ownsRow B 5 1 v zs.length (ib zs) ∧ Below B w0 w ∧ B ≤ w.heap.size

theorem own_app {B : Nat} {w0 w w1 : World} {v v' : Value} {zs ys : List Int} {o : Obj} (h : Own B w0 w v zs) (n m : Nat) (hn : n = zs.length) (hm : m = ys.length)
    (h1 : w1.ownsRow B 5 1 v' (n + m) (ib zs ++ ib ys)) (hg : (w.alloc o).grownBy w1 v.ownBlock) : Own B w0 w1 v' (zs ++ ys) := by
  obtain ⟨a, b, c⟩ := h
  subst hn; subst hm
  refine ⟨by rw [List.length_append, ib_append]; exact h1, ?_, ?_⟩
  · refine (b.alloc c o).grown hg (by simp; omega) ?_
    intro k hk
    exact (a.lt k hk).1
  · have := hg.size
    simp at this; omega

theorem lit_cells (w : World) (zs : List Int) : ∀ j u, (ib zs)[j]? = some u → (w.alloc (.cells (ib zs).toArray 5)).cell? ((⟨w.heap.size, 0, none⟩ : Addr).add j) = some u := by
  intro j u h
  rw [Addr.add_lit, Nat.zero_add]
  have e : (w.alloc (.cells (ib zs).toArray 5)).heap[w.heap.size]? = some (.cells (ib zs).toArray 5) := heap_alloc_new w _
  simp only [World.cell?, e]
  simp [h]

/-- 'out = append(out, ..)' OF BYTES WRITTEN OUT, out the call's own row. -/
theorem wpList_app {w w0 : World} {ops : Array Oper} {rest : List Oper} {o : Oper} {a : Act} {Q : Exit → Act → World → Prop} (hgd : o.guard = none) (s x : Operand)
    (ho : o.op = .call { callee := .builtin .append, args := #[s, x], argTypes := #[22, 22] }) (B : Nat) (v : Value) (zs ys : List Int) (m : Nat) (hs : a.eval s = v) (hO : Own B w0 w v zs)
    (hx : a.eval x = .slice (some ⟨w.heap.size, 0, none⟩) m m) (hm : m = ys.length) (hl : zs.length + m ≤ 16777216)
    (hK : ∀ v' w', Own B w0 w' v' (zs ++ ys) → wpList Trym.prog ops Q rest (a.put o.dst v') w') : wpList Trym.prog ops Q (o :: rest) a (w.alloc (.cells (ib ys).toArray 5)) := by
  obtain ⟨i0, hi, hz0, hz1, hz2⟩ := info_parts Trym.info5
  refine wpList_append_own _ hgd s x 22 ho B 5 i0 (.int .u8 0) 1 1 Trym.underlying22 hi hz0 hz1 hz2 rfl (by decide) v zs.length (ib zs) hs (hO.1.alloc _) ⟨w.heap.size, 0, none⟩ m m (ib ys) hx (by rw [ib_len, hm, Nat.mul_one]) (lit_cells w ys) (ints_oneCell _ _) (by unfold maxLen; omega) (by omega) (by have := hO.2.2; simp; omega) ?_
  intro v' w' h1 h2 _
  exact hK v' w' (own_app hO _ _ rfl hm h1 h2)

set_option maxHeartbeats 1600000 in
theorem enc_any (B : Nat) (v0 : Value) (s : ByteArray) (w0 w : World) (hs : s.size ≤ 1048576) (hown0 : Own B w0 w v0 []) :
    Calls Trym.prog 11 #[v0, .string s] w fun e w' => ∃ v', e = .returned v' ∧ Own B w0 w' v' (Pl.enc (bytes s)) := by
  have HO : Hid (Own B w0 w v0 []) := hown0
  clear hown0
  go_enter Trym.func11, Trym.ntmps11
  go_wp2_with (at_builtin; refine wpList_app rfl (.tmp 7) (.tmp 8) rfl B v0 [] [34] 1 rfl HO.out rfl rfl (by decide) ?_)
  intro v1 w1 hO1
  have HO1 : Hid (Own B w0 w1 v1 ([] ++ [34])) := hO1
  clear hO1 HO
  go_wp2_with fail
  go_loopw [0, 5] (fun v i wr => ∃ k : Nat, k ≤ s.size ∧ i = .int .i64 k ∧ Hid (Own B w0 wr v (pre s k))) (fun _ i _ => s.size - (intOf i).toNat)
  case atStart => exact ⟨0, Nat.zero_le _, rfl, HO1⟩
  case round =>
    obtain ⟨k, hk, rfl, HOr⟩ := hrel
    clear HO1
    have hpl := pre_len s k
    have HPL : Hid ((pre s k).length ≤ 6 * k + 1) := hpl
    clear hpl
    by_cases hlt : k < s.size
    · have hc256 : (s[k].toNat : Int) < 256 := by have := s[k].toNat_lt; omega
      by_cases hq : (s[k].toNat : Int) = 34
      · have eq : ((s[k].toNat : Int) == 34) = true := by simp [hq]
        have HQ : Hid ((s[k].toNat : Int) = 34) := hq
        clear hq
        have HN : Hid (∀ v' w', Own B w0 w' v' (pre s k ++ [92, (s[k].toNat : Int)]) → Hid (Own B w0 w' v' (pre s (k + 1)))) := by
          intro v' w' h
          have e : Pl.chunk (s[k].toNat : Int) = [92, (s[k].toNat : Int)] := by unfold Pl.chunk; rw [if_pos (.inl HQ.out)]
          rw [pre_succ s k hlt _ rfl, e]
          exact h
        go_wp2_with (first | (at_builtin; refine wpList_app rfl (.tmp 25) (.tmp 27) rfl B _ (pre s k) [92, (s[k].toNat : Int)] 2 rfl HOr.out rfl rfl (by have := HPL.out; omega) ?_))
        intro v' w' hO'
        have HO' := HN.out v' w' hO'
        clear hO' HOr HN
        go_wp2_with fail
        go_roundw
        case rel => exact ⟨k + 1, by omega, by go_num, HO'⟩
        case measure => simp [intOf]; omega
      · have eq : ((s[k].toNat : Int) == 34) = false := by simp [hq]
        have HQ : Hid (¬ (s[k].toNat : Int) = 34) := hq
        clear hq
        by_cases hb : (s[k].toNat : Int) = 92
        · have eb : ((s[k].toNat : Int) == 92) = true := by simp [hb]
          have HB : Hid ((s[k].toNat : Int) = 92) := hb
          clear hb
          have HN : Hid (∀ v' w', Own B w0 w' v' (pre s k ++ [92, (s[k].toNat : Int)]) → Hid (Own B w0 w' v' (pre s (k + 1)))) := by
            intro v' w' h
            have e : Pl.chunk (s[k].toNat : Int) = [92, (s[k].toNat : Int)] := by unfold Pl.chunk; rw [if_pos (.inr HB.out)]
            rw [pre_succ s k hlt _ rfl, e]
            exact h
          go_wp2_with (first | (at_builtin; refine wpList_app rfl (.tmp 25) (.tmp 27) rfl B _ (pre s k) [92, (s[k].toNat : Int)] 2 rfl HOr.out rfl rfl (by have := HPL.out; omega) ?_))
          intro v' w' hO'
          have HO' := HN.out v' w' hO'
          clear hO' HOr HN
          go_wp2_with fail
          go_roundw
          case rel => exact ⟨k + 1, by omega, by go_num, HO'⟩
          case measure => simp [intOf]; omega
        · have eb : ((s[k].toNat : Int) == 92) = false := by simp [hb]
          have HB : Hid (¬ (s[k].toNat : Int) = 92) := hb
          clear hb
          by_cases hlo : (s[k].toNat : Int) < 32
          · have HN : Hid (∀ v' w', Own B w0 w' v' (pre s k ++ [92, 117, 48, 48, Pl.hex ((s[k].toNat : Int) / 16), Pl.hex ((s[k].toNat : Int) % 16)]) → Hid (Own B w0 w' v' (pre s (k + 1)))) := by
              intro v' w' h
              have e : Pl.chunk (s[k].toNat : Int) = [92, 117, 48, 48, Pl.hex ((s[k].toNat : Int) / 16), Pl.hex ((s[k].toNat : Int) % 16)] := by unfold Pl.chunk; rw [if_neg (by have := HB.out; have := HQ.out; omega), if_pos (.inl hlo)]
              rw [pre_succ s k hlt _ rfl, e]
              exact h
            go_wp2_with fail
            refine (hex_any _ _ (by omega) (by omega)).mono ?_
            rintro e w' ⟨rfl, rfl⟩
            go_wp2_with fail
            refine (hex_any _ _ (by omega) (by omega)).mono ?_
            rintro e w' ⟨rfl, rfl⟩
            go_wp2_with (at_builtin; refine wpList_app rfl (.tmp 35) (.tmp 42) rfl B _ (pre s k) [92, 117, 48, 48, Pl.hex ((s[k].toNat : Int) / 16), Pl.hex ((s[k].toNat : Int) % 16)] 6 rfl HOr.out rfl rfl (by have := HPL.out; omega) ?_)
            intro v' w' hO'
            have HO' := HN.out v' w' hO'
            clear hO' HOr HN
            go_wp2_with fail
            go_roundw
            case rel => exact ⟨k + 1, by omega, by go_num, HO'⟩
            case measure => simp [intOf]; omega
          · by_cases hhi : 127 ≤ (s[k].toNat : Int)
            · have HN : Hid (∀ v' w', Own B w0 w' v' (pre s k ++ [92, 117, 48, 48, Pl.hex ((s[k].toNat : Int) / 16), Pl.hex ((s[k].toNat : Int) % 16)]) → Hid (Own B w0 w' v' (pre s (k + 1)))) := by
                intro v' w' h
                have e : Pl.chunk (s[k].toNat : Int) = [92, 117, 48, 48, Pl.hex ((s[k].toNat : Int) / 16), Pl.hex ((s[k].toNat : Int) % 16)] := by unfold Pl.chunk; rw [if_neg (by have := HB.out; have := HQ.out; omega), if_pos (.inr hhi)]
                rw [pre_succ s k hlt _ rfl, e]
                exact h
              go_wp2_with fail
              refine (hex_any _ _ (by omega) (by omega)).mono ?_
              rintro e w' ⟨rfl, rfl⟩
              go_wp2_with fail
              refine (hex_any _ _ (by omega) (by omega)).mono ?_
              rintro e w' ⟨rfl, rfl⟩
              go_wp2_with (at_builtin; refine wpList_app rfl (.tmp 35) (.tmp 42) rfl B _ (pre s k) [92, 117, 48, 48, Pl.hex ((s[k].toNat : Int) / 16), Pl.hex ((s[k].toNat : Int) % 16)] 6 rfl HOr.out rfl rfl (by have := HPL.out; omega) ?_)
              intro v' w' hO'
              have HO' := HN.out v' w' hO'
              clear hO' HOr HN
              go_wp2_with fail
              go_roundw
              case rel => exact ⟨k + 1, by omega, by go_num, HO'⟩
              case measure => simp [intOf]; omega
            · have HN : Hid (∀ v' w', Own B w0 w' v' (pre s k ++ [(s[k].toNat : Int)]) → Hid (Own B w0 w' v' (pre s (k + 1)))) := by
                intro v' w' h
                have e : Pl.chunk (s[k].toNat : Int) = [(s[k].toNat : Int)] := by unfold Pl.chunk; rw [if_neg (by have := HB.out; have := HQ.out; omega), if_neg (by omega)]
                rw [pre_succ s k hlt _ rfl, e]
                exact h
              go_wp2_with (first | (at_builtin; refine wpList_app rfl (.tmp 44) (.tmp 46) rfl B _ (pre s k) [(s[k].toNat : Int)] 1 rfl HOr.out rfl rfl (by have := HPL.out; omega) ?_))
              intro v' w' hO'
              have HO' := HN.out v' w' hO'
              clear hO' HOr HN
              go_wp2_with fail
              go_roundw
              case rel => exact ⟨k + 1, by omega, by go_num, HO'⟩
              case measure => simp [intOf]; omega
    · have HE : Hid (pre s k ++ [34] = Pl.enc (bytes s)) := by
        show _ = _
        unfold pre Pl.enc
        rw [List.take_of_length_le (by simp [bytes]; omega)]
        rfl
      go_wp2_with (at_builtin; refine wpList_app rfl (.tmp 48) (.tmp 49) rfl B _ (pre s k) [34] 1 rfl HOr.out rfl rfl (by have := HPL.out; omega) ?_)
      intro v' w' hO'
      have HO' : Hid (Own B w0 w' v' (Pl.enc (bytes s))) := HE.out ▸ hO'
      clear hO' HOr
      go_wp2_with fail
      go_ret
      exact ⟨_, rfl, HO'⟩
end Go.Proofs.Qxb6600950aMods
