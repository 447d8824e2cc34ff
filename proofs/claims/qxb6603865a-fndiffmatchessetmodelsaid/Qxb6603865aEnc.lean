import Derived.Test.Qxb6603865aWalks
import Derived.Test.Qxb6603865aPlainEnc
import Derived.Deep.CutBlock
import Derived.Deep.DeepCutAuto
namespace Go.Proofs.Qxb6603865a
open Go.RowKit

theorem info5 : (Try.prog.info? 5).map (fun i => (i.zero, i.size, i.bytes)) = some (some (.int .u8 0), 1, 1) := by kernel_rfl

/-- The cells of a list of bytes. -/
def cellsB (L : List Int) : List Value := L.map (Value.int .u8)
theorem cellsB_snoc (L : List Int) (x : Int) : cellsB (L ++ [x]) = cellsB L ++ [.int .u8 x] := by simp [cellsB]

def ssOf (g : Nat → ByteArray) (n : Nat) : List ByteArray := (List.range n).map g
theorem ssOf_succ (g : Nat → ByteArray) (n : Nat) : ssOf g (n + 1) = ssOf g n ++ [g n] := by simp [ssOf, List.range_succ]

theorem hb_eq (z k : Nat) : hb z k = (z : Int) / 2 ^ (8 * k) % 256 := by
  unfold hb
  simp
theorem one_u8 (x : Int) : ∀ u ∈ [Value.int .u8 x], u.oneCell' = true := by
  intro u hu
  simp at hu
  subst hu
  rfl

theorem strB_succ (s : ByteArray) (j : Nat) (h : j < s.size) : strB s (j + 1) = strB s j ++ [(s[j].toNat : Int)] := by
  unfold strB
  rw [List.take_succ_eq_append_getElem (by simpa using h), List.map_append]
  rfl

set_option maxRecDepth 4000 in
set_option maxHeartbeats 4000000 in
theorem enc_is (a : Option Addr) (n c : Nat) (g : Nat → ByteArray) (w : World) (hr : RowS w a n g) (hn : n ≤ 1048576) (hsz : ∀ i, i < n → (g i).size ≤ 1048576) :
    Calls Try.prog 28 #[.slice a n c] w fun e w' => ∃ v, e = .returned v ∧ w'.ownsRow w.heap.size 5 1 v (encL (ssOf g n)).length (cellsB (encL (ssOf g n))) ∧ Below w.heap.size w w' := by
  obtain ⟨ti, hi, hz0, hz1, hz2⟩ := info_parts info5
  have HR : Hid (RowS w a n g) := hr
  have HS : Hid (∀ i, i < n → (g i).size ≤ 1048576) := hsz
  clear hr hsz
  go_enter Try.func28, Try.ntmps28
  go_wp2
  go_loopg [3, 4] n (fun k v t wr => ∃ i : Nat, t = .int .i64 i ∧ k = n - i ∧ i ≤ n ∧ Below w.heap.size w wr ∧ wr.ownsRow w.heap.size 5 1 v (encL (ssOf g i)).length (cellsB (encL (ssOf g i))) ∧ (encL (ssOf g i)).length ≤ i * 1048584)
  case atStart => exact ⟨0, rfl, rfl, Nat.zero_le _, Below.refl _ _, World.ownsRow_nil _ _ _ _, Nat.zero_le _⟩
  case round =>
    obtain ⟨i, rfl, hg, hin, hbw, hown, hlen⟩ := hrel
    have HG : Hid (gk = n - i) := hg
    have HO : Hid (wr.ownsRow w.heap.size 5 1 u3 (encL (ssOf g i)).length (cellsB (encL (ssOf g i)))) := hown
    have HB : Hid (Below w.heap.size w wr) := hbw
    have HW : Hid (RowS wr a n g) := HR.out.later hbw
    clear hg hown hbw
    by_cases hlt : i < n
    · obtain ⟨⟨b, off, rfl, hc⟩, _⟩ := HW.out i hlt
      have hs := HS.out i hlt
      obtain ⟨s, hsg⟩ : ∃ s, Hid (g i = s) := ⟨_, rfl⟩
      rw [hsg.out] at hc hs
      obtain ⟨E, hE⟩ : ∃ E, Hid (encL (ssOf g i) = E) := ⟨_, rfl⟩
      rw [hE.out] at HO hlen
      have hE1 : E.length ≤ 1099520000000 := by
        have : i * 1048584 ≤ 1048576 * 1048584 := Nat.mul_le_mul_right _ (by omega)
        omega
      go_wp2
      go_loopg [3, 7] 8 (fun k v t wx => ∃ c : Nat, t = .int .i64 (7 - (c : Int)) ∧ k = 8 - c ∧ c ≤ 8 ∧ Below w.heap.size w wx ∧ wx.ownsRow w.heap.size 5 1 v (E ++ hbs s.size c).length (cellsB (E ++ hbs s.size c)))
      case atStart => exact ⟨0, rfl, rfl, by omega, HB.out, by rw [hbs, List.append_nil]; exact HO.out⟩
      case round =>
        obtain ⟨c', rfl, hg2, hc8, hbw2, hown2⟩ := hrel
        have HG2 : Hid (gk = 8 - c') := hg2
        clear hg2
        have HO2 : Hid (wr.ownsRow w.heap.size 5 1 u3 (E ++ hbs s.size c').length (cellsB (E ++ hbs s.size c'))) := hown2
        have HB2 : Hid (Below w.heap.size w wr) := hbw2
        have hl2 : (E ++ hbs s.size c').length ≤ 1099520000008 := by rw [List.length_append, hbs_length]; omega
        clear hown2 hbw2
        by_cases h8 : c' < 8
        · go_wp2_with (at_builtin; refine wpList_append_own _ rfl _ _ 65 rfl w.heap.size 5 ti (.int .u8 0) 1 1 Try.underlying65 hi hz0 hz1 hz2 rfl (by decide) _ _ _ rfl (HO2.out.alloc _) ⟨wr.heap.size, 0, none⟩ 1 1 [.int .u8 ((s.size : Int) / 2 ^ (8 * (7 - c')) % 256)] rfl rfl (cell_one_new _ _ _) (one_u8 _) (by unfold maxLen; omega) (by omega) (by have := HB2.out.size; simp; omega) ?_; intro v' w3 hown' hgrow3 hnil3)
          go_roundg (8 - (c' + 1))
          case rel =>
            refine ⟨c' + 1, by go_num, rfl, by omega, ?_, ?_⟩
            · exact (HB2.out.alloc HB2.out.size _).grown hgrow3 (by have := HB2.out.size; simp; omega) (fun q hq => (HO2.out.lt q hq).1)
            · rw [hbs, ← List.append_assoc, cellsB_snoc, List.length_append, hb_eq]
              exact hown'
          case measure => rw [HG2.out]; omega
        · have h8' : c' = 8 := by omega
          subst h8'
          have hnn : ¬ ((7 : Int) - 8 ≥ 0) := by decide
          go_wp2
          obtain ⟨D, hD⟩ : ∃ D, Hid (E ++ hbs s.size 8 = D) := ⟨_, rfl⟩
          rw [hD.out] at HO2 hl2
          go_loopg [3, 8] s.size (fun k v t wx => ∃ j : Nat, t = .int .i64 j ∧ k = s.size - j ∧ j ≤ s.size ∧ Below w.heap.size w wx ∧ wx.ownsRow w.heap.size 5 1 v (D ++ strB s j).length (cellsB (D ++ strB s j)))
          case atStart => exact ⟨0, rfl, rfl, by omega, HB2.out, by rw [strB, List.take_zero, List.map_nil, List.append_nil]; exact HO2.out⟩
          case round =>
            obtain ⟨j, rfl, hg3, hj, hbw3, hown3⟩ := hrel
            have HG3 : Hid (gk = s.size - j) := hg3
            have HO3 : Hid (wr.ownsRow w.heap.size 5 1 u3 (D ++ strB s j).length (cellsB (D ++ strB s j))) := hown3
            have HB3 : Hid (Below w.heap.size w wr) := hbw3
            have hl3 : (D ++ strB s j).length ≤ 1099540000008 := by rw [List.length_append, strB_length s j hj]; omega
            clear hg3 hown3 hbw3 HO2 HB2
            by_cases hjl : j < s.size
            · go_wp2_with (at_builtin; refine wpList_append_own _ rfl _ _ 65 rfl w.heap.size 5 ti (.int .u8 0) 1 1 Try.underlying65 hi hz0 hz1 hz2 rfl (by decide) _ _ _ rfl (HO3.out.alloc _) ⟨wr.heap.size, 0, none⟩ 1 1 [.int .u8 ((s[j].toNat : Int))] rfl rfl (cell_one_new _ _ _) (one_u8 _) (by unfold maxLen; omega) (by omega) (by have := HB3.out.size; simp; omega) ?_; intro v' w3 hown' hgrow3 hnil3)
              go_roundg (s.size - (j + 1))
              case rel =>
                refine ⟨j + 1, by go_num, rfl, by omega, ?_, ?_⟩
                · exact (HB3.out.alloc HB3.out.size _).grown hgrow3 (by have := HB3.out.size; simp; omega) (fun q hq => (HO3.out.lt q hq).1)
                · rw [strB_succ s j hjl, ← List.append_assoc, cellsB_snoc, List.length_append]
                  exact hown'
              case measure => rw [HG3.out]; omega
            · have hjs : j = s.size := by omega
              subst hjs
              have hfin : Hid (D ++ strB s s.size = encL (ssOf g (i + 1))) := by
                show _ = _
                rw [ssOf_succ, encL_snoc, hE.out, hsg.out, ← hD.out, blk, List.append_assoc]
              have hfl : (encL (ssOf g (i + 1))).length ≤ (i + 1) * 1048584 := by
                rw [← hfin.out, List.length_append, strB_length s s.size (Nat.le_refl _), ← hD.out, List.length_append, hbs_length]
                omega
              go_wp2
              go_roundg (n - (i + 1))
              case rel =>
                refine ⟨i + 1, by go_num, rfl, by omega, HB3.out, ?_, hfl⟩
                rw [← hfin.out]
                exact HO3.out
              case measure => rw [HG.out]; omega
    · have : i = n := by omega
      subst this
      go_wp2
      go_ret
      exact ⟨_, rfl, HO.out, HB.out⟩

end Go.Proofs.Qxb6603865a
