import Derived.Test.Qxb6603865aBytes8R
/- zzBytes_FnDiffMatchesSetModel (function 8): written by tools/gb8.py -/
namespace Go.Proofs.Qxb6603865a
open Go.RowKit

set_option maxRecDepth 12000 in
set_option maxHeartbeats 8000000 in
theorem bytes8_any (fp tp : Option Addr) (bl nb cl na : Nat) (B C : Nat → ByteArray) (F G : Nat → FileR) (w : World) (h1 : FromAt w fp bl B nb F) (h2 : FromAt w tp cl C na G)
    (kb : bl ≤ maxLen) (kn : nb ≤ maxLen) (kc : cl ≤ maxLen) (ka : na ≤ maxLen) :
    Calls Try.prog 8 #[.pointer fp, .pointer tp] w fun e w' => Said (SmallM bl nb B ∧ SmallM cl na C) e ∧ w = w' := by
  have H2 : Hid (FromAt w tp cl C na G) := h2
  clear h2
  unfold maxLen at kb kn kc ka
  go_enter Try.func8, Try.ntmps8
  go_upto_if 11 with fail
  go_cut [5] (fun z wx => ∃ m : Int, z = .int .i64 m ∧ 0 ≤ m ∧ m ≤ 1048576 ∧ w = wx ∧ Hid (SmallM bl nb B))
  case first =>
    clear H2
    rcases h1 with ⟨rfl, rfl, rfl⟩ | ⟨pb, po, s0, s1, s2, s3, s4, ca, cc, fa, fc, rfl, hM⟩
    · go_wp2
      go_meet
      case rel => exact ⟨0, rfl, by omega, by omega, rfl, ⟨by omega, by omega, fun j hj => absurd hj (Nat.not_lt_zero j)⟩⟩
    · have HM : Hid (ManAt w pb po s0 s1 s2 s3 s4 ca bl cc B fa nb fc F) := hM
      clear hM
      obtain ⟨c0, c1, c2, c3, c4, c5, c6, ⟨z0, z1, z2, z3, z4⟩, hC, hF, _⟩ := HM.out
      have HC : Hid (RowS w ca bl B) := hC
      have HF : Hid (RowF w fa nb F) := hF
      clear hC hF HM
      unfold maxLen at z0 z1 z2 z3 z4
      go_wp2
      all_goals try (go_ret; exact ⟨Said.no, rfl⟩)
      clear c0 c1 c2 c3 c4
      go_loop [5, 6] (fun z t => ∃ (m : Int) (i : Nat), z = .int .i64 m ∧ t = .int .i64 i ∧ 0 ≤ m ∧ m ≤ 1048576 ∧ i ≤ bl ∧ Hid (∀ j, j < i → (B j).size ≤ 1048576)) (fun _ t => bl - (intOf t).toNat)
      case atStart => exact ⟨_, 0, rfl, rfl, by omega, by omega, Nat.zero_le _, fun j hj => absurd hj (Nat.not_lt_zero j)⟩
      case round =>
        clear z0 z1 z2 z3 z4
        have q5 : bl ≤ 1048576 := by omega
        obtain ⟨m, i, rfl, rfl, h0, h1, hi, HI⟩ := hrel
        by_cases hlt : i < bl
        · obtain ⟨⟨q, off, rfl, hcl⟩, hs⟩ := HC.out i hlt
          unfold maxLen at hs
          by_cases hs2 : 1048576 < (B i).size
          · go_wp2
            go_ret
            exact ⟨Said.no, rfl⟩
          have HI2 : Hid (∀ j, j < i + 1 → (B j).size ≤ 1048576) := all_succ HI.out (by omega)
          clear HI
          by_cases hs3 : 1048576 < m + ((B i).size : Int)
          · go_wp2
            go_ret
            exact ⟨Said.no, rfl⟩
          go_wp2
          go_round
          case rel => exact ⟨m + ((B i).size : Int), i + 1, rfl, by go_num, by omega, by omega, by omega, HI2⟩
          case measure => simp [intOf]; omega
        · have hia : i = bl := by omega
          have HI2 : Hid (∀ j, j < bl → (B j).size ≤ 1048576) := by rw [← hia]; exact HI.out
          clear HI
          by_cases hfl : 1048576 < nb
          · go_wp2
            go_ret
            exact ⟨Said.no, rfl⟩
          by_cases hfl2 : 1048576 < m + (nb : Int)
          · go_wp2
            go_ret
            exact ⟨Said.no, rfl⟩
          go_wp2
          clear c5 hi hia HC
          go_loop [5, 7] (fun z t => ∃ (m : Int) (i : Nat), z = .int .i64 m ∧ t = .int .i64 i ∧ 0 ≤ m ∧ m ≤ 1048576 ∧ i ≤ nb) (fun _ t => nb - (intOf t).toNat)
          case atStart => exact ⟨_, 0, rfl, rfl, by omega, by omega, Nat.zero_le _⟩
          case round =>
            clear h0 h1 hfl2
            obtain ⟨m, i, rfl, rfl, h0, h1, hi⟩ := hrel
            by_cases hlt : i < nb
            · obtain ⟨⟨q, off, rfl, f0, f1, f2, f3⟩, hs, ht⟩ := HF.out i hlt
              clear f2 f3
              unfold maxLen at hs ht
              by_cases hs2 : 1048576 < (F i).path.size
              · go_wp2
                go_ret
                exact ⟨Said.no, rfl⟩
              by_cases hs3 : 1048576 < m + ((F i).path.size : Int)
              · go_wp2
                go_ret
                exact ⟨Said.no, rfl⟩
              by_cases hs4 : 1048576 < (F i).sha.size
              · go_wp2
                go_ret
                exact ⟨Said.no, rfl⟩
              by_cases hs5 : 1048576 < m + ((F i).path.size : Int) + ((F i).sha.size : Int)
              · go_wp2
                go_ret
                exact ⟨Said.no, rfl⟩
              go_wp2
              go_round
              case rel => exact ⟨m + ((F i).path.size : Int) + ((F i).sha.size : Int), i + 1, rfl, by go_num, by omega, by omega, by omega⟩
              case measure => simp [intOf]; omega
            · go_wp2
              go_meet
              case rel => exact ⟨_, rfl, h0, h1, rfl, ⟨by omega, by omega, HI2.out⟩⟩
  case rest =>
    rename_i hK0
    obtain ⟨m0, rfl, u0, u1, rfl, A1⟩ := hcut
    refine hK0 _ _ ?_
    exact bytes8_rest fp tp cl na C G (SmallM bl nb B) w A1 H2.out kc ka m0 u0 u1 _ _ _ _ _ _ _ _ _ _ _ _ _ _ _ _ _ _ _ _ _ _ _ _ _ _ _ _ _ _ _ _ _ _ _ _ _ _ _ _ _ _ _ _ _ _ _ _ _ _ _ _ _ _ _ _ _ _ _ _ _ _ _ _ _ _ _ _ _ _ _ _ _ _ _ _ _ _ _ _ _ _ _ _ _ _ _ _ _ _ _ _ _ _ _ _ _ _ _ _ _ _ _ _ _ _ _ _ _ _ _ _ _ _ _ _ _ _ _ _ _ _ _ _ _ _ _ _ _ _ _ _ _ _ _ _ _ _ _ _ _ _ _ _ _ _ _ _ _ _ _ _ _ _ _ _ _ _ _ _ _ _ _ _ _ _ _ _ _ _ _ _ _ _ _ _ _ _ _ _ _ _ _ _ _ _ _ _ _ _ _ _ _ _ _ _ _ _ _ _ _ _ _ _ _ _ _ _ _ _ _ _ _ _ _ _ _ _ _ _ _ _ _ _ _ _ _ _ _ _ _ _ _ _ _ _ _ _ _ _ _ _ _ _ _ _ _ _ _ _ _ _ _ _ _ _ _ _ _ _ _ _ _ _ _ _ _ _ _ _ _ _ _ _ _ _ _ _ _ _ _ _ _ _ _ _ _ _ _ _ _ _ _ _ _ _ _ _ _ _ _ _ _ _ _ _ _ _ _ _ _ _ _ _ _ _ _ _ _ _ _ _ _ _ _ _ _ _ _ _ _ _ _ _ _ _ _ _ _ _ _ _ _ _ _ _ _ _ _ _ _ _ _ _ _ _ _ _ _ _ _ _ _ _ _ _ _ _ _ _ _ _ _ _ _ _ _ _ _ _ _ _ _ _ _ _ _ _ _ _ _

end Go.Proofs.Qxb6603865a
