import Derived.Test.Qxb6603865aBytes3
namespace Go.Proofs.Qxb6603865a
open Go.RowKit

theorem all_succ {g : Nat → ByteArray} {i : Nat} (h : ∀ j, j < i → (g j).size ≤ 1048576) (hi : (g i).size ≤ 1048576) : ∀ j, j < i + 1 → (g j).size ≤ 1048576 := by
  intro j hj
  by_cases e : j = i
  · rw [e]; exact hi
  · exact h j (by omega)

set_option maxRecDepth 4000 in
set_option maxHeartbeats 2000000 in
theorem bytes2_any (a b : Option Addr) (la lb ca cb : Nat) (ga gb : Nat → ByteArray) (w : World) (ha : RowS w a la ga) (hb : RowS w b lb gb) (ka : la ≤ maxLen) (kb : lb ≤ maxLen) :
    Calls Try.prog 21 #[.slice a la ca, .slice b lb cb] w fun e w' => Said ((la ≤ 1048576 ∧ lb ≤ 1048576) ∧ (∀ j, j < la → (ga j).size ≤ 1048576) ∧ (∀ j, j < lb → (gb j).size ≤ 1048576)) e ∧ w = w' := by
  have HA : Hid (RowS w a la ga) := ha
  have HB : Hid (RowS w b lb gb) := hb
  clear ha hb
  unfold maxLen at ka kb
  by_cases hla : 1048576 < la
  · go_enter Try.func21, Try.ntmps21
    go_wp2
    go_ret
    exact ⟨Said.no, rfl⟩
  go_enter Try.func21, Try.ntmps21
  go_wp2
  go_loop [5, 6] (fun z t => ∃ (m : Int) (i : Nat), z = .int .i64 m ∧ t = .int .i64 i ∧ 0 ≤ m ∧ m ≤ 1048576 ∧ i ≤ la ∧ Hid (∀ j, j < i → (ga j).size ≤ 1048576)) (fun _ t => la - (intOf t).toNat)
  case atStart => exact ⟨la, 0, rfl, rfl, by omega, by omega, Nat.zero_le _, fun j hj => absurd hj (Nat.not_lt_zero j)⟩
  case round =>
    obtain ⟨m, i, rfl, rfl, h0, h1, hi, HI⟩ := hrel
    by_cases hlt : i < la
    · obtain ⟨⟨q, off, rfl, hcl⟩, hs⟩ := HA.out i hlt
      unfold maxLen at hs
      by_cases hs2 : 1048576 < (ga i).size
      · go_wp2
        go_ret
        exact ⟨Said.no, rfl⟩
      have HI2 : Hid (∀ j, j < i + 1 → (ga j).size ≤ 1048576) := all_succ HI.out (by omega)
      clear HI
      by_cases hs3 : 1048576 < m + ((ga i).size : Int)
      · go_wp2
        go_ret
        exact ⟨Said.no, rfl⟩
      go_wp2
      go_round
      case rel => exact ⟨m + ((ga i).size : Int), i + 1, rfl, by go_num, by omega, by omega, by omega, HI2⟩
      case measure => simp [intOf]; omega
    · have hia : i = la := by omega
      have HI2 : Hid (∀ j, j < la → (ga j).size ≤ 1048576) := by rw [← hia]; exact HI.out
      clear hi HI hia
      by_cases hlb : 1048576 < lb
      · go_wp2
        go_ret
        exact ⟨Said.no, rfl⟩
      by_cases hlb2 : 1048576 < m + (lb : Int)
      · go_wp2
        go_ret
        exact ⟨Said.no, rfl⟩
      go_wp2
      go_loop [5, 7] (fun z t => ∃ (m : Int) (i : Nat), z = .int .i64 m ∧ t = .int .i64 i ∧ 0 ≤ m ∧ m ≤ 1048576 ∧ i ≤ lb ∧ Hid (∀ j, j < i → (gb j).size ≤ 1048576)) (fun _ t => lb - (intOf t).toNat)
      case atStart => exact ⟨_, 0, rfl, rfl, by omega, by omega, Nat.zero_le _, fun j hj => absurd hj (Nat.not_lt_zero j)⟩
      case round =>
        clear h0 h1 hlb2
        obtain ⟨m, i, rfl, rfl, h0, h1, hi, HI⟩ := hrel
        by_cases hlt : i < lb
        · obtain ⟨⟨q, off, rfl, hcl⟩, hs⟩ := HB.out i hlt
          unfold maxLen at hs
          by_cases hs2 : 1048576 < (gb i).size
          · go_wp2
            go_ret
            exact ⟨Said.no, rfl⟩
          have HI3 : Hid (∀ j, j < i + 1 → (gb j).size ≤ 1048576) := all_succ HI.out (by omega)
          clear HI
          by_cases hs3 : 1048576 < m + ((gb i).size : Int)
          · go_wp2
            go_ret
            exact ⟨Said.no, rfl⟩
          go_wp2
          go_round
          case rel => exact ⟨m + ((gb i).size : Int), i + 1, rfl, by go_num, by omega, by omega, by omega, HI3⟩
          case measure => simp [intOf]; omega
        · have hib : i = lb := by omega
          have HI3 : Hid (∀ j, j < lb → (gb j).size ≤ 1048576) := by rw [← hib]; exact HI.out
          clear HI hi hib
          go_wp2
          go_ret
          exact ⟨Said.yes ⟨⟨by omega, by omega⟩, HI2.out, HI3.out⟩, rfl⟩

end Go.Proofs.Qxb6603865a
