import Derived.Test.Qxb6603865aWalks
namespace Go.Proofs.Qxb6603865a
open Go.RowKit

/-- The call answered a bool, and where it said true p holds. -/
def Said (p : Prop) (e : Ending) : Prop := ∃ r : Bool, e = .returned (.bool r) ∧ (r = true → p)
theorem Said.no {p : Prop} : Said p (.returned (.bool false)) := ⟨false, rfl, fun h => by cases h⟩
theorem Said.yes {p : Prop} (h : p) : Said p (.returned (.bool true)) := ⟨true, rfl, fun _ => h⟩

set_option maxRecDepth 4000 in
set_option maxHeartbeats 2000000 in
theorem bytes3_any (a b c : Option Addr) (la lb lc ca cb cc : Nat) (ga gb gc : Nat → ByteArray) (w : World) (ha : RowS w a la ga) (hb : RowS w b lb gb) (hc : RowS w c lc gc) (ka : la ≤ maxLen) (kb : lb ≤ maxLen) (kc : lc ≤ maxLen) :
    Calls Try.prog 24 #[.slice a la ca, .slice b lb cb, .slice c lc cc] w fun e w' => Said (la ≤ 1048576 ∧ lb ≤ 1048576 ∧ lc ≤ 1048576) e ∧ w = w' := by
  have HA : Hid (RowS w a la ga) := ha
  have HB : Hid (RowS w b lb gb) := hb
  have HC : Hid (RowS w c lc gc) := hc
  clear ha hb hc
  unfold maxLen at ka kb kc
  by_cases hla : 1048576 < la
  · go_enter Try.func24, Try.ntmps24
    go_wp2
    go_ret
    exact ⟨Said.no, rfl⟩
  go_enter Try.func24, Try.ntmps24
  go_wp2
  go_loop [7, 8] (fun z t => ∃ (m : Int) (i : Nat), z = .int .i64 m ∧ t = .int .i64 i ∧ 0 ≤ m ∧ m ≤ 1048576 ∧ i ≤ la) (fun _ t => la - (intOf t).toNat)
  case atStart => exact ⟨la, 0, rfl, rfl, by omega, by omega, Nat.zero_le _⟩
  case round =>
    obtain ⟨m, i, rfl, rfl, h0, h1, hi⟩ := hrel
    by_cases hlt : i < la
    · obtain ⟨⟨q, off, rfl, hcl⟩, hs⟩ := HA.out i hlt
      unfold maxLen at hs
      by_cases hs2 : 1048576 < (ga i).size
      · go_wp2
        go_ret
        exact ⟨Said.no, rfl⟩
      by_cases hs3 : 1048576 < m + ((ga i).size : Int)
      · go_wp2
        go_ret
        exact ⟨Said.no, rfl⟩
      go_wp2
      go_round
      case rel => exact ⟨m + ((ga i).size : Int), i + 1, rfl, by go_num, by omega, by omega, by omega⟩
      case measure => simp [intOf]; omega
    · clear hi
      by_cases hlb : 1048576 < lb
      · go_wp2
        go_ret
        exact ⟨Said.no, rfl⟩
      by_cases hlb2 : 1048576 < m + (lb : Int)
      · go_wp2
        go_ret
        exact ⟨Said.no, rfl⟩
      go_wp2
      go_loop [7, 9] (fun z t => ∃ (m : Int) (i : Nat), z = .int .i64 m ∧ t = .int .i64 i ∧ 0 ≤ m ∧ m ≤ 1048576 ∧ i ≤ lb) (fun _ t => lb - (intOf t).toNat)
      case atStart => exact ⟨_, 0, rfl, rfl, by omega, by omega, Nat.zero_le _⟩
      case round =>
        clear h0 h1 hlb2
        obtain ⟨m, i, rfl, rfl, h0, h1, hi⟩ := hrel
        by_cases hlt : i < lb
        · obtain ⟨⟨q, off, rfl, hcl⟩, hs⟩ := HB.out i hlt
          unfold maxLen at hs
          by_cases hs2 : 1048576 < (gb i).size
          · go_wp2
            go_ret
            exact ⟨Said.no, rfl⟩
          by_cases hs3 : 1048576 < m + ((gb i).size : Int)
          · go_wp2
            go_ret
            exact ⟨Said.no, rfl⟩
          go_wp2
          go_round
          case rel => exact ⟨m + ((gb i).size : Int), i + 1, rfl, by go_num, by omega, by omega, by omega⟩
          case measure => simp [intOf]; omega
        · clear hi
          by_cases hlc : 1048576 < lc
          · go_wp2
            go_ret
            exact ⟨Said.no, rfl⟩
          by_cases hlc2 : 1048576 < m + (lc : Int)
          · go_wp2
            go_ret
            exact ⟨Said.no, rfl⟩
          go_wp2
          go_loop [7, 10] (fun z t => ∃ (m : Int) (i : Nat), z = .int .i64 m ∧ t = .int .i64 i ∧ 0 ≤ m ∧ m ≤ 1048576 ∧ i ≤ lc) (fun _ t => lc - (intOf t).toNat)
          case atStart => exact ⟨_, 0, rfl, rfl, by omega, by omega, Nat.zero_le _⟩
          case round =>
            clear h0 h1 hlc2
            obtain ⟨m, i, rfl, rfl, h0, h1, hi⟩ := hrel
            by_cases hlt : i < lc
            · obtain ⟨⟨q, off, rfl, hcl⟩, hs⟩ := HC.out i hlt
              unfold maxLen at hs
              by_cases hs2 : 1048576 < (gc i).size
              · go_wp2
                go_ret
                exact ⟨Said.no, rfl⟩
              by_cases hs3 : 1048576 < m + ((gc i).size : Int)
              · go_wp2
                go_ret
                exact ⟨Said.no, rfl⟩
              go_wp2
              go_round
              case rel => exact ⟨m + ((gc i).size : Int), i + 1, rfl, by go_num, by omega, by omega, by omega⟩
              case measure => simp [intOf]; omega
            · go_wp2
              go_ret
              exact ⟨Said.yes ⟨by omega, by omega, by omega⟩, rfl⟩

end Go.Proofs.Qxb6603865a
