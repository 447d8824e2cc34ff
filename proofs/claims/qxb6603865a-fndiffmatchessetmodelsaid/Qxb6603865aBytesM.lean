import Derived.Test.Qxb6603865aMan
import Derived.Deep.CutBlock
import Derived.Deep.DeepCutAuto
namespace Go.Proofs.Qxb6603865a
open Go.RowKit

/-- Two lengths within the law's bound. -/
def Small (a b : Nat) : Prop := a ≤ 1048576 ∧ b ≤ 1048576

set_option maxRecDepth 8000 in
set_option maxHeartbeats 4000000 in
theorem bytes1_any (s0 s1 s2 s3 s4 : ByteArray) (ca : Option Addr) (cl cc : Nat) (C : Nat → ByteArray) (fa : Option Addr) (fl fc : Nat) (F : Nat → FileR) (w : World)
    (z : s0.size ≤ maxLen ∧ s1.size ≤ maxLen ∧ s2.size ≤ maxLen ∧ s3.size ≤ maxLen ∧ s4.size ≤ maxLen) (hC : RowS w ca cl C) (hF : RowF w fa fl F) (kc : cl ≤ maxLen) (kf : fl ≤ maxLen) :
    Calls Try.prog 16 #[.agg #[.string s0, .string s1, .string s2, .string s3, .string s4, .slice ca cl cc, .slice fa fl fc]] w fun e w' => Said (Small cl fl) e ∧ Below w.heap.size w w' := by
  obtain ⟨z0, z1, z2, z3, z4⟩ := z
  have HC : Hid (RowS w ca cl C) := hC
  have HF : Hid (RowF w fa fl F) := hF
  clear hC hF
  unfold maxLen at z0 z1 z2 z3 z4 kc kf
  go_enter Try.func16, Try.ntmps16
  go_upto_block 0 with fail
  all_goals try (go_ret; exact ⟨Said.no, (Below.refl _ _).alloc (Nat.le_refl _) _⟩)
  have hcl : cl ≤ 1048576 := by omega
  go_cut [3] (fun z wx => ∃ m : Int, z = .int .i64 m ∧ 0 ≤ m ∧ m ≤ 1048576 ∧ w.alloc (.cells #[.string s0, .string s1, .string s2, .string s3, .string s4, .slice ca cl cc, .slice fa fl fc] 28) = wx)
  case first =>
    go_wp2
    go_loop [3, 4] (fun z t => ∃ (m : Int) (i : Nat), z = .int .i64 m ∧ t = .int .i64 i ∧ 0 ≤ m ∧ m ≤ 1048576 ∧ i ≤ cl) (fun _ t => cl - (intOf t).toNat)
    case atStart => exact ⟨_, 0, rfl, rfl, by omega, by omega, Nat.zero_le _⟩
    case round =>
      obtain ⟨m, i, rfl, rfl, h0, h1, hi⟩ := hrel
      by_cases hlt : i < cl
      · obtain ⟨⟨q, off, rfl, hcl2⟩, hs⟩ := HC.out i hlt
        have hq := World.block_lt_of_cell? _ _ hcl2
        unfold maxLen at hs
        by_cases hs2 : 1048576 < (C i).size
        · go_wp2
          go_ret
          exact ⟨Said.no, (Below.refl _ _).alloc (Nat.le_refl _) _⟩
        by_cases hs3 : 1048576 < m + ((C i).size : Int)
        · go_wp2
          go_ret
          exact ⟨Said.no, (Below.refl _ _).alloc (Nat.le_refl _) _⟩
        go_wp2
        go_round
        case rel => exact ⟨m + ((C i).size : Int), i + 1, rfl, by go_num, by omega, by omega, by omega⟩
        case measure => simp [intOf]; omega
      · go_wp2
        go_meet
        case rel => exact ⟨m, rfl, h0, h1, rfl⟩
  case rest =>
    obtain ⟨m, rfl, h0, h1, rfl⟩ := hcut
    by_cases hfl : 1048576 < fl
    · go_wp2
      go_ret
      exact ⟨Said.no, (Below.refl _ _).alloc (Nat.le_refl _) _⟩
    by_cases hfl2 : 1048576 < m + (fl : Int)
    · go_wp2
      go_ret
      exact ⟨Said.no, (Below.refl _ _).alloc (Nat.le_refl _) _⟩
    go_wp2
    go_loop [3, 5] (fun z t => ∃ (m : Int) (i : Nat), z = .int .i64 m ∧ t = .int .i64 i ∧ 0 ≤ m ∧ m ≤ 1048576 ∧ i ≤ fl) (fun _ t => fl - (intOf t).toNat)
    case atStart => exact ⟨_, 0, rfl, rfl, by omega, by omega, Nat.zero_le _⟩
    case round =>
      clear h0 h1 hfl2
      obtain ⟨m, i, rfl, rfl, h0, h1, hi⟩ := hrel
      by_cases hlt : i < fl
      · obtain ⟨⟨q, off, rfl, f0, f1, f2, f3⟩, hs, ht⟩ := HF.out i hlt
        have hq := World.block_lt_of_cell? _ _ f0
        unfold maxLen at hs ht
        by_cases hs2 : 1048576 < (F i).path.size
        · go_wp2
          go_ret
          exact ⟨Said.no, (Below.refl _ _).alloc (Nat.le_refl _) _⟩
        by_cases hs3 : 1048576 < m + ((F i).path.size : Int)
        · go_wp2
          go_ret
          exact ⟨Said.no, (Below.refl _ _).alloc (Nat.le_refl _) _⟩
        by_cases hs4 : 1048576 < (F i).sha.size
        · go_wp2
          go_ret
          exact ⟨Said.no, (Below.refl _ _).alloc (Nat.le_refl _) _⟩
        by_cases hs5 : 1048576 < m + ((F i).path.size : Int) + ((F i).sha.size : Int)
        · go_wp2
          go_ret
          exact ⟨Said.no, (Below.refl _ _).alloc (Nat.le_refl _) _⟩
        go_wp2
        go_round
        case rel => exact ⟨m + ((F i).path.size : Int) + ((F i).sha.size : Int), i + 1, rfl, by go_num, by omega, by omega, by omega⟩
        case measure => simp [intOf]; omega
      · go_wp2
        go_ret
        exact ⟨Said.yes ⟨hcl, by omega⟩, (Below.refl _ _).alloc (Nat.le_refl _) _⟩

end Go.Proofs.Qxb6603865a
