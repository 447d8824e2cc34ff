import Derived.Test.Qxb6603462aRows
import Derived.Test.Qxb6603462aPlain
import Derived.WalkKit
import Derived.WalkSpells
import Derived.WalkLawsBesides
namespace Go.Proofs.Qxb6603462a
open Go.RowKit

theorem ret_bool {a b : Bool} (h : a = b) : Ending.returned (.bool a) = .returned (.bool b) := by rw [h]
theorem ret_int {k : IntKind} {a b : Int} (h : a = b) : Ending.returned (.int k a) = .returned (.int k b) := by rw [h]

set_option maxHeartbeats 400000 in
theorem isSpace_any (c : Int) (w : World) :
    Calls Try.prog 22 #[.int .u8 c] w fun e w' => e = .returned (.bool (sp c)) ∧ w' = w := by
  go_enter Try.func22, Try.ntmps22
  go_wp2
  all_goals go_ret
  all_goals exact ⟨ret_bool (by simp_all [sp]), rfl⟩

set_option maxHeartbeats 400000 in
theorem zzSp_any (c : Int) (w : World) :
    Calls Try.prog 13 #[.int .u8 c] w fun e w' => e = .returned (.bool (sp c)) ∧ w' = w := by
  go_enter Try.func13, Try.ntmps13
  go_wp2
  all_goals go_ret
  all_goals exact ⟨ret_bool (by simp_all [sp]), rfl⟩


/-- A slice of bytes of length n that reads as f: where there is an element it leads to a row of cells. -/
def Row8 (w : World) (a : Option Addr) (n : Nat) (f : Nat → Int) : Prop :=
  ∀ i, i < n → ∃ b off, a = some ⟨b, off, none⟩ ∧ w.cell? ⟨b, off + i, none⟩ = some (.int .u8 (f i))

set_option maxHeartbeats 400000 in
theorem skipSpace_any (a : Option Addr) (n c : Nat) (f : Nat → Int) (i : Nat) (w : World) (hr : Row8 w a n f) (hn : n ≤ 1048576) :
    Calls Try.prog 23 #[.slice a n c, .int .i64 i] w fun e w' => e = .returned (.int .i64 (skipTo sp f n i)) ∧ w' = w := by
  have HR : Hid (Row8 w a n f) := hr
  clear hr
  go_enter Try.func23, Try.ntmps23
  go_wp2
  go_loop [1] (fun t => ∃ k : Nat, t = .int .i64 k ∧ Hid (skipTo sp f n k = skipTo sp f n i)) (fun t => n - (intOf t).toNat)
  case atStart => exact ⟨i, rfl, rfl⟩
  case round =>
    obtain ⟨k, rfl, HK⟩ := hrel
    by_cases hlt : k < n
    · obtain ⟨b, off, ha, hc⟩ := HR.out k hlt
      subst ha
      cases hs : sp (f k)
      · have HK' : Hid (skipTo sp f n i = k) := HK.out.symm.trans (skipTo_no sp f n k hlt hs)
        clear HK
        go_wp2_with (go_at_call 22; refine (isSpace_any _ _).mono ?_; rintro e w' ⟨rfl, rfl⟩)
        go_ret
        exact ⟨ret_int (by rw [HK'.out]), rfl⟩
      · have HK' : Hid (skipTo sp f n (k + 1) = skipTo sp f n i) := (skipTo_yes sp f n k hlt hs).symm.trans HK.out
        clear HK
        go_wp2_with (go_at_call 22; refine (isSpace_any _ _).mono ?_; rintro e w' ⟨rfl, rfl⟩)
        go_round
        case rel => exact ⟨k + 1, by go_num, HK'⟩
        case measure => simp [intOf]; omega
    · have HK' : Hid (skipTo sp f n i = k) := HK.out.symm.trans (skipTo_ge sp f n k (by omega))
      clear HK
      go_wp2
      go_ret
      exact ⟨ret_int (by rw [HK'.out]), rfl⟩

end Go.Proofs.Qxb6603462a
