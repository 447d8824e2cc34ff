import Derived.Test.Qxb6603865aBytes2
import Derived.Test.Qxb6603865aCopy
import Derived.Test.Qxb6603865aArgvSame
namespace Go.Proofs.Qxb6603865a
open Go.RowKit

set_option maxRecDepth 4000 in
set_option maxHeartbeats 2000000 in
theorem match_is (a b : Option Addr) (la lb ca cb : Nat) (ga gb : Nat → ByteArray) (w : World) (ha : RowS w a la ga) (hb : RowS w b lb gb) (ka : la ≤ maxLen) (kb : lb ≤ maxLen) :
    Calls Try.prog 6 #[.slice a la ca, .slice b lb cb] w fun e w' => e = .returned (.bool true) ∧ Below w.heap.size w w' := by
  have HA : Hid (RowS w a la ga) := ha
  have HB : Hid (RowS w b lb gb) := hb
  clear ha hb
  go_enter Try.func6, Try.ntmps6
  go_wp2_with fail
  refine (bytes2_any a b la lb ca cb ga gb w HA.out HB.out ka kb).mono ?_
  rintro _ _ ⟨⟨r, rfl, hr⟩, rfl⟩
  cases r
  · clear hr
    go_wp2
    go_ret
    exact ⟨rfl, Below.refl _ _⟩
  · obtain ⟨⟨la', lb'⟩, sa, sb⟩ := hr rfl
    have SA : Hid (∀ j, j < la → (ga j).size ≤ 1048576) := sa
    have SB : Hid (∀ j, j < lb → (gb j).size ≤ 1048576) := sb
    clear hr ka kb sa sb
    have hq1 : ∀ w, (binOp .neq 26 (.slice a la ca) (.slice none 0 0)).run Try.prog w = .ok (.bool (!a.isNone)) w := fun w => run_neq_slice_nil_any (P := Try.prog) w 26 9 a la ca 0 0 Try.underlying26
    have hq2 : ∀ w, (binOp .neq 26 (.slice b lb cb) (.slice none 0 0)).run Try.prog w = .ok (.bool (!b.isNone)) w := fun w => run_neq_slice_nil_any (P := Try.prog) w 26 9 b lb cb 0 0 Try.underlying26
    go_upto_if 13 with fail
    go_cut [0] (fun s wx => ∃ a' c', s = .slice a' la c' ∧ Below w.heap.size w wx ∧ Hid (RowS wx a' la ga))
    case first =>
      cases a with
      | none =>
        go_wp2
        go_meet
        case rel => exact ⟨_, _, rfl, (Below.refl w.heap.size w), HA.out⟩
      | some x =>
        have hmk := make_run la la'
        have hcp : ∀ ty, (Builtin.copy_ #[26, 26] ty #[.slice (some ⟨w.heap.size, 0, none⟩) la la, .slice (some x) la ca]).run Try.prog (w.alloc (.cells (madeCells #[.string ByteArray.empty] la) 9)) = .ok (goInt la) (w.alloc (.cells (strsL ga la).toArray 9)) := fun ty => copy_run w x la ca ty ga HA.out
        go_wp2
        go_meet
        case rel => exact ⟨_, _, rfl, (Below.refl w.heap.size w).alloc (Below.refl w.heap.size w).size _, rowS_new w la ga (fun i hi => (HA.out i hi).2)⟩
    case rest =>
      obtain ⟨a1, c1, rfl, B1, A1⟩ := hcut
      have HB1 : Hid (RowS wc b lb gb) := HB.out.later B1
      clear HA HB hq1
      go_upto_if 22 with fail
      go_cut [1] (fun s wx => ∃ a' c', s = .slice a' lb c' ∧ Below w.heap.size w wx ∧ Hid (RowS wx a' lb gb) ∧ Hid (RowS wx a1 la ga))
      case first =>
        cases b with
        | none =>
          go_wp2
          go_meet
          case rel => exact ⟨_, _, rfl, B1, HB1.out, A1⟩
        | some x =>
          have hmk := make_run lb lb'
          have hcp : ∀ ty, (Builtin.copy_ #[26, 26] ty #[.slice (some ⟨wc.heap.size, 0, none⟩) lb lb, .slice (some x) lb cb]).run Try.prog (wc.alloc (.cells (madeCells #[.string ByteArray.empty] lb) 9)) = .ok (goInt lb) (wc.alloc (.cells (strsL gb lb).toArray 9)) := fun ty => copy_run wc x lb cb ty gb HB1.out
          go_wp2
          go_meet
          case rel => exact ⟨_, _, rfl, B1.alloc B1.size _, rowS_new wc lb gb (fun i hi => (HB1.out i hi).2), (A1.out.later (below1 _ _))⟩
      case rest =>
        clear A1 HB1 B1 hq2
        obtain ⟨b1, c2, rfl, B1, A2, A1⟩ := hcut
        go_wp2_with fail
        refine (argvSize_any _ _ _ _ ga _ A1.out (by omega) (by omega) la').mono ?_
        rintro _ _ ⟨m1, rfl, hm1, rfl⟩
        go_wp2_with fail
        refine (argvSize_any _ _ _ _ gb _ A2.out hm1.1 hm1.2 lb').mono ?_
        rintro _ _ ⟨m2, rfl, hm2, rfl⟩
        by_cases hbig : 1048576 < m2
        · go_wp2
          go_ret
          exact ⟨rfl, B1⟩
        · go_wp2_with fail
          refine (zzSameArgv_any _ _ _ _ _ _ ga gb _ A1.out A2.out la' lb').mono ?_
          rintro _ _ ⟨r1, rfl, e1, k1, rfl⟩
          go_wp2_with fail
          refine (argvSame_any _ _ _ _ _ _ ga gb _ (A1.out.drewN _) (A2.out.drewN _) la' lb' SA.out SB.out).mono ?_
          rintro _ w2 ⟨r2, rfl, e2, b2⟩
          have t2 : r2 = r1 := by rw [Bool.eq_iff_iff, e2.out, e1.out]
          subst t2
          have hfin : Below w.heap.size w w2 := (below_drewN B1 k1).trans (b2.mono (by have := B1.size; simpa using this))
          clear e1 e2 b2
          cases r2
          all_goals
            go_wp2
            go_ret
            exact ⟨rfl, hfin⟩

end Go.Proofs.Qxb6603865a
